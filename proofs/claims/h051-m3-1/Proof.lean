import JvmDerived
import JvmDerived.Pilot.@@N@@Statement
import JvmDerived.Pilot.@@N@@Code
set_option linter.unusedVariables false
set_option linter.unusedSimpArgs false
namespace Jvm.OwnKit
open Sem ClassFile Op Lib Bundle Jvm.Stand Jvm.Free Jvm.LawKit Jvm.RoadKit
section Kit
variable {p : Program} {l : Launch} {e : Env} {R : Room} {s : State} {m : MethodId} {args : Array Value} {below : List Frame} {meth : Method} {c : Code} {Z : State} {a0 : Array Value} {EL : List (String × Nat)} {cw : Prop} {own : String} {n0 : Nat} {bytes : ByteArray} {maxL : Nat} {ret : Option FieldType} {nm : String} {T : State} {h : Heap} {C S : Nat} {sf : List Addr} {P : State → Outcome → Prop}

def Go (p : Program) (e : Env) (below : List Frame) (P : State → Outcome → Prop) (t : State) : Prop := ∃ u o, Steps p.tables e below t u ∧ P u o
theorem Go.st {t t' : State} (k : ∀ target, Steps p.tables e below t' target → Steps p.tables e below t target) (G : Go p e below P t') : Go p e below P t := by
  obtain ⟨u, o, h1, h2⟩ := G; exact ⟨u, o, k _ h1, h2⟩
theorem Go.tr {t t' : State} (k : Steps p.tables e below t t') (G : Go p e below P t') : Go p e below P t := by
  obtain ⟨u, o, h1, h2⟩ := G; exact ⟨u, o, k.trans h1, h2⟩

def Hs (p : Program) (l : Launch) (e : Env) (R : Room) (s : State) (m : MethodId) (args : Array Value) (below : List Frame) (meth : Method) (c : Code) (Z : State) (a0 : Array Value) (EL : List (String × Nat)) (cw : Prop) (own : String) (n0 : Nat) (bytes : ByteArray) (maxL : Nat) (ret : Option FieldType) (nm : String) (T : State) (h : Heap) (C S : Nat) (sf : List Addr) : Prop :=
  (p.tables.exec = Jvm.exec ∧ EW Z a0 EL ∧ c.code = bytes ∧ c.maxLocals = maxL ∧ meth.sig.returnType = ret ∧ meth.locks = false ∧ meth.name = nm ∧ n0 ≤ s.heap.size) ∧
  ∃ (vm0 : Vm) (k0 : Nat) (locs : List Loc), Stand p l e R (s.setVm vm0) m args below meth c T locs C S ∧ T.heap = h ∧ s.Since vm0 k0 ∧ k0 ≤ h.size ∧ Z.Warmed39 vm0 ∧ vm0.findClass own = some m.cls ∧ Fr n0 locs ∧ CHr Z EL s.vm s.heap vm0 h ∧ (∀ x ∈ sf, x < h.size ∧ Safe Z EL vm0 h x) ∧ (cw ∨ s.WarmedH vm0) ∧ Old Z n0 h

theorem Hs.here (H : Hs p l e R s m args below meth c Z a0 EL cw own n0 bytes maxL ret nm T h C S sf) : At T m c below := by
  obtain ⟨-, vm0, k0, locs, X, -⟩ := H; exact X.here
theorem Hs.exec (H : Hs p l e R s m args below meth c Z a0 EL cw own n0 bytes maxL ret nm T h C S sf) : p.tables.exec = Jvm.exec := H.1.1
theorem Hs.dec (H : Hs p l e R s m args below meth c Z a0 EL cw own n0 bytes maxL ret nm T h C S sf) {pc : Nat} {r : Except ClassFile.DecodeError (ClassFile.Instr × Nat)} (hd : decode bytes pc = r) : decode c.code pc = r := by rw [H.1.2.2.1]; exact hd
theorem Hs.le (H : Hs p l e R s m args below meth c Z a0 EL cw own n0 bytes maxL ret nm T h C S sf) : n0 ≤ h.size := by
  obtain ⟨⟨-, -, -, -, -, -, -, hn⟩, vm0, k0, locs, -, -, -, -, -, -, -, hC, -⟩ := H
  exact Nat.le_trans hn hC.2.1
theorem Hs.nle {a : Addr} (H : Hs p l e R s m args below meth c Z a0 EL cw own n0 bytes maxL ret nm T h C S sf) (g : a = h.size) : n0 ≤ a := Nat.le_trans H.le (Nat.le_of_eq g.symm)
theorem Hs.old (H : Hs p l e R s m args below meth c Z a0 EL cw own n0 bytes maxL ret nm T h C S sf) : Old Z n0 h := by
  obtain ⟨-, vm0, k0, locs, -, -, -, -, -, -, -, -, -, -, hO⟩ := H; exact hO
theorem Hs.mono (H : Hs p l e R s m args below meth c Z a0 EL cw own n0 bytes maxL ret nm T h C S sf) {C' S' : Nat} (hc : C ≤ C') (hs : S ≤ S') : Hs p l e R s m args below meth c Z a0 EL cw own n0 bytes maxL ret nm T h C' S' sf := by
  obtain ⟨hM, vm0, k0, locs, X, r⟩ := H
  exact ⟨hM, vm0, k0, locs, X.mono hc hs, r⟩
theorem Hs.less (H : Hs p l e R s m args below meth c Z a0 EL cw own n0 bytes maxL ret nm T h C S sf) {sf' : List Addr} (hs : ∀ x ∈ sf', x ∈ sf) : Hs p l e R s m args below meth c Z a0 EL cw own n0 bytes maxL ret nm T h C S sf' := by
  obtain ⟨hM, vm0, k0, locs, X, h1, h2, h3, h4, h5, h6, h7, h8, h9, hO⟩ := H
  exact ⟨hM, vm0, k0, locs, X, h1, h2, h3, h4, h5, h6, h7, fun x hx => h8 x (hs x hx), h9, hO⟩
def Sf (Z : State) (EL : List (String × Nat)) (h : Heap) (sf : List Addr) (a : Addr) : Prop := a ∈ sf ∨ (∃ K, Exa Z h a K ∧ K ≠ "java/lang/String" ∧ K ≠ "[B") ∨ ∃ cl ty, Arr Z h a cl ty ∧ ty ≠ .byte
theorem Sf.mem {a : Addr} (q : a ∈ sf) : Sf Z EL h sf a := Or.inl q
theorem Sf.exa {a : Addr} {K : String} (E : Exa Z h a K) (h1 : K ≠ "java/lang/String" := by decide) (h2 : K ≠ "[B" := by decide) : Sf Z EL h sf a := Or.inr (Or.inl ⟨K, E, h1, h2⟩)
theorem Sf.arr {a : Addr} {k : ClassId} {ty : FieldType} {z : Int32} {vs : List Value} {dv : Value} (A : Arv Z h a k ty z vs dv) (ht : ty ≠ .byte := by decide) : Sf Z EL h sf a := by
  obtain ⟨cl, A, -⟩ := A; exact Or.inr (Or.inr ⟨cl, ty, A, ht⟩)
theorem Sf.safe {a : Addr} {vm0 : Vm} (hZ : Z.Warmed39 vm0) (hs : ∀ x ∈ sf, x < h.size ∧ Safe Z EL vm0 h x) (q : Sf Z EL h sf a) : Safe Z EL vm0 h a := by
  rcases q with q | ⟨K, E, h1, h2⟩ | ⟨cl, ty, A, ht⟩
  · exact (hs a q).2
  · exact Safe.exa hZ.alike E h1 h2
  · exact Safe.arr hZ.alike A ht

theorem G.getF (H : Hs p l e R s m args below meth c Z a0 EL cw own n0 bytes maxL ret nm T h C S sf) {R0 O n d : String} {index : Nat} (w : (Cond.fieldLink own index R0 n d).before a0 Z = true) (via : Via Z R0 O n d) {a : Addr} {v : Value} (F : Fld Z h a O n d v) {pc J : Nat} {L : Array Slot} {st : List Value} (hd : decode bytes pc = .ok (.getfield index, 3)) (hp : pc + 3 = J)
    (k : ∀ T', Hs p l e R s m args below meth c Z a0 EL cw own n0 bytes maxL ret nm T' h C S sf → Go p e below P (T'.setTop (mkF m J L (v :: st)))) : Go p e below P (T.setTop (mkF m pc L (.ref a :: st))) := by
  subst hp
  obtain ⟨hM, vm0, k0, locs, X, h1, h2, h3, h4, h5, h6, h7, h8, h9, hO⟩ := id H
  obtain ⟨T', X', e', st'⟩ := RoadKit.getF X H.exec h4 (host := "") h5 (Or.inl w) via h1 F (g := mkF m pc L (.ref a :: st)) rfl rfl (H.dec hd)
  exact Go.st st' (k T' ⟨hM, vm0, k0, locs, X', e', h2, h3, h4, h5, h6, h7, h8, h9, hO⟩)
theorem G.getS (H : Hs p l e R s m args below meth c Z a0 EL cw own n0 bytes maxL ret nm T h C S sf) {R0 O n d : String} {index : Nat} (w : (Cond.fieldLink own index R0 n d).before a0 Z = true) (via : Via Z R0 O n d) {v : Value} (F : Sta Z h O n d v) {pc J : Nat} {L : Array Slot} {st : List Value} (hd : decode bytes pc = .ok (.getstatic index, 3)) (hp : pc + 3 = J)
    (k : ∀ T', Hs p l e R s m args below meth c Z a0 EL cw own n0 bytes maxL ret nm T' h C S sf → Go p e below P (T'.setTop (mkF m J L (v :: st)))) : Go p e below P (T.setTop (mkF m pc L st)) := by
  subst hp
  obtain ⟨hM, vm0, k0, locs, X, h1, h2, h3, h4, h5, h6, h7, h8, h9, hO⟩ := id H
  obtain ⟨T', X', e', st'⟩ := RoadKit.getS (host := "") X H.exec h4 h5 w via h1 F (g := mkF m pc L st) rfl (H.dec hd)
  exact Go.st st' (k T' ⟨hM, vm0, k0, locs, X', e', h2, h3, h4, h5, h6, h7, h8, h9, hO⟩)
theorem G.castY (H : Hs p l e R s m args below meth c Z a0 EL cw own n0 bytes maxL ret nm T h C S sf) {K : String} {index : Nat} (w : (Cond.classLink own index K).before a0 Z = true) {a : Addr} (F : Ins Z h a K true) {pc J : Nat} {L : Array Slot} {st : List Value} (hd : decode bytes pc = .ok (.checkcast index, 3)) (hp : pc + 3 = J)
    (k : ∀ T', Hs p l e R s m args below meth c Z a0 EL cw own n0 bytes maxL ret nm T' h C S sf → Go p e below P (T'.setTop (mkF m J L (.ref a :: st)))) : Go p e below P (T.setTop (mkF m pc L (.ref a :: st))) := by
  subst hp
  obtain ⟨hM, vm0, k0, locs, X, h1, h2, h3, h4, h5, h6, h7, h8, h9, hO⟩ := id H
  obtain ⟨T', X', e', st'⟩ := RoadKit.castY X H.exec h4 h5 w h1 F (g := mkF m pc L (.ref a :: st)) rfl rfl (H.dec hd)
  exact Go.st st' (k T' ⟨hM, vm0, k0, locs, X', e', h2, h3, h4, h5, h6, h7, h8, h9, hO⟩)
theorem G.initO (H : Hs p l e R s m args below meth c Z a0 EL cw own n0 bytes maxL ret nm T h C S sf) {index : Nat} (w1 : (Cond.methodLink own index Lib.objectInit).before a0 Z = true) (w2 : (Cond.instanceMethod Lib.objectInit).before a0 Z = true) (w3 : (Cond.code Lib.objectInit ⟨#[0xb1]⟩ 1 none).before a0 Z = true) {a : Addr} {pc J : Nat} {L : Array Slot} {st : List Value} (hL : L.size = maxL) (hd : decode bytes pc = .ok (.invokespecial index, 3)) (hp : pc + 3 = J) (hf : 1 ≤ R.frames) {W : Nat} (hW : (st.map fun v => v.category).sum = W) (hl : W + 12 ≤ R.locals)
    (k : ∀ T', Hs p l e R s m args below meth c Z a0 EL cw own n0 bytes maxL ret nm T' h C S sf → Go p e below P (T'.setTop (mkF m J L st))) : Go p e below P (T.setTop (mkF m pc L (.ref a :: st))) := by
  subst hp
  obtain ⟨hM, vm0, k0, locs, X, h1, h2, h3, h4, h5, h6, h7, h8, h9, hO⟩ := id H
  obtain ⟨T', X', e', st'⟩ := RoadKit.initO X H.exec h4 h5 w1 w2 w3 h1 (g := mkF m pc L (.ref a :: st)) rfl (by rw [hM.2.2.2.1]; exact hL) rfl (H.dec hd) hf (W := W) (by show 2 * 0 + _ ≤ _; omega) hl
  exact Go.st st' (k T' ⟨hM, vm0, k0, locs, X', e', h2, h3, h4, h5, h6, h7, h8, h9, hO⟩)
theorem G.aR (H : Hs p l e R s m args below meth c Z a0 EL cw own n0 bytes maxL ret nm T h C S sf) {a : Addr} {kc : ClassId} {ty : FieldType} {z : Int32} {vs : List Value} {dv : Value} (A : Arv Z h a kc ty z vs dv) {pc J : Nat} {L : Array Slot} {st : List Value} (hd : decode bytes pc = .ok (.arraylength, 1)) (hp : pc + 1 = J) (k : Go p e below P (T.setTop (mkF m J L (.int z :: st)))) : Go p e below P (T.setTop (mkF m pc L (.ref a :: st))) := by
  subst hp
  obtain ⟨hM, vm0, k0, locs, X, h1, h2, h3, h4, h5, h6, h7, h8, h9, hO⟩ := id H
  obtain ⟨cl, Ar, q1, S1, q3, H1, G1⟩ := A
  refine Go.st (fun t kk => X.arraylength H.exec (cell := cl) (by rw [h1]; exact Ar.1) (State.isArrayOf_alike (s := Z) h4.alike Ar.2.1) (g := mkF m pc L (.ref a :: st)) rfl rfl (H.dec hd) t ?_) k
  rw [len_of S1 q3]; exact kk
theorem G.caloadG (H : Hs p l e R s m args below meth c Z a0 EL cw own n0 bytes maxL ret nm T h C S sf) {a : Addr} {kc : ClassId} {z : Int32} {vs : List Value} {dv : Value} (A : Arv Z h a kc .char z vs dv) {j : Int32} {v : Value} (hj : ¬ j < 0 ∧ j < z) (hv : vs.getD j.toNatClampNeg dv = v) {pc J : Nat} {L : Array Slot} {st : List Value} (hd : decode bytes pc = .ok (.caload, 1)) (hp : pc + 1 = J) (k : Go p e below P (T.setTop (mkF m J L (v :: st)))) : Go p e below P (T.setTop (mkF m pc L (.int j :: .ref a :: st))) := by
  subst hp
  obtain ⟨hM, vm0, k0, locs, X, h1, h2, h3, h4, h5, h6, h7, h8, h9, hO⟩ := id H
  obtain ⟨cl, Ar, q1, S1, q3, H1, G1⟩ := A
  exact Go.st (fun t kk => X.caload H.exec (cell := cl) (by rw [h1]; exact Ar.1) (State.isArrayOf_alike (s := Z) h4.alike Ar.2.1) Ar.2.2 (inb_of S1 hj) (Has.at H1 (inb_of S1 hj) hv) (g := mkF m pc L (.int j :: .ref a :: st)) rfl rfl (H.dec hd) t kk) k
theorem G.baloadG (H : Hs p l e R s m args below meth c Z a0 EL cw own n0 bytes maxL ret nm T h C S sf) {a : Addr} {kc : ClassId} {z : Int32} {vs : List Value} {dv : Value} (A : Arv Z h a kc .byte z vs dv) {j : Int32} {v : Value} (hj : ¬ j < 0 ∧ j < z) (hv : vs.getD j.toNatClampNeg dv = v) {pc J : Nat} {L : Array Slot} {st : List Value} (hd : decode bytes pc = .ok (.baload, 1)) (hp : pc + 1 = J) (k : Go p e below P (T.setTop (mkF m J L (v :: st)))) : Go p e below P (T.setTop (mkF m pc L (.int j :: .ref a :: st))) := by
  subst hp
  obtain ⟨hM, vm0, k0, locs, X, h1, h2, h3, h4, h5, h6, h7, h8, h9, hO⟩ := id H
  obtain ⟨cl, Ar, q1, S1, q3, H1, G1⟩ := A
  exact Go.st (fun t kk => X.baloadBytes H.exec (cell := cl) (by rw [h1]; exact Ar.1) (State.isArrayOf_alike (s := Z) h4.alike Ar.2.1) Ar.2.2 (inb_of S1 hj) (Has.at H1 (inb_of S1 hj) hv) (g := mkF m pc L (.int j :: .ref a :: st)) rfl rfl (H.dec hd) t kk) k
theorem G.aaloadG (H : Hs p l e R s m args below meth c Z a0 EL cw own n0 bytes maxL ret nm T h C S sf) {a : Addr} {kc : ClassId} {ty : FieldType} {z : Int32} {vs : List Value} {dv : Value} (A : Arv Z h a kc ty z vs dv) (hty : ty.isReference = true) {j : Int32} {v : Value} (hj : ¬ j < 0 ∧ j < z) (hv : vs.getD j.toNatClampNeg dv = v) {pc J : Nat} {L : Array Slot} {st : List Value} (hd : decode bytes pc = .ok (.aaload, 1)) (hp : pc + 1 = J) (k : Go p e below P (T.setTop (mkF m J L (v :: st)))) : Go p e below P (T.setTop (mkF m pc L (.int j :: .ref a :: st))) := by
  subst hp
  obtain ⟨hM, vm0, k0, locs, X, h1, h2, h3, h4, h5, h6, h7, h8, h9, hO⟩ := id H
  obtain ⟨cl, Ar, q1, S1, q3, H1, G1⟩ := A
  exact Go.st (fun t kk => X.aaload H.exec (cell := cl) (by rw [h1]; exact Ar.1) (State.isArrayOf_alike (s := Z) h4.alike Ar.2.1) hty Ar.2.2 (inb_of S1 hj) (Has.at H1 (inb_of S1 hj) hv) (g := mkF m pc L (.int j :: .ref a :: st)) rfl rfl (H.dec hd) t kk) k
theorem G.ldcI (H : Hs p l e R s m args below meth c Z a0 EL cw own n0 bytes maxL ret nm T h C S sf) {index : Nat} {v : Int32} (w : (Cond.constant own index v).before a0 Z = true) {pc J : Nat} {L : Array Slot} {st : List Value} (hd : decode bytes pc = .ok (.ldc index, 2)) (hp : pc + 2 = J) (k : Go p e below P (T.setTop (mkF m J L (.int v :: st)))) : Go p e below P (T.setTop (mkF m pc L st)) := by
  subst hp
  obtain ⟨hM, vm0, k0, locs, X, h1, h2, h3, h4, h5, h6, h7, h8, h9, hO⟩ := id H
  exact Go.st (fun t kk => Jvm.Stand.ldcI X H.exec h5 (mv h4 w) (g := mkF m pc L st) rfl (H.dec hd) kk) k
theorem G.aN (H : Hs p l e R s m args below meth c Z a0 EL cw own n0 bytes maxL ret nm T h C S sf) {i : Fin 4} {v : Value} {pc J : Nat} {L : Array Slot} {st : List Value} (hd : decode bytes pc = .ok (.aload_n i, 1)) (hp : pc + 1 = J) (hl : L[i.val]? = some (.val v)) (hv : v.isRef = true) (k : Go p e below P (T.setTop (mkF m J L (v :: st)))) : Go p e below P (T.setTop (mkF m pc L (st))) := by
  subst hp
  exact Go.st (fun t kk => XS.aloadN H.here H.exec (g := mkF m pc L (st)) rfl (H.dec hd) hl hv kk) k
theorem G.aL (H : Hs p l e R s m args below meth c Z a0 EL cw own n0 bytes maxL ret nm T h C S sf) {i : Nat} {v : Value} {pc J : Nat} {L : Array Slot} {st : List Value} (hd : decode bytes pc = .ok (.aload i, 2)) (hp : pc + 2 = J) (hl : L[i]? = some (.val v)) (hv : v.isRef = true) (k : Go p e below P (T.setTop (mkF m J L (v :: st)))) : Go p e below P (T.setTop (mkF m pc L (st))) := by
  subst hp
  exact Go.st (fun t kk => XS.aload H.here H.exec (g := mkF m pc L (st)) rfl (H.dec hd) hl hv kk) k
theorem G.iN (H : Hs p l e R s m args below meth c Z a0 EL cw own n0 bytes maxL ret nm T h C S sf) {i : Fin 4} {v : Int32} {pc J : Nat} {L : Array Slot} {st : List Value} (hd : decode bytes pc = .ok (.iload_n i, 1)) (hp : pc + 1 = J) (hl : L[i.val]? = some (.val (.int v))) (k : Go p e below P (T.setTop (mkF m J L (.int v :: st)))) : Go p e below P (T.setTop (mkF m pc L (st))) := by
  subst hp
  exact Go.st (fun t kk => XS.iloadN H.here H.exec (g := mkF m pc L (st)) rfl (H.dec hd) hl kk) k
theorem G.iL (H : Hs p l e R s m args below meth c Z a0 EL cw own n0 bytes maxL ret nm T h C S sf) {i : Nat} {v : Int32} {pc J : Nat} {L : Array Slot} {st : List Value} (hd : decode bytes pc = .ok (.iload i, 2)) (hp : pc + 2 = J) (hl : L[i]? = some (.val (.int v))) (k : Go p e below P (T.setTop (mkF m J L (.int v :: st)))) : Go p e below P (T.setTop (mkF m pc L (st))) := by
  subst hp
  exact Go.st (fun t kk => XS.iload H.here H.exec (g := mkF m pc L (st)) rfl (H.dec hd) hl kk) k
theorem G.iC (H : Hs p l e R s m args below meth c Z a0 EL cw own n0 bytes maxL ret nm T h C S sf) {i : Int} {v : Int32} {pc J : Nat} {L : Array Slot} {st : List Value} (hd : decode bytes pc = .ok (.iconst i, 1)) (hp : pc + 1 = J) (hv : Int32.ofInt i = v) (k : Go p e below P (T.setTop (mkF m J L (.int v :: st)))) : Go p e below P (T.setTop (mkF m pc L (st))) := by
  subst hp; subst hv
  exact Go.st (fun t kk => XS.iconst H.here H.exec (g := mkF m pc L (st)) rfl (H.dec hd) kk) k
theorem G.bP (H : Hs p l e R s m args below meth c Z a0 EL cw own n0 bytes maxL ret nm T h C S sf) {i : Int} {v : Int32} {pc J : Nat} {L : Array Slot} {st : List Value} (hd : decode bytes pc = .ok (.bipush i, 2)) (hp : pc + 2 = J) (hv : (Int8.ofInt i).toInt32 = v) (k : Go p e below P (T.setTop (mkF m J L (.int v :: st)))) : Go p e below P (T.setTop (mkF m pc L (st))) := by
  subst hp; subst hv
  exact Go.st (fun t kk => XS.bipush H.here H.exec (g := mkF m pc L (st)) rfl (H.dec hd) kk) k
theorem G.sP (H : Hs p l e R s m args below meth c Z a0 EL cw own n0 bytes maxL ret nm T h C S sf) {i : Int} {v : Int32} {pc J : Nat} {L : Array Slot} {st : List Value} (hd : decode bytes pc = .ok (.sipush i, 3)) (hp : pc + 3 = J) (hv : (Int16.ofInt i).toInt32 = v) (k : Go p e below P (T.setTop (mkF m J L (.int v :: st)))) : Go p e below P (T.setTop (mkF m pc L (st))) := by
  subst hp; subst hv
  exact Go.st (fun t kk => XS.sipush H.here H.exec (g := mkF m pc L (st)) rfl (H.dec hd) kk) k
theorem G.aconstNull (H : Hs p l e R s m args below meth c Z a0 EL cw own n0 bytes maxL ret nm T h C S sf) {pc J : Nat} {L : Array Slot} {st : List Value} (hd : decode bytes pc = .ok (.aconst_null, 1)) (hp : pc + 1 = J) (k : Go p e below P (T.setTop (mkF m J L (.null :: st)))) : Go p e below P (T.setTop (mkF m pc L (st))) := by
  subst hp
  exact Go.st (fun t kk => XS.aconstNull H.here H.exec (g := mkF m pc L (st)) rfl (H.dec hd) kk) k
theorem G.iadd (H : Hs p l e R s m args below meth c Z a0 EL cw own n0 bytes maxL ret nm T h C S sf) {x y : Int32} {pc J : Nat} {L : Array Slot} {st : List Value} (hd : decode bytes pc = .ok (.iadd, 1)) (hp : pc + 1 = J) (k : Go p e below P (T.setTop (mkF m J L (.int (x + y) :: st)))) : Go p e below P (T.setTop (mkF m pc L (.int y :: .int x :: st))) := by
  subst hp
  exact Go.st (fun t kk => XS.iadd H.here H.exec (g := mkF m pc L (.int y :: .int x :: st)) rfl (H.dec hd) rfl kk) k
theorem G.isub (H : Hs p l e R s m args below meth c Z a0 EL cw own n0 bytes maxL ret nm T h C S sf) {x y : Int32} {pc J : Nat} {L : Array Slot} {st : List Value} (hd : decode bytes pc = .ok (.isub, 1)) (hp : pc + 1 = J) (k : Go p e below P (T.setTop (mkF m J L (.int (x - y) :: st)))) : Go p e below P (T.setTop (mkF m pc L (.int y :: .int x :: st))) := by
  subst hp
  exact Go.st (fun t kk => XS.isub H.here H.exec (g := mkF m pc L (.int y :: .int x :: st)) rfl (H.dec hd) rfl kk) k
theorem G.iand (H : Hs p l e R s m args below meth c Z a0 EL cw own n0 bytes maxL ret nm T h C S sf) {x y : Int32} {pc J : Nat} {L : Array Slot} {st : List Value} (hd : decode bytes pc = .ok (.iand, 1)) (hp : pc + 1 = J) (k : Go p e below P (T.setTop (mkF m J L (.int (x &&& y) :: st)))) : Go p e below P (T.setTop (mkF m pc L (.int y :: .int x :: st))) := by
  subst hp
  exact Go.st (fun t kk => XS.iand H.here H.exec (g := mkF m pc L (.int y :: .int x :: st)) rfl (H.dec hd) rfl kk) k
theorem G.imul (H : Hs p l e R s m args below meth c Z a0 EL cw own n0 bytes maxL ret nm T h C S sf) {x y : Int32} {pc J : Nat} {L : Array Slot} {st : List Value} (hd : decode bytes pc = .ok (.imul, 1)) (hp : pc + 1 = J) (k : Go p e below P (T.setTop (mkF m J L (.int (x * y) :: st)))) : Go p e below P (T.setTop (mkF m pc L (.int y :: .int x :: st))) := by
  subst hp
  exact Go.st (fun t kk => XS.imul H.here H.exec (g := mkF m pc L (.int y :: .int x :: st)) rfl (H.dec hd) rfl kk) k
theorem G.ior (H : Hs p l e R s m args below meth c Z a0 EL cw own n0 bytes maxL ret nm T h C S sf) {x y : Int32} {pc J : Nat} {L : Array Slot} {st : List Value} (hd : decode bytes pc = .ok (.ior, 1)) (hp : pc + 1 = J) (k : Go p e below P (T.setTop (mkF m J L (.int (x ||| y) :: st)))) : Go p e below P (T.setTop (mkF m pc L (.int y :: .int x :: st))) := by
  subst hp
  exact Go.st (fun t kk => XT.ior H.here H.exec (g := mkF m pc L (.int y :: .int x :: st)) rfl (H.dec hd) rfl kk) k
theorem G.ixor (H : Hs p l e R s m args below meth c Z a0 EL cw own n0 bytes maxL ret nm T h C S sf) {x y : Int32} {pc J : Nat} {L : Array Slot} {st : List Value} (hd : decode bytes pc = .ok (.ixor, 1)) (hp : pc + 1 = J) (k : Go p e below P (T.setTop (mkF m J L (.int (x ^^^ y) :: st)))) : Go p e below P (T.setTop (mkF m pc L (.int y :: .int x :: st))) := by
  subst hp
  exact Go.st (fun t kk => XT.ixor H.here H.exec (g := mkF m pc L (.int y :: .int x :: st)) rfl (H.dec hd) rfl kk) k
theorem G.ishl (H : Hs p l e R s m args below meth c Z a0 EL cw own n0 bytes maxL ret nm T h C S sf) {x y : Int32} {pc J : Nat} {L : Array Slot} {st : List Value} (hd : decode bytes pc = .ok (.ishl, 1)) (hp : pc + 1 = J) (k : Go p e below P (T.setTop (mkF m J L (.int (x <<< (y &&& 31)) :: st)))) : Go p e below P (T.setTop (mkF m pc L (.int y :: .int x :: st))) := by
  subst hp
  exact Go.st (fun t kk => XT.ishl H.here H.exec (g := mkF m pc L (.int y :: .int x :: st)) rfl (H.dec hd) rfl kk) k
theorem G.ishr (H : Hs p l e R s m args below meth c Z a0 EL cw own n0 bytes maxL ret nm T h C S sf) {x y : Int32} {pc J : Nat} {L : Array Slot} {st : List Value} (hd : decode bytes pc = .ok (.ishr, 1)) (hp : pc + 1 = J) (k : Go p e below P (T.setTop (mkF m J L (.int (x >>> (y &&& 31)) :: st)))) : Go p e below P (T.setTop (mkF m pc L (.int y :: .int x :: st))) := by
  subst hp
  exact Go.st (fun t kk => XT.ishr H.here H.exec (g := mkF m pc L (.int y :: .int x :: st)) rfl (H.dec hd) rfl kk) k
theorem G.iushr (H : Hs p l e R s m args below meth c Z a0 EL cw own n0 bytes maxL ret nm T h C S sf) {x y : Int32} {pc J : Nat} {L : Array Slot} {st : List Value} (hd : decode bytes pc = .ok (.iushr, 1)) (hp : pc + 1 = J) (k : Go p e below P (T.setTop (mkF m J L (.int (XT.ushr x y) :: st)))) : Go p e below P (T.setTop (mkF m pc L (.int y :: .int x :: st))) := by
  subst hp
  exact Go.st (fun t kk => XT.iushr H.here H.exec (g := mkF m pc L (.int y :: .int x :: st)) rfl (H.dec hd) rfl kk) k
theorem G.irem (H : Hs p l e R s m args below meth c Z a0 EL cw own n0 bytes maxL ret nm T h C S sf) {x y : Int32} {pc J : Nat} {L : Array Slot} {st : List Value} (hd : decode bytes pc = .ok (.irem, 1)) (hp : pc + 1 = J) (hy : y ≠ 0) (k : Go p e below P (T.setTop (mkF m J L (.int (x % y) :: st)))) : Go p e below P (T.setTop (mkF m pc L (.int y :: .int x :: st))) := by
  subst hp
  obtain ⟨-, vm0, k0, locs, X, -⟩ := id H
  exact Go.st (fun t kk => iremM X H.exec (g := mkF m pc L (.int y :: .int x :: st)) rfl (H.dec hd) rfl hy kk) k
theorem G.ladd (H : Hs p l e R s m args below meth c Z a0 EL cw own n0 bytes maxL ret nm T h C S sf) {x y : Int64} {pc J : Nat} {L : Array Slot} {st : List Value} (hd : decode bytes pc = .ok (.ladd, 1)) (hp : pc + 1 = J) (k : Go p e below P (T.setTop (mkF m J L (.long (x + y) :: st)))) : Go p e below P (T.setTop (mkF m pc L (.long y :: .long x :: st))) := by
  subst hp
  exact Go.st (fun t kk => XT.ladd H.here H.exec (g := mkF m pc L (.long y :: .long x :: st)) rfl (H.dec hd) rfl kk) k
theorem G.i2l (H : Hs p l e R s m args below meth c Z a0 EL cw own n0 bytes maxL ret nm T h C S sf) {x : Int32} {pc J : Nat} {L : Array Slot} {st : List Value} (hd : decode bytes pc = .ok (.i2l, 1)) (hp : pc + 1 = J) (k : Go p e below P (T.setTop (mkF m J L (.long (x.toInt64) :: st)))) : Go p e below P (T.setTop (mkF m pc L (.int x :: st))) := by
  subst hp
  exact Go.st (fun t kk => XT.i2l H.here H.exec (g := mkF m pc L (.int x :: st)) rfl (H.dec hd) rfl kk) k
theorem G.i2b (H : Hs p l e R s m args below meth c Z a0 EL cw own n0 bytes maxL ret nm T h C S sf) {x : Int32} {pc J : Nat} {L : Array Slot} {st : List Value} (hd : decode bytes pc = .ok (.i2b, 1)) (hp : pc + 1 = J) (k : Go p e below P (T.setTop (mkF m J L (.int (x.toInt8.toInt32) :: st)))) : Go p e below P (T.setTop (mkF m pc L (.int x :: st))) := by
  subst hp
  exact Go.st (fun t kk => XT.i2b H.here H.exec (g := mkF m pc L (.int x :: st)) rfl (H.dec hd) rfl kk) k
theorem G.i2c (H : Hs p l e R s m args below meth c Z a0 EL cw own n0 bytes maxL ret nm T h C S sf) {x y : Int32} {pc J : Nat} {L : Array Slot} {st : List Value} (hd : decode bytes pc = .ok (.i2c, 1)) (hp : pc + 1 = J) (hy : x.toUInt32.toUInt16.toUInt32.toInt32 = y) (k : Go p e below P (T.setTop (mkF m J L (.int y :: st)))) : Go p e below P (T.setTop (mkF m pc L (.int x :: st))) := by
  subst hp; subst hy
  exact Go.st (fun t kk => XT.i2c H.here H.exec (g := mkF m pc L (.int x :: st)) rfl (H.dec hd) rfl kk) k
theorem G.pop (H : Hs p l e R s m args below meth c Z a0 EL cw own n0 bytes maxL ret nm T h C S sf) {x : Value} {pc J : Nat} {L : Array Slot} {st : List Value} (hd : decode bytes pc = .ok (.pop, 1)) (hp : pc + 1 = J) (hc : x.category = 1) (k : Go p e below P (T.setTop (mkF m J L (st)))) : Go p e below P (T.setTop (mkF m pc L (x :: st))) := by
  subst hp
  exact Go.st (fun t kk => XT.pop H.here H.exec (g := mkF m pc L (x :: st)) rfl (H.dec hd) rfl hc kk) k
theorem G.dup (H : Hs p l e R s m args below meth c Z a0 EL cw own n0 bytes maxL ret nm T h C S sf) {x : Value} {pc J : Nat} {L : Array Slot} {st : List Value} (hd : decode bytes pc = .ok (.dup, 1)) (hp : pc + 1 = J) (hc : x.category = 1) (k : Go p e below P (T.setTop (mkF m J L (x :: x :: st)))) : Go p e below P (T.setTop (mkF m pc L (x :: st))) := by
  subst hp
  exact Go.st (fun t kk => XS.dup H.here H.exec (g := mkF m pc L (x :: st)) rfl (H.dec hd) rfl hc kk) k
theorem G.dupX1 (H : Hs p l e R s m args below meth c Z a0 EL cw own n0 bytes maxL ret nm T h C S sf) {x y : Value} {pc J : Nat} {L : Array Slot} {st : List Value} (hd : decode bytes pc = .ok (.dup_x1, 1)) (hp : pc + 1 = J) (hc : x.category = 1) (hc' : y.category = 1) (k : Go p e below P (T.setTop (mkF m J L (x :: y :: x :: st)))) : Go p e below P (T.setTop (mkF m pc L (x :: y :: st))) := by
  subst hp
  exact Go.st (fun t kk => XT.dupX1 H.here H.exec (g := mkF m pc L (x :: y :: st)) rfl (H.dec hd) rfl hc hc' kk) k
theorem G.sN (H : Hs p l e R s m args below meth c Z a0 EL cw own n0 bytes maxL ret nm T h C S sf) {i : Fin 4} {x : Int32} {L' : Array Slot} {pc J : Nat} {L : Array Slot} {st : List Value} (hd : decode bytes pc = .ok (.istore_n i, 1)) (hp : pc + 1 = J) (hl : storeLocals L i.val (.int x) = some L') (k : Go p e below P (T.setTop (mkF m J L' (st)))) : Go p e below P (T.setTop (mkF m pc L (.int x :: st))) := by
  subst hp
  exact Go.st (fun t kk => XS.istoreN H.here H.exec (g := mkF m pc L (.int x :: st)) rfl (H.dec hd) rfl hl kk) k
theorem G.sI (H : Hs p l e R s m args below meth c Z a0 EL cw own n0 bytes maxL ret nm T h C S sf) {i : Nat} {x : Int32} {L' : Array Slot} {pc J : Nat} {L : Array Slot} {st : List Value} (hd : decode bytes pc = .ok (.istore i, 2)) (hp : pc + 2 = J) (hl : storeLocals L i (.int x) = some L') (k : Go p e below P (T.setTop (mkF m J L' (st)))) : Go p e below P (T.setTop (mkF m pc L (.int x :: st))) := by
  subst hp
  exact Go.st (fun t kk => XS.istore H.here H.exec (g := mkF m pc L (.int x :: st)) rfl (H.dec hd) rfl hl kk) k
theorem G.astoreN (H : Hs p l e R s m args below meth c Z a0 EL cw own n0 bytes maxL ret nm T h C S sf) {i : Fin 4} {x : Value} {L' : Array Slot} {pc J : Nat} {L : Array Slot} {st : List Value} (hd : decode bytes pc = .ok (.astore_n i, 1)) (hp : pc + 1 = J) (hv : x.isRef = true) (hl : storeLocals L i.val x = some L') (k : Go p e below P (T.setTop (mkF m J L' (st)))) : Go p e below P (T.setTop (mkF m pc L (x :: st))) := by
  subst hp
  exact Go.st (fun t kk => XS.astoreN H.here H.exec (g := mkF m pc L (x :: st)) rfl (H.dec hd) rfl hv hl kk) k
theorem G.astore (H : Hs p l e R s m args below meth c Z a0 EL cw own n0 bytes maxL ret nm T h C S sf) {i : Nat} {x : Value} {L' : Array Slot} {pc J : Nat} {L : Array Slot} {st : List Value} (hd : decode bytes pc = .ok (.astore i, 2)) (hp : pc + 2 = J) (hv : x.isRef = true) (hl : storeLocals L i x = some L') (k : Go p e below P (T.setTop (mkF m J L' (st)))) : Go p e below P (T.setTop (mkF m pc L (x :: st))) := by
  subst hp
  exact Go.st (fun t kk => XS.astore H.here H.exec (g := mkF m pc L (x :: st)) rfl (H.dec hd) rfl hv hl kk) k
theorem G.iI (H : Hs p l e R s m args below meth c Z a0 EL cw own n0 bytes maxL ret nm T h C S sf) {i : Nat} {cst : Int} {x v : Int32} {L' : Array Slot} {pc J : Nat} {L : Array Slot} {st : List Value} (hd : decode bytes pc = .ok (.iinc i cst, 3)) (hp : pc + 3 = J) (hl : L[i]? = some (.val (.int x))) (hv : x + Int32.ofInt cst = v) (hl' : storeLocals L i (.int v) = some L') (k : Go p e below P (T.setTop (mkF m J L' (st)))) : Go p e below P (T.setTop (mkF m pc L (st))) := by
  subst hp; subst hv
  exact Go.st (fun t kk => XS.iinc H.here H.exec (g := mkF m pc L (st)) rfl (H.dec hd) hl hl' kk) k
theorem G.go (H : Hs p l e R s m args below meth c Z a0 EL cw own n0 bytes maxL ret nm T h C S sf) {o : Int} {pc J : Nat} {L : Array Slot} {st : List Value} (hd : decode bytes pc = .ok (.goto o, 3)) (ho : 0 ≤ (pc : Int) + o) (hp : ((pc : Int) + o).toNat = J) (k : Go p e below P (T.setTop (mkF m J L (st)))) : Go p e below P (T.setTop (mkF m pc L (st))) :=
  Go.st (fun t kk => XS.goto H.here H.exec (g := mkF m pc L (st)) rfl (pc0 := pc) rfl (H.dec hd) ho hp kk) k
theorem G.ifYes (H : Hs p l e R s m args below meth c Z a0 EL cw own n0 bytes maxL ret nm T h C S sf) {cd : ClassFile.Cond} {x : Int32} {o : Int} {pc J : Nat} {L : Array Slot} {st : List Value} (hd : decode bytes pc = .ok (.ifCond cd o, 3)) (hc : ifCond.holds cd x = true) (ho : 0 ≤ (pc : Int) + o) (hp : ((pc : Int) + o).toNat = J) (k : Go p e below P (T.setTop (mkF m J L (st)))) : Go p e below P (T.setTop (mkF m pc L (.int x :: st))) :=
  Go.st (fun t kk => XS.ifYes H.here H.exec (g := mkF m pc L (.int x :: st)) rfl (pc0 := pc) rfl (H.dec hd) rfl hc ho hp kk) k
theorem G.cY (H : Hs p l e R s m args below meth c Z a0 EL cw own n0 bytes maxL ret nm T h C S sf) {cd : ClassFile.Cond} {x y : Int32} {o : Int} {pc J : Nat} {L : Array Slot} {st : List Value} (hd : decode bytes pc = .ok (.if_icmp cd o, 3)) (hc : if_icmp.holds cd x y = true) (ho : 0 ≤ (pc : Int) + o) (hp : ((pc : Int) + o).toNat = J) (k : Go p e below P (T.setTop (mkF m J L (st)))) : Go p e below P (T.setTop (mkF m pc L (.int y :: .int x :: st))) :=
  Go.st (fun t kk => XS.icmpYes H.here H.exec (g := mkF m pc L (.int y :: .int x :: st)) rfl (pc0 := pc) rfl (H.dec hd) rfl hc ho hp kk) k
theorem G.ifnonnullYes (H : Hs p l e R s m args below meth c Z a0 EL cw own n0 bytes maxL ret nm T h C S sf) {b : Addr} {o : Int} {pc J : Nat} {L : Array Slot} {st : List Value} (hd : decode bytes pc = .ok (.ifnonnull o, 3)) (ho : 0 ≤ (pc : Int) + o) (hp : ((pc : Int) + o).toNat = J) (k : Go p e below P (T.setTop (mkF m J L (st)))) : Go p e below P (T.setTop (mkF m pc L (.ref b :: st))) :=
  Go.st (fun t kk => XT.ifnonnullYes H.here H.exec (g := mkF m pc L (.ref b :: st)) rfl (pc0 := pc) rfl (H.dec hd) rfl ho hp kk) k
theorem G.ifNo (H : Hs p l e R s m args below meth c Z a0 EL cw own n0 bytes maxL ret nm T h C S sf) {cd : ClassFile.Cond} {o : Int} {x : Int32} {pc J : Nat} {L : Array Slot} {st : List Value} (hd : decode bytes pc = .ok (.ifCond cd o, 3)) (hp : pc + 3 = J) (hc : ifCond.holds cd x = false) (k : Go p e below P (T.setTop (mkF m J L (st)))) : Go p e below P (T.setTop (mkF m pc L (.int x :: st))) := by
  subst hp
  exact Go.st (fun t kk => XS.ifNo H.here H.exec (g := mkF m pc L (.int x :: st)) rfl (H.dec hd) rfl hc kk) k
theorem G.cN (H : Hs p l e R s m args below meth c Z a0 EL cw own n0 bytes maxL ret nm T h C S sf) {cd : ClassFile.Cond} {o : Int} {x y : Int32} {pc J : Nat} {L : Array Slot} {st : List Value} (hd : decode bytes pc = .ok (.if_icmp cd o, 3)) (hp : pc + 3 = J) (hc : if_icmp.holds cd x y = false) (k : Go p e below P (T.setTop (mkF m J L (st)))) : Go p e below P (T.setTop (mkF m pc L (.int y :: .int x :: st))) := by
  subst hp
  exact Go.st (fun t kk => XS.icmpNo H.here H.exec (g := mkF m pc L (.int y :: .int x :: st)) rfl (H.dec hd) rfl hc kk) k
theorem G.acmpNo (H : Hs p l e R s m args below meth c Z a0 EL cw own n0 bytes maxL ret nm T h C S sf) {cd : ClassFile.ACond} {o : Int} {x y : Value} {pc J : Nat} {L : Array Slot} {st : List Value} (hd : decode bytes pc = .ok (.if_acmp cd o, 3)) (hp : pc + 3 = J) (hx' : x.isRef = true) (hy' : y.isRef = true) (hc : XT.acmp cd x y = false) (k : Go p e below P (T.setTop (mkF m J L (st)))) : Go p e below P (T.setTop (mkF m pc L (y :: x :: st))) := by
  subst hp
  exact Go.st (fun t kk => XT.acmpNo H.here H.exec (g := mkF m pc L (y :: x :: st)) rfl (H.dec hd) rfl hx' hy' hc kk) k
theorem Hs.ext {T' : State} {h' : Heap} {C' S' : Nat} {vm0 : Vm} {k0 : Nat} {locs : List Loc} (H : Hs p l e R s m args below meth c Z a0 EL cw own n0 bytes maxL ret nm T h C S sf) (X' : Stand p l e R (s.setVm vm0) m args below meth c T' locs C' S') (e' : T'.heap = h') (E : Ext h h') (h2 : s.Since vm0 k0) (h3 : k0 ≤ h.size) (h4 : Z.Warmed39 vm0) (h5 : vm0.findClass own = some m.cls) (h6 : Fr n0 locs) (h7 : CHr Z EL s.vm s.heap vm0 h) (h8 : ∀ x ∈ sf, x < h.size ∧ Safe Z EL vm0 h x) (h9 : cw ∨ s.WarmedH vm0) (hO : Old Z n0 h) (hlt : h.size < h'.size) : Hs p l e R s m args below meth c Z a0 EL cw own n0 bytes maxL ret nm T' h' C' S' (h.size :: sf) :=
  ⟨H.1, vm0, k0, locs, X', e', h2, Nat.le_trans h3 E.1, h4, h5, h6, h7.trans (CHr.ext E h7.1), fun x hx => by
    rcases List.mem_cons.mp hx with rfl | hx
    · exact ⟨hlt, Safe.ext E h7.1 (Safe.new (Nat.le_refl _))⟩
    · exact ⟨Nat.lt_of_lt_of_le (h8 x hx).1 E.1, Safe.ext E h7.1 (h8 x hx).2⟩, h9, hO.ext E⟩
theorem G.new (H : Hs p l e R s m args below meth c Z a0 EL cw own n0 bytes maxL ret nm T h C S sf) {K : String} {index n : Nat} (w : (Cond.classLink own index K).before a0 Z = true) (wi : (Cond.instantiable K n).before a0 Z = true) (wz : (Cond.initialized K).before a0 Z = true) {pc J : Nat} {L : Array Slot} {st : List Value} (hd : decode bytes pc = .ok (.new index, 3)) (hp : pc + 3 = J) (hc : C + 1 ≤ R.cells) (hl : S + n ≤ R.slots)
    (k : ∀ T' h' a, a = h.size → Hs p l e R s m args below meth c Z a0 EL cw own n0 bytes maxL ret nm T' h' (C + 1) (S + n) (a :: sf) → Ext h h' → Exa Z h' a K → (∀ {O nm' d : String} {ty : FieldType}, Laid Z a0 K O nm' d → parseFieldDescriptor d = some ty → Fld Z h' a O nm' d (defaultValue ty)) → Go p e below P (T'.setTop (mkF m J L (.ref a :: st)))) : Go p e below P (T.setTop (mkF m pc L st)) := by
  subst hp
  obtain ⟨hM, vm0, k0, locs, X, h1, h2, h3, h4, h5, h6, h7, h8, h9, hO⟩ := id H
  obtain ⟨T', h', X', e', E, A, D, -, st'⟩ := RoadKit.newO X H.exec h4 h5 w wi wz h1 (g := mkF m pc L st) rfl (H.dec hd) hc hl
  exact Go.st st' (k T' h' _ rfl (H.ext X' e' E h2 h3 h4 h5 h6 h7 h8 h9 hO A.lt) E A D)
theorem G.newP (H : Hs p l e R s m args below meth c Z a0 EL cw own n0 bytes maxL ret nm T h C S sf) {aty : ArrayType} (w : (Cond.arrayClass (newarray.typeOf aty)).before a0 Z = true) {z : Int32} {pc J : Nat} {L : Array Slot} {st : List Value} (hd : decode bytes pc = .ok (.newarray aty, 2)) (hp : pc + 2 = J) (hn : ¬ z < 0) {cap : Nat} (hcap : z.toNatClampNeg ≤ cap) (hb : cap * 8 ≤ 536870912) (hc : C + 1 ≤ R.cells) (hl : S + cap ≤ R.slots) {vs : List Value} (hvs : List.replicate z.toNatClampNeg (defaultValue (newarray.typeOf aty)) = vs) {ad : String} (had : "[" ++ (newarray.typeOf aty).toString = ad)
    (k : ∀ T' h' a kc, a = h.size → Hs p l e R s m args below meth c Z a0 EL cw own n0 bytes maxL ret nm T' h' (C + 1) (S + cap) (a :: sf) → Ext h h' → Arv Z h' a kc (newarray.typeOf aty) z vs (defaultValue (newarray.typeOf aty)) → Exa Z h' a ad → Go p e below P (T'.setTop (mkF m J L (.ref a :: st)))) : Go p e below P (T.setTop (mkF m pc L (.int z :: st))) := by
  subst hp
  obtain ⟨hM, vm0, k0, locs, X, h1, h2, h3, h4, h5, h6, h7, h8, h9, hO⟩ := id H
  obtain ⟨T', h', cA, X', e', E, A, EX, st'⟩ := RoadKit.newPE X H.exec h4 w h1 (g := mkF m pc L (.int z :: st)) rfl (H.dec hd) rfl hn hcap hb hc hl had
  refine Go.st st' (k T' h' _ cA rfl (H.ext X' e' E h2 h3 h4 h5 h6 h7 h8 h9 hO A.lt) E ?_ EX)
  subst hvs
  exact (Arv.new A hn).pad (fun i => by simpa using pad_rep [] (defaultValue (newarray.typeOf aty)) z.toNatClampNeg i)
theorem G.newR (H : Hs p l e R s m args below meth c Z a0 EL cw own n0 bytes maxL ret nm T h C S sf) {K : String} {index : Nat} (w1 : (Cond.classLink own index K).before a0 Z = true) (w2 : (Cond.arrayOver (.object K)).before a0 Z = true) {z : Int32} {pc J : Nat} {L : Array Slot} {st : List Value} (hd : decode bytes pc = .ok (.anewarray index, 3)) (hp : pc + 3 = J) (hn : ¬ z < 0) {cap : Nat} (hcap : z.toNatClampNeg ≤ cap) (hb : cap * 8 ≤ 536870912) (hc : C + 1 ≤ R.cells) (hl : S + cap ≤ R.slots) {vs : List Value} (hvs : List.replicate z.toNatClampNeg Value.null = vs) {ad : String} (had : "[" ++ (FieldType.object K).toString = ad)
    (k : ∀ T' h' a kc, a = h.size → Hs p l e R s m args below meth c Z a0 EL cw own n0 bytes maxL ret nm T' h' (C + 1) (S + cap) (a :: sf) → Ext h h' → Arv Z h' a kc (.object K) z vs .null → Exa Z h' a ad → Ovr Z kc K → Go p e below P (T'.setTop (mkF m J L (.ref a :: st)))) : Go p e below P (T.setTop (mkF m pc L (.int z :: st))) := by
  subst hp
  obtain ⟨hM, vm0, k0, locs, X, h1, h2, h3, h4, h5, h6, h7, h8, h9, hO⟩ := id H
  obtain ⟨T', h', cA, X', e', E, A, EX, O, st'⟩ := RoadKit.newRE X H.exec h4 h5 w1 w2 h1 (g := mkF m pc L (.int z :: st)) rfl (H.dec hd) rfl hn hcap hb hc hl had
  refine Go.st st' (k T' h' _ cA rfl (H.ext X' e' E h2 h3 h4 h5 h6 h7 h8 h9 hO A.lt) E ?_ EX O)
  subst hvs
  exact (Arv.new A hn).pad (fun i => by show (List.replicate z.toNatClampNeg Value.null).getD i Value.null = ([] : List Value).getD i Value.null; simpa using pad_rep [] Value.null z.toNatClampNeg i)
theorem Hs.wr {T' : State} {h' : Heap} {vm0 : Vm} {k0 : Nat} {locs : List Loc} {a : Addr} {sl : Nat} {v : Value} (H : Hs p l e R s m args below meth c Z a0 EL cw own n0 bytes maxL ret nm T h C S sf) (X' : Stand p l e R (s.setVm vm0) m args below meth c T' (locs ++ [⟨a, sl⟩]) C S) (e' : T'.heap = h') (W : Wr h h' a sl v) (q : n0 ≤ a) (sa : Safe Z EL vm0 h a) (h2 : s.Since vm0 k0) (h3 : k0 ≤ h.size) (h4 : Z.Warmed39 vm0) (h5 : vm0.findClass own = some m.cls) (h6 : Fr n0 locs) (h7 : CHr Z EL s.vm s.heap vm0 h) (h8 : ∀ x ∈ sf, x < h.size ∧ Safe Z EL vm0 h x) (h9 : cw ∨ s.WarmedH vm0) (hO : Old Z n0 h) : Hs p l e R s m args below meth c Z a0 EL cw own n0 bytes maxL ret nm T' h' C S sf :=
  ⟨H.1, vm0, k0, locs ++ [⟨a, sl⟩], X', e', h2, by rw [W.size]; exact h3, h4, h5, Fr.snoc X' h6 q, h7.trans (CHr.wr W sa h7.1), fun x hx => ⟨by rw [W.size]; exact (h8 x hx).1, Safe.wr W sa h7.1 (h8 x hx).2⟩, h9, hO.wr W q⟩
theorem G.putF (H : Hs p l e R s m args below meth c Z a0 EL cw own n0 bytes maxL ret nm T h C S sf) {R0 O n d K : String} {index kk : Nat} {ty : FieldType} (w : (Cond.fieldLink own index R0 n d).before a0 Z = true) (via : Via Z R0 O n d) {a : Addr} {v old : Value} (F : Fld Z h a O n d old) (E : Exa Z h a K) (Ly : (Cond.lays K O n d).before a0 Z = true ∨ ((Cond.laysFinal K O n d).before a0 Z = true ∧ own = O ∧ nm = "<init>")) (wi : (Cond.instantiable K kk).before a0 Z = true) (hty : parseFieldDescriptor d = some ty) (hn : narrow ty v = v) (hf : fits ty v = true) (hq : n0 ≤ a) (hsf : Sf Z EL h sf a) {pc J : Nat} {L : Array Slot} {st : List Value} (hd : decode bytes pc = .ok (.putfield index, 3)) (hp : pc + 3 = J)
    (k : ∀ T' h', Hs p l e R s m args below meth c Z a0 EL cw own n0 bytes maxL ret nm T' h' C S sf → Wr h h' a (RoadKit.slotOf Z O n d) v → Go p e below P (T'.setTop (mkF m J L st))) : Go p e below P (T.setTop (mkF m pc L (v :: .ref a :: st))) := by
  subst hp
  obtain ⟨hM, vm0, k0, locs, X, h1, h2, h3, h4, h5, h6, h7, h8, h9, hO⟩ := id H
  obtain ⟨T', h', X', e', W, st'⟩ := RoadKit.putF X H.exec h4 (host := "") h5 (Or.inl w) via h1 F E (Ly.imp id (fun q => ⟨q.1, q.2.1, hM.2.2.2.2.2.2.1.trans q.2.2⟩)) wi hty hn hf (g := mkF m pc L (v :: .ref a :: st)) rfl rfl (H.dec hd)
  exact Go.st st' (k T' h' (H.wr X' e' W hq (hsf.safe h4 h8) h2 h3 h4 h5 h6 h7 h8 h9 hO) W)
theorem G.stC (H : Hs p l e R s m args below meth c Z a0 EL cw own n0 bytes maxL ret nm T h C S sf) {a : Addr} {kc : ClassId} {z : Int32} {vs : List Value} {dv : Value} (A : Arv Z h a kc .char z vs dv) {j x : Int32} (hj : ¬ j < 0 ∧ j < z) {i : Nat} (hi : j.toNatClampNeg = i) (hlt : i < vs.length) (hq : n0 ≤ a) {y : Int32} (hy : nar .char x = y) {pc J : Nat} {L : Array Slot} {st : List Value} (hd : decode bytes pc = .ok (.castore, 1)) (hp : pc + 1 = J)
    (k : ∀ T' h', Hs p l e R s m args below meth c Z a0 EL cw own n0 bytes maxL ret nm T' h' C S sf → Wr h h' a i (.int y) → Arv Z h' a kc .char z (vs.set i (.int y)) dv → Go p e below P (T'.setTop (mkF m J L st))) : Go p e below P (T.setTop (mkF m pc L (.int x :: .int j :: .ref a :: st))) := by
  subst hp; subst hi; subst hy
  obtain ⟨hM, vm0, k0, locs, X, h1, h2, h3, h4, h5, h6, h7, h8, h9, hO⟩ := id H
  obtain ⟨cl, Ar, q1, S1, q3, H1, G1⟩ := A
  obtain ⟨T', h', X', e', W, st'⟩ := RoadKit.stC X H.exec h4 h1 Ar (inb_of S1 hj) (g := mkF m pc L (.int x :: .int j :: .ref a :: st)) rfl rfl (H.dec hd)
  exact Go.st st' (k T' h' (H.wr X' e' W hq (Safe.arr h4.alike Ar (by decide)) h2 h3 h4 h5 h6 h7 h8 h9 hO) W (Arv.set Ar q1 S1 q3 H1 G1 (fits_nar_char x) W _ rfl hlt))
theorem G.stB (H : Hs p l e R s m args below meth c Z a0 EL cw own n0 bytes maxL ret nm T h C S sf) {a : Addr} {kc : ClassId} {z : Int32} {vs : List Value} {dv : Value} (A : Arv Z h a kc .byte z vs dv) {j x : Int32} (hj : ¬ j < 0 ∧ j < z) {i : Nat} (hi : j.toNatClampNeg = i) (hlt : i < vs.length) (hq : n0 ≤ a) (hsf : Sf Z EL h sf a) {y : Int32} (hy : nar .byte x = y) {pc J : Nat} {L : Array Slot} {st : List Value} (hd : decode bytes pc = .ok (.bastore, 1)) (hp : pc + 1 = J)
    (k : ∀ T' h', Hs p l e R s m args below meth c Z a0 EL cw own n0 bytes maxL ret nm T' h' C S sf → Wr h h' a i (.int y) → Arv Z h' a kc .byte z (vs.set i (.int y)) dv → Go p e below P (T'.setTop (mkF m J L st))) : Go p e below P (T.setTop (mkF m pc L (.int x :: .int j :: .ref a :: st))) := by
  subst hp; subst hi; subst hy
  obtain ⟨hM, vm0, k0, locs, X, h1, h2, h3, h4, h5, h6, h7, h8, h9, hO⟩ := id H
  obtain ⟨cl, Ar, q1, S1, q3, H1, G1⟩ := A
  obtain ⟨T', h', X', e', W, st'⟩ := RoadKit.stB X H.exec h4 h1 Ar (inb_of S1 hj) (g := mkF m pc L (.int x :: .int j :: .ref a :: st)) rfl rfl (H.dec hd)
  exact Go.st st' (k T' h' (H.wr X' e' W hq (hsf.safe h4 h8) h2 h3 h4 h5 h6 h7 h8 h9 hO) W (Arv.set Ar q1 S1 q3 H1 G1 (fits_nar_byte x) W _ rfl hlt))
theorem G.stR (H : Hs p l e R s m args below meth c Z a0 EL cw own n0 bytes maxL ret nm T h C S sf) {a : Addr} {kc : ClassId} {ty : FieldType} {z : Int32} {vs : List Value} {dv : Value} (A : Arv Z h a kc ty z vs dv) (hty : ty.isReference = true) {j : Int32} {v : Value} (F : Sto Z h a v) (hv : v.isRef = true) (hj : ¬ j < 0 ∧ j < z) {i : Nat} (hi : j.toNatClampNeg = i) (hlt : i < vs.length) (hq : n0 ≤ a) {pc J : Nat} {L : Array Slot} {st : List Value} (hd : decode bytes pc = .ok (.aastore, 1)) (hp : pc + 1 = J)
    (k : ∀ T' h', Hs p l e R s m args below meth c Z a0 EL cw own n0 bytes maxL ret nm T' h' C S sf → Wr h h' a i v → Arv Z h' a kc ty z (vs.set i v) dv → Go p e below P (T'.setTop (mkF m J L st))) : Go p e below P (T.setTop (mkF m pc L (v :: .int j :: .ref a :: st))) := by
  subst hp; subst hi
  obtain ⟨hM, vm0, k0, locs, X, h1, h2, h3, h4, h5, h6, h7, h8, h9, hO⟩ := id H
  obtain ⟨cl, Ar, q1, S1, q3, H1, G1⟩ := A
  obtain ⟨T', h', X', e', W, st'⟩ := RoadKit.stR X H.exec h4 h1 Ar (inb_of S1 hj) hty F (g := mkF m pc L (v :: .int j :: .ref a :: st)) rfl rfl (H.dec hd)
  exact Go.st st' (k T' h' (H.wr X' e' W hq (Safe.arr h4.alike Ar (by intro q; rw [q] at hty; cases hty)) h2 h3 h4 h5 h6 h7 h8 h9 hO) W (Arv.set Ar q1 S1 q3 H1 G1 (by rcases ref_cases hv with rfl | ⟨b, rfl⟩ <;> cases ty <;> first | rfl | cases hty) W _ rfl hlt))
theorem Hs.rebase {T' : State} {h' : Heap} {C' S' : Nat} {vm0 : Vm} {k1 : Nat} {locs : List Loc} (H : Hs p l e R s m args below meth c Z a0 EL cw own n0 bytes maxL ret nm T h C S sf) (hcw : cw) (X' : Stand p l e R (s.setVm T'.vm) m args below meth c T' locs C' S') (e' : T'.heap = h') (h2 : s.Since T'.vm k1) (h3 : k1 ≤ h'.size) (h4 : Z.Warmed39 T'.vm) (h5 : T'.vm.findClass own = some m.cls) (h6 : Fr n0 locs) (h7 : CHr Z EL s.vm s.heap vm0 h) (h7' : CHr Z EL vm0 h T'.vm h') (h8 : ∀ x ∈ sf, x < h.size ∧ Safe Z EL vm0 h x) (hO : Old Z n0 h') : Hs p l e R s m args below meth c Z a0 EL cw own n0 bytes maxL ret nm T' h' C' S' sf :=
  ⟨H.1, T'.vm, k1, locs, X', e', h2, h3, h4, h5, h6, h7.trans h7', fun x hx => ⟨Nat.lt_of_lt_of_le (h8 x hx).1 h7'.2.1, h7'.safe (h8 x hx).1 (h8 x hx).2⟩, Or.inl hcw, hO⟩
theorem G.ldcS (H : Hs p l e R s m args below meth c Z a0 EL cw own n0 bytes maxL ret nm T h C S sf) (hcw : cw) (wS : ∀ a ∈ Bundle.stringAtoms, a.before a0 Z = true) {index : Nat} {text : String} (w : (Cond.stringLink own index text).before a0 Z = true) (hmem : (own, index) ∈ EL) {vs : List Value} {z : Int32} (ht : (∀ c ∈ text.toList, c.toNat < 256) ∧ text.toList.map (fun c => Value.int (Jvm.Lit.byteI c.toNat.toUInt16)) = vs) (hz : ¬ z < 0) (hl : z.toNatClampNeg = vs.length) {n : Nat} (hn : 4 * text.toList.length ≤ n) (hbig : n ≤ 536870912) (hc : C + 2 ≤ R.cells) (hl' : S + (n + 4) ≤ R.slots) {pc J : Nat} {L : Array Slot} {st : List Value} (hd : decode bytes pc = .ok (.ldc index, 2)) (hp : pc + 2 = J)
    (k : ∀ T' h' a b kb, Hs p l e R s m args below meth c Z a0 EL cw own n0 bytes maxL ret nm T' h' (C + 2) (S + (n + 4)) sf → Ext h h' → Exa Z h' a "java/lang/String" → Fld Z h' a "java/lang/String" "coder" "B" (.int 0) → Fld Z h' a "java/lang/String" "value" "[B" (.ref b) → Arv Z h' b kb .byte z vs (.int 0) → (∀ x ∈ sf, x ≠ a ∧ x ≠ b) → Go p e below P (T'.setTop (mkF m J L (.ref a :: st)))) : Go p e below P (T.setTop (mkF m pc L st)) := by
  subst hp
  obtain ⟨hM, vm0, k0, locs, X, h1, h2, h3, h4, h5, h6, h7, h8, h9, hO⟩ := id H
  obtain ⟨a, T', h', k1, b, kb, X', e', E, s2, s3, s4, s5, F1, F2, F3, F4, -, -, h7', -, hne, st'⟩ := RoadKit.ldcCH X H.exec h4 h5 w wS h1 h2 h3 hM.2.1 hmem h7.1 ht hz hl (g := mkF m pc L st) rfl (H.dec hd) hn hbig hc hl'
  exact Go.st st' (k T' h' a b kb (H.rebase hcw X' e' s2 s3 s4 s5 h6 h7 h7' h8 (hO.ext E)) E F1 F2 F3 F4 (fun x hx => hne x (h7'.safe (h8 x hx).1 (h8 x hx).2)))
def FinP (s : State) (below : List Frame) (Z : State) (EL : List (String × Nat)) (cw : Prop) (n0 Cm Sm : Nat) (Q : Option Value → Heap → List Addr → Prop) : State → Outcome → Prop := fun u o =>
  u.status = .running ∧ Ended u below o ∧ ∃ v L so, o = .returned v ∧ Q v u.heap so ∧ Old Z n0 u.heap ∧ Fr n0 L ∧ CHr Z EL s.vm s.heap u.vm u.heap ∧ (∀ x ∈ so, x < u.heap.size ∧ Safe Z EL u.vm u.heap x) ∧ ReturnedEndW s o u L Cm Sm ∧ (cw ∨ FrameEnd s o u L Cm Sm)
theorem Hs.leave (H : Hs p l e R s m args below meth c Z a0 EL cw own n0 bytes maxL ret nm T h C S sf) {Cm Sm : Nat} {Q : Option Value → Heap → List Addr → Prop} {v : Option Value} {so : List Addr} (hv : ret = none → v = none) (hQ : Q v h so) (hso : ∀ x ∈ so, x ∈ sf) (hC : C ≤ Cm) (hS : S ≤ Sm) :
    ∃ fs, (∀ (f : JFrame) (acts : List Action), f.method = m → f.locked = none → f.entered = [] → (doReturn e (T.setTop f) acts v).1 = T.setFrames fs) ∧ FinP s below Z EL cw n0 Cm Sm Q (T.setFrames fs) (.returned v) := by
  obtain ⟨hM, vm0, k0, locs, X, h1, h2, h3, h4, h5, h6, h7, h8, h9, hO⟩ := H
  obtain ⟨-, hEL, -, -, hret, hlocks, -, -⟩ := hM
  obtain ⟨fs, hr, hrun, hended, hW, hsame⟩ := X.leave (v := v) (fun q => hv (hret.symm.trans q)) hlocks
  have hk : k0 ≤ (T.setFrames fs).heap.size := by show k0 ≤ T.heap.size; rw [h1]; exact h3
  obtain ⟨w1, w2, w3⟩ := h2.ended (U := T.setFrames fs) hW hk hsame
  have A := CHv.at X h4 hEL h7.1
  refine ⟨fs, hr, hrun, hended, v, locs, so, rfl, ?_, ?_, h6, ?_, ?_, ⟨⟨v, rfl⟩, w1, w2, w3.mono hC hS⟩, ?_⟩
  · show Q v T.heap so; rw [h1]; exact hQ
  · show Old Z n0 T.heap; rw [h1]; exact hO
  · show CHr Z EL s.vm s.heap T.vm T.heap; rw [h1]; exact h7.trans A
  · intro x hx
    show x < T.heap.size ∧ Safe Z EL T.vm T.heap x
    rw [h1]; exact ⟨(h8 x (hso x hx)).1, A.safe (h8 x (hso x hx)).1 (h8 x (hso x hx)).2⟩
  · exact h9.imp id (fun q => ⟨⟨v, rfl⟩, State.WarmedH.trans (t := s.setVm vm0) q hW, w3.mono hC hS⟩)
theorem G.retG (H : Hs p l e R s m args below meth c Z a0 EL cw own n0 bytes maxL ret nm T h C S sf) {Cm Sm : Nat} {Q : Option Value → Heap → List Addr → Prop} {so : List Addr} {pc : Nat} {L : Array Slot} {w : Value} {t : FieldType} {i : Instr} {rest : List Value} (hret : ret = some t) (hn : narrow t w = w)
    (hi : (i = .ireturn ∧ (t = .int ∨ t = .boolean ∨ t = .byte ∨ t = .char ∨ t = .short) ∧ ∃ z, w = .int z) ∨ (i = .lreturn ∧ t = .long ∧ ∃ z, w = .long z) ∨ (i = .dreturn ∧ t = .double ∧ ∃ z, w = .double z) ∨ (i = .freturn ∧ t = .float ∧ ∃ z, w = .float z) ∨ (i = .areturn ∧ t.isReference = true ∧ w.isRef = true))
    (hd : decode bytes pc = .ok (i, 1)) (hso : ∀ x ∈ so, x ∈ sf) (hC : C ≤ Cm) (hS : S ≤ Sm) (hQ : Q (some w) h so) : Go p e below (FinP s below Z EL cw n0 Cm Sm Q) (T.setTop (mkF m pc L (w :: rest))) := by
  obtain ⟨fs, hr, hF⟩ := H.leave (Q := Q) (v := some w) (Cm := Cm) (Sm := Sm) (fun q => by rw [hret] at q; cases q) hQ hso hC hS
  obtain ⟨hM, vm0, k0, locs, X, -⟩ := id H
  exact ⟨_, _, retOut X H.exec (hM.2.2.2.2.1.trans hret) hn hi (H.dec hd) hr, hF⟩
theorem G.retI (H : Hs p l e R s m args below meth c Z a0 EL cw own n0 bytes maxL ret nm T h C S sf) {Cm Sm : Nat} {Q : Option Value → Heap → List Addr → Prop} {so : List Addr} {pc : Nat} {L : Array Slot} {z : Int32} {rest : List Value} (hret : ret = some .int) (hd : decode bytes pc = .ok (.ireturn, 1)) (hso : ∀ x ∈ so, x ∈ sf) (hC : C ≤ Cm) (hS : S ≤ Sm) (hQ : Q (some (.int z)) h so) : Go p e below (FinP s below Z EL cw n0 Cm Sm Q) (T.setTop (mkF m pc L (.int z :: rest))) :=
  G.retG H hret rfl (Or.inl ⟨rfl, Or.inl rfl, z, rfl⟩) hd hso hC hS hQ
theorem G.retN (H : Hs p l e R s m args below meth c Z a0 EL cw own n0 bytes maxL ret nm T h C S sf) {Cm Sm : Nat} {Q : Option Value → Heap → List Addr → Prop} {so : List Addr} {pc : Nat} {L : Array Slot} {z : Int32} {t : FieldType} {rest : List Value} (hret : ret = some t) (ht : t = .boolean ∨ t = .byte ∨ t = .char ∨ t = .short) (hd : decode bytes pc = .ok (.ireturn, 1)) (hso : ∀ x ∈ so, x ∈ sf) (hC : C ≤ Cm) (hS : S ≤ Sm) (hQ : Q (some (.int (nar t z))) h so) : Go p e below (FinP s below Z EL cw n0 Cm Sm Q) (T.setTop (mkF m pc L (.int z :: rest))) := by
  obtain ⟨fs, hr, hF⟩ := H.leave (Q := Q) (v := some (.int (nar t z))) (Cm := Cm) (Sm := Sm) (fun q => by rw [hret] at q; cases q) hQ hso hC hS
  obtain ⟨hM, vm0, k0, locs, X, -⟩ := id H
  exact ⟨_, _, RoadKit.retN X H.exec (hM.2.2.2.2.1.trans hret) ht (H.dec hd) hr, hF⟩
theorem G.retA (H : Hs p l e R s m args below meth c Z a0 EL cw own n0 bytes maxL ret nm T h C S sf) {Cm Sm : Nat} {Q : Option Value → Heap → List Addr → Prop} {so : List Addr} {pc : Nat} {L : Array Slot} {w : Value} {t : FieldType} {rest : List Value} (hret : ret = some t) (ht : t.isReference = true) (hw : w.isRef = true) (hd : decode bytes pc = .ok (.areturn, 1)) (hso : ∀ x ∈ so, x ∈ sf) (hC : C ≤ Cm) (hS : S ≤ Sm) (hQ : Q (some w) h so) : Go p e below (FinP s below Z EL cw n0 Cm Sm Q) (T.setTop (mkF m pc L (w :: rest))) :=
  G.retG H hret (by rcases ref_cases hw with rfl | ⟨a, rfl⟩ <;> cases t <;> first | rfl | cases ht) (Or.inr (Or.inr (Or.inr (Or.inr ⟨rfl, ht, hw⟩)))) hd hso hC hS hQ
theorem G.retV (H : Hs p l e R s m args below meth c Z a0 EL cw own n0 bytes maxL ret nm T h C S sf) {Cm Sm : Nat} {Q : Option Value → Heap → List Addr → Prop} {so : List Addr} {pc : Nat} {L : Array Slot} (hret : ret = none) (hd : decode bytes pc = .ok (.return_, 1)) (hso : ∀ x ∈ so, x ∈ sf) (hC : C ≤ Cm) (hS : S ≤ Sm) (hQ : Q none h so) : Go p e below (FinP s below Z EL cw n0 Cm Sm Q) (T.setTop (mkF m pc L [])) := by
  obtain ⟨fs, hr, hF⟩ := H.leave (Q := Q) (v := none) (Cm := Cm) (Sm := Sm) (fun _ => rfl) hQ hso hC hS
  obtain ⟨hM, vm0, k0, locs, X, -⟩ := id H
  exact ⟨_, _, X.returnOut H.exec (hM.2.2.2.2.1.trans hret) (H.dec hd) hr, hF⟩
def Met (Z : State) (a0 : Array Value) (EL : List (String × Nat)) (cw : Prop) (n0 : Nat) (l : Launch) (y : MethodName) (bytes : ByteArray) (maxL : Nat) (ret : Option FieldType) (rm : Room) (as' : Array Value) (h : Heap) (sfI : List Addr) (Q : Option Value → Heap → List Addr → Prop) : Prop :=
  ∀ ws, MetFree l y (head1 (Cond.code y bytes maxL ret :: ws) rm) (fun a U => a = as' ∧ Z.Warmed39 U.vm ∧ U.heap = h ∧ CHv Z EL U.vm h ∧ ∀ x ∈ sfI, x < h.size ∧ Safe Z EL U.vm h x) (fun _ _ _ _ _ => True)
    (fun _ U o U' => ∃ v L so, o = .returned v ∧ Q v U'.heap so ∧ Old Z n0 U'.heap ∧ Fr n0 L ∧ CHr Z EL U.vm U.heap U'.vm U'.heap ∧ (∀ x ∈ so, x < U'.heap.size ∧ Safe Z EL U'.vm U'.heap x) ∧ ReturnedEndW U o U' L rm.cells rm.slots ∧ (cw ∨ FrameEnd U o U' L rm.cells rm.slots))
theorem Met.of {y : MethodName} {rm : Room} {as' : Array Value} {sfI : List Addr} {Q : Option Value → Heap → List Addr → Prop} {L0 : Array Slot} (hEL : EW Z a0 EL) (hpn : plainFor y = true) (hO : Old Z n0 h) (hL : Jvm.Sym.laidSlots as'.toList ++ List.replicate (maxL - (Jvm.Sym.laidSlots as'.toList).length) .unset = L0.toList)
    (body : ∀ (p : Program) (e : Env) (s : State) (m : MethodId) (below : List Frame) (meth : Method) (c : Code) (T : State), Hs p l e rm s m as' below meth c Z a0 EL cw y.cls n0 bytes maxL ret y.name T h 0 0 sfI → Go p e below (FinP s below Z EL cw n0 rm.cells rm.slots Q) (T.setTop (mkF m 0 L0 []))) : Met Z a0 EL cw n0 l y bytes maxL ret rm as' h sfI Q := by
  intro ws
  refine MetFree.of_bodySF hpn hisR ?_
  intro p e s m args below meth c s₁ Bd hml hP hK
  obtain ⟨rfl, hZ, hh, hC, hs⟩ := hP
  have X0 : Stand p l e rm (s.setVm s.vm) m args below meth c s₁ [] 0 0 := Stand.of_body Bd
  have e0 : s₁.heap = h := by rw [← hh, Bd.state]; rfl
  have H : Hs p l e rm s m args below meth c Z a0 EL cw y.cls n0 bytes maxL ret y.name s₁ h 0 0 sfI :=
    ⟨⟨Bd.exec, hEL, Bd.bytes, hml, Bd.returns, Bd.notSynchronized, (name_of_methodNamed Bd.named Bd.method).1, by rw [hh, ← hO.1]; exact hO.2.1⟩, s.vm, s.heap.size, [], X0, e0, (State.WarmedH.refl s).since _, by rw [hh]; exact Nat.le_refl _, hZ, findClass_of_methodNamed Bd.named, Fr.nil n0, by rw [hh]; exact CHr.refl hC, hs, Or.inr (State.WarmedH.refl s), hO⟩
  obtain ⟨u, o, h1, h2, h3, v, L, so, r1, r2, rO, r3, r4, r5, r6, r7⟩ := body p e s m below meth c s₁ H
  exact ⟨u, o, (XT.entry hL).trans h1, h2, h3, v, L, so, r1, r2, rO, r3, r4, r5, r6, r7⟩
theorem Met.backS {y : MethodName} {rm : Room} {as' : Array Value} {sfI : List Addr} {Q : Option Value → Heap → List Addr → Prop} {vm0 : Vm} {len W : Nat} (M : Met Z a0 EL cw n0 l y bytes maxL ret rm as' h sfI Q) (hEL : EW Z a0 EL) (hZ : Z.Warmed39 vm0) (wc : (Cond.code y bytes maxL ret).before a0 Z = true) (wz : (Cond.initialized y.cls).before a0 Z = true) (hf : rm.frames + 1 ≤ R.frames) (hl : W + (maxL + 11) + rm.locals ≤ R.locals) (H : CHv Z EL vm0 h) (hs : ∀ x ∈ sfI, x < h.size ∧ Safe Z EL vm0 h x) :
    BackS l R p e below (s.setVm vm0) args y len W (fun A a => a = as' ∧ A.U.heap = h ∧ A.cells + rm.cells ≤ R.cells ∧ A.slots + rm.slots ≤ R.slots)
      (fun A _ v B => ∃ L so, Q v B.U.heap so ∧ Old Z n0 B.U.heap ∧ Fr n0 L ∧ B.locs = A.locs ++ L ∧ B.cells = A.cells + rm.cells ∧ B.slots = A.slots + rm.slots ∧ CHr Z EL vm0 h B.U.vm B.U.heap ∧ (∀ x ∈ so, x < B.U.heap.size ∧ Safe Z EL B.U.vm B.U.heap x) ∧ (cw ∨ (s.setVm vm0).WarmedH B.U.vm)) :=
  BackS.of_freeW (bytes := bytes) (maxL := maxL) (ret := ret)
    (E := fun _ first o t L k n => k = rm.cells ∧ n = rm.slots ∧ ∃ v so, o = .returned v ∧ Q v t.heap so ∧ Old Z n0 t.heap ∧ Fr n0 L ∧ CHr Z EL first.vm first.heap t.vm t.heap ∧ (∀ x ∈ so, x < t.heap.size ∧ Safe Z EL t.vm t.heap x) ∧ (cw ∨ first.WarmedH t.vm))
    (M []) hf hl
    (fun m meth c A a Y hp => have hU : Z.Warmed39 A.U.vm := wtrans (s := s.setVm vm0) hZ Y.warmed
      ⟨by show (Cond.and _ .tt).before a A.U = true; rw [Cond.before_and, mv hU wc]; rfl, mv hU wc, mv hU wz, hp.2.2.1, hp.2.2.2⟩)
    (fun m meth c A a g mk Y hp => by
      have A1 := CHv.at Y hZ hEL H
      exact ⟨hp.1, wtrans (s := s.setVm vm0) hZ Y.warmed, hp.2.1, A1.1, fun x hx => ⟨(hs x hx).1, A1.safe (hs x hx).1 (hs x hx).2⟩⟩)
    (fun _ _ _ _ _ _ _ _ _ => trivial)
    (fun _ _ _ _ ⟨v, L, so, h1, h2, hO, h3, h4, h5, h6, h7⟩ => ⟨L, _, _, h6, rfl, rfl, v, so, h1, h2, hO, h3, h4, h5, h7.imp id (fun q => q.2.1)⟩)
    (fun m meth c A a g mk v t L k n Y hp _ _ ⟨e1, e2, v', so, e3, e4, eO, e5, e6, e7, e8⟩ => by
      cases e3; subst e1 e2
      refine ⟨L, so, e4, eO, e5, rfl, rfl, rfl, (CHv.at Y hZ hEL H).trans ?_, e7, e8.imp id (fun q => State.WarmedH.trans (t := A.U) Y.warmed q)⟩
      rw [← hp.2.1]; exact e6)
theorem Hs.behind {vm0 vm₁ : Vm} {k0 : Nat} {locs : List Loc} {B : Pt} {L' : List Loc} {so : List Addr} {kc ks : Nat} (H : Hs p l e R s m args below meth c Z a0 EL cw own n0 bytes maxL ret nm T h C S sf) (h2 : s.Since vm0 k0) (h3 : k0 ≤ h.size) (h4 : Z.Warmed39 vm0) (h5 : vm0.findClass own = some m.cls) (h6 : Fr n0 locs) (h7 : CHr Z EL s.vm s.heap vm0 h) (h8 : ∀ x ∈ sf, x < h.size ∧ Safe Z EL vm0 h x) (h9 : cw ∨ s.WarmedH vm0)
    (X' : Stand p l e R ((s.setVm vm0).setVm B.U.vm) m args below meth c B.U B.locs B.cells B.slots) (hS : (s.setVm vm0).Since B.U.vm B.U.heap.size) (hg : h.size ≤ B.U.heap.size) (r1 : Fr n0 L') (r2 : B.locs = locs ++ L') (r3 : B.cells = C + kc) (r4 : B.slots = S + ks) (r5 : CHr Z EL vm0 h B.U.vm B.U.heap) (r6 : ∀ x ∈ so, x < B.U.heap.size ∧ Safe Z EL B.U.vm B.U.heap x) (r7 : cw ∨ (s.setVm vm0).WarmedH B.U.vm) (rO : Old Z n0 B.U.heap) : Hs p l e R s m args below meth c Z a0 EL cw own n0 bytes maxL ret nm B.U B.U.heap (C + kc) (S + ks) (so ++ sf) := by
  obtain ⟨Y, y1, y2, y3⟩ := rebS (Z := Z) (own := own) h2 h3 X' hS hg h4 h5
  refine ⟨H.1, B.U.vm, B.U.heap.size, B.locs, by rw [← r3, ← r4]; exact Y, rfl, y1, Nat.le_refl _, y2, y3, by rw [r2]; exact Fr.app h6 r1, h7.trans r5, fun x hx => ?_, ?_, rO⟩
  · rcases List.mem_append.mp hx with hx | hx
    · exact r6 x hx
    · exact ⟨Nat.lt_of_lt_of_le (h8 x hx).1 hg, r5.safe (h8 x hx).1 (h8 x hx).2⟩
  · rcases h9 with q | q
    · exact Or.inl q
    · exact r7.imp id (fun r => State.WarmedH.trans (t := s.setVm vm0) q r)
theorem G.callS (H : Hs p l e R s m args below meth c Z a0 EL cw own n0 bytes maxL ret nm T h C S sf) {y : MethodName} {yb : ByteArray} {ym : Nat} {yr : Option FieldType} {rm : Room} {as' : Array Value} {sfI : List Addr} {Q : Option Value → Heap → List Addr → Prop} (M : Met Z a0 EL cw n0 l y yb ym yr rm as' h sfI Q) {index : Nat} (w1 : (Cond.methodLink own index y).before a0 Z = true) (w2 : (Cond.static y).before a0 Z = true) (wz : (Cond.initialized y.cls).before a0 Z = true) (wc : (Cond.code y yb ym yr).before a0 Z = true) (hy : y.cls ≠ "java/lang/invoke/MethodHandle" ∧ y.cls ≠ "java/lang/invoke/VarHandle")
    {argsL rest st : List Value} {W : Nat} {pc J : Nat} {L : Array Slot} (hL : L.size = maxL) (has : argsL.toArray = as') (hlen : ∀ sig, parseMethodDescriptor y.desc = some sig → argsL.length = sig.parameters.length) (hst : st = argsL.reverse ++ rest) (hW : (rest.map fun v => v.category).sum = W) (hd : decode bytes pc = .ok (.invokestatic index, 3)) (hp : pc + 3 = J) (hf : rm.frames + 1 ≤ R.frames) (hl : W + (ym + 11) + rm.locals ≤ R.locals) (hc : C + rm.cells ≤ R.cells) (hsl : S + rm.slots ≤ R.slots) (hsf : ∀ x ∈ sfI, x ∈ sf)
    (k : ∀ T' h' v so, Hs p l e R s m args below meth c Z a0 EL cw own n0 bytes maxL ret nm T' h' (C + rm.cells) (S + rm.slots) (so ++ sf) → Q v h' so → Go p e below P (T'.setTop (mkF m J L (v.toList ++ rest)))) : Go p e below P (T.setTop (mkF m pc L st)) := by
  subst hp; subst has
  obtain ⟨hM, vm0, k0, locs, X, h1, h2, h3, h4, h5, h6, h7, h8, h9, hO⟩ := id H
  obtain ⟨v, vm₁, B, hw, X', hS, hg, ⟨L', so, q1, rO, r1, r2, r3, r4, r5, r6, r7⟩, st'⟩ := RoadKit.callSS X H.exec h5 (mvT (s := s.setVm vm0) h4 w1) (mvT (s := s.setVm vm0) h4 w2) (mvT (s := s.setVm vm0) h4 wz) (mvT (s := s.setVm vm0) h4 wc) hy (M.backS (W := W) hM.2.1 h4 wc wz hf hl h7.1 (fun x hx => h8 x (hsf x hx))) (g := mkF m pc L st) rfl (by rw [hM.2.2.2.1]; exact hL) hlen hst (by show 2 * 0 + _ ≤ _; omega) (H.dec hd) (fun _ _ => ⟨rfl, h1, hc, hsl⟩)
  rw [h1] at hg
  exact Go.tr st' (k _ _ v so (H.behind (vm₁ := vm₁) h2 h3 h4 h5 h6 h7 h8 h9 X' hS hg r1 r2 r3 r4 r5 r6 r7 rO) q1)
theorem G.callI (H : Hs p l e R s m args below meth c Z a0 EL cw own n0 bytes maxL ret nm T h C S sf) {y : MethodName} {yb : ByteArray} {ym : Nat} {rm : Room} {as' : Array Value} {sfI : List Addr} {Q : Option Value → Heap → List Addr → Prop} (M : Met Z a0 EL cw n0 l y yb ym none rm as' h sfI Q) {index : Nat} (hy1 : y.name = "<init>") (w1 : (Cond.methodLink own index y).before a0 Z = true) (w2 : (Cond.instanceMethod y).before a0 Z = true) (wz : (Cond.initialized y.cls).before a0 Z = true) (wc : (Cond.code y yb ym none).before a0 Z = true) (hy : y.cls ≠ "java/lang/invoke/MethodHandle" ∧ y.cls ≠ "java/lang/invoke/VarHandle")
    {a : Addr} {argsL rest st : List Value} {W : Nat} {pc J : Nat} {L : Array Slot} (hL : L.size = maxL) (has : (Value.ref a :: argsL).toArray = as') (hlen : ∀ sig, parseMethodDescriptor y.desc = some sig → argsL.length = sig.parameters.length) (hst : st = argsL.reverse ++ .ref a :: rest) (hW : (rest.map fun v => v.category).sum = W) (hd : decode bytes pc = .ok (.invokespecial index, 3)) (hp : pc + 3 = J) (hf : rm.frames + 1 ≤ R.frames) (hl : W + (ym + 11) + rm.locals ≤ R.locals) (hc : C + rm.cells ≤ R.cells) (hsl : S + rm.slots ≤ R.slots) (hsf : ∀ x ∈ sfI, x ∈ sf)
    (k : ∀ T' h' v so, Hs p l e R s m args below meth c Z a0 EL cw own n0 bytes maxL ret nm T' h' (C + rm.cells) (S + rm.slots) (so ++ sf) → Q v h' so → Go p e below P (T'.setTop (mkF m J L (v.toList ++ rest)))) : Go p e below P (T.setTop (mkF m pc L st)) := by
  subst hp; subst has
  obtain ⟨hM, vm0, k0, locs, X, h1, h2, h3, h4, h5, h6, h7, h8, h9, hO⟩ := id H
  obtain ⟨v, vm₁, B, hw, X', hS, hg, ⟨L', so, q1, rO, r1, r2, r3, r4, r5, r6, r7⟩, st'⟩ := X.specialBackS H.exec hy1 h5 (mvT (s := s.setVm vm0) h4 w1) (mvT (s := s.setVm vm0) h4 w2) (mvT (s := s.setVm vm0) h4 wc) hy (M.backS (W := W) hM.2.1 h4 wc wz hf hl h7.1 (fun x hx => h8 x (hsf x hx))) (g := mkF m pc L st) rfl (by rw [hM.2.2.2.1]; exact hL) (Steps.refl _) (a := a) hlen hst (by show 2 * 0 + _ ≤ _; omega) (H.dec hd) (fun _ _ => ⟨rfl, h1, hc, hsl⟩)
  rw [h1] at hg
  exact Go.tr st' (k _ _ v so (H.behind (vm₁ := vm₁) h2 h3 h4 h5 h6 h7 h8 h9 X' hS hg r1 r2 r3 r4 r5 r6 r7 rO) q1)
theorem G.callV (H : Hs p l e R s m args below meth c Z a0 EL cw own n0 bytes maxL ret nm T h C S sf) {y z : MethodName} {D : String} {yb : ByteArray} {ym : Nat} {yr : Option FieldType} {rm : Room} {as' : Array Value} {sfI : List Addr} {Q : Option Value → Heap → List Addr → Prop} (M : Met Z a0 EL cw n0 l z yb ym yr rm as' h sfI Q) {index : Nat} (w1 : (Cond.methodLink own index y).before a0 Z = true) (w2 : (Cond.declares y).before a0 Z = true) (wn : ∀ s' : State, Z.Warmed39 s'.vm → NotFace s' y) (w3 : (Cond.selects D y z).before a0 Z = true) (w4 : (Cond.instanceMethod z).before a0 Z = true) (wz : (Cond.initialized z.cls).before a0 Z = true) (wc : (Cond.code z yb ym yr).before a0 Z = true) (hy : y.cls ≠ "java/lang/invoke/MethodHandle" ∧ y.cls ≠ "java/lang/invoke/VarHandle")
    {a : Addr} (E : Exa Z h a D) {argsL rest st : List Value} {W : Nat} {pc J : Nat} {L : Array Slot} (hL : L.size = maxL) (has : (Value.ref a :: argsL).toArray = as') (hlen : ∀ sig, parseMethodDescriptor y.desc = some sig → argsL.length = sig.parameters.length) (hst : st = argsL.reverse ++ .ref a :: rest) (hW : (rest.map fun v => v.category).sum = W) (hd : decode bytes pc = .ok (.invokevirtual index, 3)) (hp : pc + 3 = J) (hf : rm.frames + 1 ≤ R.frames) (hl : W + (ym + 11) + rm.locals ≤ R.locals) (hc : C + rm.cells ≤ R.cells) (hsl : S + rm.slots ≤ R.slots) (hsf : ∀ x ∈ sfI, x ∈ sf)
    (k : ∀ T' h' v so, Hs p l e R s m args below meth c Z a0 EL cw own n0 bytes maxL ret nm T' h' (C + rm.cells) (S + rm.slots) (so ++ sf) → Q v h' so → Go p e below P (T'.setTop (mkF m J L (v.toList ++ rest)))) : Go p e below P (T.setTop (mkF m pc L st)) := by
  subst hp; subst has
  obtain ⟨hM, vm0, k0, locs, X, h1, h2, h3, h4, h5, h6, h7, h8, h9, hO⟩ := id H
  obtain ⟨cq, kq, qa, qb, qc⟩ := isOf (s := s.setVm vm0) h4 h1 E
  obtain ⟨v, vm₁, B, hw, X', hS, hg, ⟨L', so, q1, rO, r1, r2, r3, r4, r5, r6, r7⟩, st'⟩ := X.virtualBackS H.exec h5 (mvT (s := s.setVm vm0) h4 w1) (mvT (s := s.setVm vm0) h4 w2) (wn (s.setVm vm0) h4) (mvT (s := s.setVm vm0) h4 w3) (mvT (s := s.setVm vm0) h4 w4) hy (M.backS (W := W) hM.2.1 h4 wc wz hf hl h7.1 (fun x hx => h8 x (hsf x hx))) qa qc (g := mkF m pc L st) rfl (by rw [hM.2.2.2.1]; exact hL) (Steps.refl _) hlen hst (by show 2 * 0 + _ ≤ _; omega) (H.dec hd) (fun _ _ => ⟨rfl, h1, hc, hsl⟩)
  rw [h1] at hg
  exact Go.tr st' (k _ _ v so (H.behind (vm₁ := vm₁) h2 h3 h4 h5 h6 h7 h8 h9 X' hS hg r1 r2 r3 r4 r5 r6 r7 rO) q1)
theorem nf_sel {y : MethodName} {D : String} (w : (Cond.selects D y y).before a0 Z = true) : ∀ s' : State, Z.Warmed39 s'.vm → NotFace s' y := fun s' hZ => notFace_of_selects (args := #[]) (mvT (s := s') hZ w)
theorem own_u16 {x : Int32} (h : ¬ x < 0 ∧ ¬ (255 : Int32) < x) : ¬ x < 0 ∧ ¬ (65535 : Int32) < x := by
  obtain ⟨h0, h1⟩ := h
  rw [Int32.lt_iff_toInt_lt] at h0 h1
  refine ⟨by rw [Int32.lt_iff_toInt_lt]; exact h0, ?_⟩
  rw [Int32.lt_iff_toInt_lt]
  have e1 : (255 : Int32).toInt = 255 := rfl
  have e2 : (65535 : Int32).toInt = 65535 := rfl
  omega
theorem own_c16 {x : Int32} (h : ¬ x < 0 ∧ ¬ (65535 : Int32) < x) : x.toUInt32.toUInt16.toUInt32.toInt32 = x := by
  obtain ⟨h0, h1⟩ := h
  rw [Int32.lt_iff_toInt_lt] at h0 h1
  have e0 : (0 : Int32).toInt = 0 := rfl
  have e2 : (65535 : Int32).toInt = 65535 := rfl
  have hb : x.toBitVec.toNat < 65536 := by
    have q : x.toBitVec.toInt = x.toInt := rfl
    have r := BitVec.toInt_eq_toNat_cond x.toBitVec
    split at r <;> omega
  apply Int32.toBitVec_inj.mp
  apply BitVec.eq_of_toNat_eq
  have e : x.toUInt32.toUInt16.toUInt32.toInt32.toBitVec.toNat = x.toUInt32.toUInt16.toUInt32.toNat := rfl
  rw [e, UInt16.toNat_toUInt32, UInt32.toNat_toUInt16]
  show x.toBitVec.toNat % 2 ^ 16 = _
  omega
theorem own_narC {x : Int32} (h : ¬ x < 0 ∧ ¬ (65535 : Int32) < x) : nar .char x = x := own_c16 h
theorem own_andn (x k : Int32) (n : Nat) (hn : k.toBitVec.toNat = n) (h31 : n < 2 ^ 31) : 0 ≤ (x &&& k).toInt ∧ (x &&& k).toInt ≤ n := by
  have h : (x &&& k).toBitVec.toNat ≤ n := by
    simp only [Int32.toBitVec_and, BitVec.toNat_and]
    rw [← hn]; exact Nat.and_le_right
  have h2 : (x &&& k).toInt = ((x &&& k).toBitVec.toNat : Int) := by
    show (x &&& k).toBitVec.toInt = _
    rw [BitVec.toInt_eq_toNat_of_lt (by omega)]
  rw [h2]; omega
theorem own_and3 (x : Int32) : x &&& 3 = 0 ∨ x &&& 3 = 1 ∨ x &&& 3 = 2 ∨ x &&& 3 = 3 := by
  obtain ⟨h1, h2⟩ := own_andn x 3 3 rfl (by decide)
  generalize x &&& 3 = k at h1 h2
  have key : ∀ j : Int32, k.toInt = j.toInt → k = j := fun j h => Int32.toInt_inj.mp h
  have hs : k.toInt = 0 ∨ k.toInt = 1 ∨ k.toInt = 2 ∨ k.toInt = 3 := by omega
  rcases hs with h | h | h | h
  · exact Or.inl (key 0 h)
  · exact Or.inr (Or.inl (key 1 h))
  · exact Or.inr (Or.inr (Or.inl (key 2 h)))
  · exact Or.inr (Or.inr (Or.inr (key 3 h)))
theorem own_narB (x : Int32) : nar .byte x.toInt8.toInt32 = x.toInt8.toInt32 := by
  show x.toInt8.toInt32.toInt8.toInt32 = _
  simp
theorem mG {α : Type} {L : List α} {a : α} {i : Nat} (q : L[i]? = some a) : a ∈ L := List.mem_of_getElem? q
theorem lB {n m : Nat} (q : Nat.ble n m = true := by rfl) : n ≤ m := Nat.le_of_ble_eq_true q
theorem sto_of {a y : Addr} {kc : ClassId} {ty : FieldType} {z : Int32} {vs : List Value} {dv : Value} {K : String} (A : Arv Z h a kc ty z vs dv) (O : Ovr Z kc K) (I : Ins Z h y K true) : Sto Z h a (.ref y) := by
  obtain ⟨cl, Ar, q, -⟩ := A; exact Sto.ofV Ar q O I
theorem cb0 : ∀ c ∈ ([] : List Int32), ¬ c < 0 ∧ ¬ (255 : Int32) < c := fun _ q => nomatch q
theorem cbS {x : Int32} {xs : List Int32} (q : ¬ x < 0 ∧ ¬ (255 : Int32) < x) (r : ∀ c ∈ xs, ¬ c < 0 ∧ ¬ (255 : Int32) < c) : ∀ c ∈ x :: xs, ¬ c < 0 ∧ ¬ (255 : Int32) < c := fun c hc => by
  rcases List.mem_cons.mp hc with rfl | hc
  · exact q
  · exact r c hc
def Str (Z : State) (h : Heap) (a t : Addr) (kb : ClassId) (cs : List Int32) : Prop :=
  Exa Z h a "java/lang/String" ∧ Fld Z h a "java/lang/String" "coder" "B" (.int 0) ∧ Fld Z h a "java/lang/String" "value" "[B" (.ref t) ∧ Arv Z h t kb .byte (Int32.ofNat cs.length) (cs.map fun c => Value.int c.toInt8.toInt32) (.int 0) ∧ (∀ c ∈ cs, ¬ c < 0 ∧ ¬ (255 : Int32) < c) ∧ cs.length ≤ 4000
theorem Str.ext {h' : Heap} {a t : Addr} {kb : ClassId} {cs : List Int32} (E : Ext h h') (F : Str Z h a t kb cs) : Str Z h' a t kb cs := ⟨F.1.ext E, F.2.1.ext E, F.2.2.1.ext E, F.2.2.2.1.ext E, F.2.2.2.2⟩
theorem Str.keep {h' : Heap} {a t : Addr} {kb : ClassId} {cs : List Int32} {ws : List Addr} (F : Str Z h a t kb cs) (K : Keep h h' ws) (q : a ∉ ws) (r : t ∉ ws) : Str Z h' a t kb cs := ⟨F.1.keep K, F.2.1.keep K q, F.2.2.1.keep K q, F.2.2.2.1.keep K r, F.2.2.2.2⟩
theorem Str.other {h' : Heap} {a t w : Addr} {sl : Nat} {v : Value} {kb : ClassId} {cs : List Int32} (W : Wr h h' w sl v) (F : Str Z h a t kb cs) (q : a ≠ w) (r : t ≠ w) : Str Z h' a t kb cs := ⟨F.1.wr W, F.2.1.other W (Or.inl q), F.2.2.1.other W (Or.inl q), F.2.2.2.1.other W r, F.2.2.2.2⟩
theorem arv_tyne {a b : Addr} {k1 k2 : ClassId} {t1 t2 : FieldType} {z1 z2 : Int32} {v1 v2 : List Value} {d1 d2 : Value} (A : Arv Z h a k1 t1 z1 v1 d1) (B : Arv Z h b k2 t2 z2 v2 d2) (q : t1 ≠ t2) : a ≠ b := fun e => by
  subst e
  obtain ⟨c1, ⟨a1, ⟨a2, kA, a3, compA, a4⟩, -⟩, -⟩ := A
  obtain ⟨c2, ⟨b1, ⟨b2, kB, b3, compB, b4⟩, -⟩, -⟩ := B
  cases a1.symm.trans b1
  cases a3.symm.trans b3
  have := a4.symm.trans b4
  injection this with _ e
  exact q e
theorem G.clone (H : Hs p l e R s m args below meth c Z a0 EL cw own n0 bytes maxL ret nm T h C S sf) {ad : String} {index : Nat} (w1 : (Cond.methodLink own index ⟨ad, "clone", "()Ljava/lang/Object;"⟩).before a0 Z = true) (w2 : (Cond.sameMethod ad "java/lang/Object" "clone" "()Ljava/lang/Object;").before a0 Z = true) (w3 : (Cond.native ⟨"java/lang/Object", "clone", "()Ljava/lang/Object;"⟩).before a0 Z = true) (w4 : (Cond.instanceMethod ⟨"java/lang/Object", "clone", "()Ljava/lang/Object;"⟩).before a0 Z = true) (w5 : (Cond.selects ad ⟨ad, "clone", "()Ljava/lang/Object;"⟩ ⟨"java/lang/Object", "clone", "()Ljava/lang/Object;"⟩).before a0 Z = true) (w6 : (Cond.castable ad "java/lang/Cloneable").before a0 Z = true)
    {a : Addr} {kc : ClassId} {ty : FieldType} {z : Int32} {vs : List Value} {dv : Value} (A : Arv Z h a kc ty z vs dv) (E : Exa Z h a ad) {st : List Value} {W cap : Nat} {pc J : Nat} {L : Array Slot} (hL : L.size = maxL) (hW : (st.map fun v => v.category).sum = W) (hd : decode bytes pc = .ok (.invokevirtual index, 3)) (hp : pc + 3 = J) (hf : 1 ≤ R.frames) (hl : W + 14 ≤ R.locals) (hcap : z.toNatClampNeg ≤ cap) (hc : C + 1 ≤ R.cells) (hsl : S + cap ≤ R.slots)
    (k : ∀ T' h' b, b = h.size → Hs p l e R s m args below meth c Z a0 EL cw own n0 bytes maxL ret nm T' h' (C + 1) (S + cap) (b :: sf) → Ext h h' → Arv Z h' b kc ty z vs dv → Exa Z h' b ad → Go p e below P (T'.setTop (mkF m J L (.ref b :: st)))) : Go p e below P (T.setTop (mkF m pc L (.ref a :: st))) := by
  subst hp
  obtain ⟨hM, vm0, k0, locs, X, h1, h2, h3, h4, h5, h6, h7, h8, h9, hO⟩ := id H
  obtain ⟨T', h', X', e', Ex, A', E', st'⟩ := RoadKit.cloneH X H.exec h4 h5 w1 w2 w3 w4 w5 w6 h1 A.arh E (g := mkF m pc L (.ref a :: st)) rfl (by rw [hM.2.2.2.1]; exact hL) rfl (H.dec hd) hf (W := W) (by show 2 * 0 + _ ≤ _; omega) hl hcap hc hsl
  exact Go.st st' (k T' h' _ rfl (H.ext X' e' Ex h2 h3 h4 h5 h6 h7 h8 h9 hO E'.lt) Ex A' E')
theorem G.copy (H : Hs p l e R s m args below meth c Z a0 EL cw own n0 bytes maxL ret nm T h C S sf) {index : Nat} (w1 : (Cond.methodLink own index Jvm.Stand.acN).before a0 Z = true) (w2 : (Cond.native Jvm.Stand.acN).before a0 Z = true) (w3 : (Cond.static Jvm.Stand.acN).before a0 Z = true) (w4 : (Cond.initialized "java/lang/System").before a0 Z = true)
    {a b : Addr} {kc kc' : ClassId} {ty ty' : FieldType} {z z' sp dp nn : Int32} {vs vd us : List Value} {dv dd : Value} (A : Arv Z h a kc ty z vs dv) (B : Arv Z h b kc' ty' z' vd dd) (hty : (ty = ty' ∧ refKind ty = false) ∨ (refKind ty = true ∧ refKind ty' = true ∧ StoL Z h b us)) (g1 : ¬ sp < 0) (g2 : ¬ dp < 0) (g3 : ¬ nn < 0) (g4 : sp.toNatClampNeg + nn.toNatClampNeg ≤ z.toNatClampNeg) (g5 : dp.toNatClampNeg + nn.toNatClampNeg ≤ z'.toNatClampNeg) (hus : us = (List.range nn.toNatClampNeg).map fun i => vs.getD (sp.toNatClampNeg + i) dv) (hlen : dp.toNatClampNeg + nn.toNatClampNeg ≤ vd.length) {vr : List Value} (hvr : vd.take dp.toNatClampNeg ++ us ++ vd.drop (dp.toNatClampNeg + nn.toNatClampNeg) = vr) (hq : n0 ≤ b) (hsf : Sf Z EL h sf b)
    {st : List Value} {W : Nat} {pc J : Nat} {L : Array Slot} (hL : L.size = maxL) (hW : (st.map fun v => v.category).sum = W) (hd : decode bytes pc = .ok (.invokestatic index, 3)) (hp : pc + 3 = J) (hf : 1 ≤ R.frames) (hl : W + (nativeFrameWords "java/lang/System" "arraycopy" 5 + 11) ≤ R.locals)
    (k : ∀ T' h', Hs p l e R s m args below meth c Z a0 EL cw own n0 bytes maxL ret nm T' h' C S sf → Keep h h' [b] → Arv Z h' b kc' ty' z' vr dd → Go p e below P (T'.setTop (mkF m J L st))) : Go p e below P (T.setTop (mkF m pc L (.int nn :: .int dp :: .ref b :: .int sp :: .ref a :: st))) := by
  subst hp; subst hvr
  obtain ⟨hM, vm0, k0, locs, X, h1, h2, h3, h4, h5, h6, h7, h8, h9, hO⟩ := id H
  obtain ⟨T', h', L', X', e', F', K', B', st'⟩ := RoadKit.cpA X H.exec h4 h5 w1 w2 w3 w4 h1 A B hty g1 g2 g3 g4 g5 hus hlen h6 hq (g := mkF m pc L (.int nn :: .int dp :: .ref b :: .int sp :: .ref a :: st)) rfl (by rw [hM.2.2.2.1]; exact hL) rfl (H.dec hd) hf (W := W) (by show 2 * 0 + _ ≤ _; omega) hl
  have sx : ∀ y ∈ [b], Safe Z EL vm0 h y := fun y hy => by rw [List.mem_singleton.mp hy]; exact hsf.safe h4 h8
  exact Go.st st' (k T' h' ⟨hM, vm0, k0, L', X', e', h2, Nat.le_trans h3 K'.1, h4, h5, F', h7.trans (CHr.keep K' sx h7.1), fun y hy => ⟨Nat.lt_of_lt_of_le (h8 y hy).1 K'.1, Safe.keep K' sx h7.1 (h8 y hy).2⟩, h9, hO.keep K' (fun y hy => by rw [List.mem_singleton.mp hy]; exact hq)⟩ K' B')
theorem decl_of {y : MethodName} {yb : ByteArray} {ym : Nat} {yr : Option FieldType} (w1 : (Cond.instanceMethod y).before a0 Z = true) (w2 : (Cond.code y yb ym yr).before a0 Z = true) : (Cond.declares y).before a0 Z = true := by
  obtain ⟨mk, meth, h1, h2, h3, -⟩ := Cond.instanceMethod_spec w1
  obtain ⟨meth', c', g1, -, -, -, -, -, -, g8⟩ := Cond.code_spec h1 w2
  cases h2.symm.trans g1
  simp [Cond.before, Cond.holds, Cond.value, h1, h2, h3, g8]
theorem G.callSup (H : Hs p l e R s m args below meth c Z a0 EL cw own n0 bytes maxL ret nm T h C S sf) {z : MethodName} {K : String} {yb : ByteArray} {ym : Nat} {yr : Option FieldType} {rm : Room} {as' : Array Value} {sfI : List Addr} {Q : Option Value → Heap → List Addr → Prop} (M : Met Z a0 EL cw n0 l z yb ym yr rm as' h sfI Q) {index : Nat} (w1 : (Cond.methodLink own index z).before a0 Z = true) (w2 : (Cond.sameMethod z.cls z.cls z.name z.desc).before a0 Z = true) (w3 : (Cond.instanceMethod z).before a0 Z = true) (w4 : (Cond.superclass own z.cls).before a0 Z = true) (hn : z.name ≠ "<init>") (wz : (Cond.initialized z.cls).before a0 Z = true) (wc : (Cond.code z yb ym yr).before a0 Z = true)
    {a : Addr} (F : Ins Z h a K true) {argsL rest st : List Value} {W : Nat} {pc J : Nat} {L : Array Slot} (hL : L.size = maxL) (has : (Value.ref a :: argsL).toArray = as') (hlen : ∀ sig, parseMethodDescriptor z.desc = some sig → argsL.length = sig.parameters.length) (hst : st = argsL.reverse ++ .ref a :: rest) (hW : (rest.map fun v => v.category).sum = W) (hd : decode bytes pc = .ok (.invokespecial index, 3)) (hp : pc + 3 = J) (hf : rm.frames + 1 ≤ R.frames) (hl : W + (ym + 11) + rm.locals ≤ R.locals) (hc : C + rm.cells ≤ R.cells) (hsl : S + rm.slots ≤ R.slots) (hsf : ∀ x ∈ sfI, x ∈ sf)
    (k : ∀ T' h' v so, Hs p l e R s m args below meth c Z a0 EL cw own n0 bytes maxL ret nm T' h' (C + rm.cells) (S + rm.slots) (so ++ sf) → Q v h' so → Go p e below P (T'.setTop (mkF m J L (v.toList ++ rest)))) : Go p e below P (T.setTop (mkF m pc L st)) := by
  subst hp; subst has
  obtain ⟨hM, vm0, k0, locs, X, h1, h2, h3, h4, h5, h6, h7, h8, h9, hO⟩ := id H
  obtain ⟨v, vm₁, B, hw, X', hS, hg, ⟨L', so, q1, rO, r1, r2, r3, r4, r5, r6, r7⟩, st'⟩ := superBackS X H.exec h4 h5 w1 w2 w3 w4 hn (M.backS (W := W) hM.2.1 h4 wc wz hf hl h7.1 (fun x hx => h8 x (hsf x hx))) h1 F (g := mkF m pc L st) rfl (by rw [hM.2.2.2.1]; exact hL) wc hlen hst (by show 2 * 0 + _ ≤ _; omega) (H.dec hd) (fun _ _ => ⟨rfl, h1, hc, hsl⟩)
  rw [h1] at hg
  exact Go.tr st' (k _ _ v so (H.behind (vm₁ := vm₁) h2 h3 h4 h5 h6 h7 h8 h9 X' hS hg r1 r2 r3 r4 r5 r6 r7 rO) q1)
theorem nf_sib {y x' z' : MethodName} {D : String} (w : (Cond.selects D x' z').before a0 Z = true) (hc : z'.cls = y.cls) : ∀ s' : State, Z.Warmed39 s'.vm → NotFace s' y := fun s' hZ r0 h0 => by
  obtain ⟨c2, r2, m2, q1, q2, q3, q4, kP, hkP, hkPi⟩ := Cond.selects_spec (mvT (s := s') (args := #[]) hZ w)
  have e1 := findClass_of_methodNamed h0
  have e2 := findClass_of_methodNamed q3
  rw [hc, e1] at e2
  have e3 : r0.cls = m2.cls := Option.some.inj e2
  exact ⟨kP, by rw [e3]; exact hkP, hkPi⟩
theorem same_of {y x' z' : MethodName} {D : String} (w : (Cond.declares y).before a0 Z = true) (ws : (Cond.selects D x' z').before a0 Z = true) (hc : z'.cls = y.cls) (hy : y.cls ≠ "java/lang/invoke/MethodHandle" ∧ y.cls ≠ "java/lang/invoke/VarHandle") : (Cond.sameMethod y.cls y.cls y.name y.desc).before a0 Z = true := by
  obtain ⟨mk, meth, h1, h2, -, -⟩ := Cond.declares_spec w
  have h3 := State.methodFound?_of_named h1 hy
  have h4 : Z.methodNamed? ⟨y.cls, y.name, y.desc⟩ = some mk := h1
  obtain ⟨kr, g1, g2⟩ := nf_sib ws hc Z (State.Warmed39.refl Z) mk h1
  have h5 := findClass_of_methodNamed h1
  simp [Cond.before, Cond.holds, Cond.value, h3, h4, h5, g1, g2]
abbrev b8 : Int32 → Value := fun c => Value.int c.toInt8.toInt32
theorem own_addN (a b : Nat) : Int32.ofNat a + Int32.ofNat b = Int32.ofNat (a + b) := (Int32.ofNat_add a b).symm
theorem own_subN {a b : Nat} (h : b ≤ a) : Int32.ofNat a - Int32.ofNat b = Int32.ofNat (a - b) := by
  have e : Int32.ofNat a = Int32.ofNat (a - b) + Int32.ofNat b := by rw [own_addN, Nat.sub_add_cancel h]
  rw [e, Int32.add_sub_cancel]
theorem own_shr0 (x : Int32) : x >>> ((0 : Int32) &&& 31) = x := by
  have e : ((0 : Int32) &&& 31) = 0 := by decide
  rw [e]; exact Int32.shiftRight_zero
theorem own_shl0 (x : Int32) : x <<< ((0 : Int32) &&& 31) = x := by
  have e : ((0 : Int32) &&& 31) = 0 := by decide
  rw [e]; exact Int32.shiftLeft_zero
theorem own_tiN {a : Nat} (h : a < 2147483648) : (Int32.ofNat a).toInt = a := Int32.toInt_ofNat_of_lt (by simpa using h)
theorem own_cl {a : Nat} (h : a < 2147483648) : (Int32.ofNat a).toNatClampNeg = a := by
  show (Int32.ofNat a).toInt.toNat = a
  rw [own_tiN h]; rfl
theorem own_eqT {a b : Nat} (h : a = b) : Int32.ofNat a = Int32.ofNat b := h ▸ rfl
theorem own_eqF {a b : Nat} (ha : a < 2147483648) (hb : b < 2147483648) (h : ¬ a = b) : ¬ Int32.ofNat a = Int32.ofNat b := fun q => h (by
  have := congrArg Int32.toInt q; rw [own_tiN ha, own_tiN hb] at this; omega)
theorem own_ltT {a b : Nat} (ha : a < 2147483648) (hb : b < 2147483648) (h : a < b) : Int32.ofNat a < Int32.ofNat b := by
  rw [Int32.lt_iff_toInt_lt, own_tiN ha, own_tiN hb]; omega
theorem own_ltF {a b : Nat} (ha : a < 2147483648) (hb : b < 2147483648) (h : ¬ a < b) : ¬ Int32.ofNat a < Int32.ofNat b := by
  rw [Int32.lt_iff_toInt_lt, own_tiN ha, own_tiN hb]; omega
theorem own_subT {a b : Nat} (ha : a < 2147483648) (h : b < a) : (0 : Int32) < Int32.ofNat a - Int32.ofNat b := by
  rw [own_subN (Nat.le_of_lt h)]; exact own_ltT (a := 0) (by omega) (by omega) (by omega)
theorem own_subF {a b : Nat} (hb : b < 2147483648) (h : ¬ b < a) : ¬ (0 : Int32) < Int32.ofNat a - Int32.ofNat b := by
  rw [Int32.lt_iff_toInt_lt, Int32.toInt_sub, own_tiN hb, own_tiN (a := a) (by omega)]
  have e0 : (0 : Int32).toInt = 0 := rfl
  rw [e0, Int.bmod_eq_of_le (by omega) (by omega)]
  omega
theorem own_nn {a : Nat} (h : a < 2147483648) : ¬ Int32.ofNat a < 0 := own_ltF (b := 0) h (by omega) (by omega)
theorem own_rapp {P : Int32 → Prop} {a b : List Int32} (ha : ∀ c ∈ a, P c) (hb : ∀ c ∈ b, P c) : ∀ c ∈ a ++ b, P c := fun c hc => (List.mem_append.mp hc).elim (ha c) (hb c)
theorem own_l2 {cs : List Int32} (h : cs.length ≤ 2) : cs = [] ∨ (∃ c, cs = [c]) ∨ ∃ c d, cs = [c, d] := by
  match cs, h with
  | [], _ => exact Or.inl rfl
  | [c], _ => exact Or.inr (Or.inl ⟨c, rfl⟩)
  | [c, d], _ => exact Or.inr (Or.inr ⟨c, d, rfl⟩)
  | _ :: _ :: _ :: _, h => exact absurd h (by simp)
theorem own_padA (D us X : List Value) (dv : Value) (h : ∀ i, us.getD i dv = X.getD i dv) : ∀ i, (D ++ X).getD i dv = (D ++ us).getD i dv := fun i => by
  have h' := fun j => h j
  simp only [List.getD_eq_getElem?_getD] at h' ⊢
  by_cases q : i < D.length
  · rw [List.getElem?_append_left q, List.getElem?_append_left q]
  · rw [List.getElem?_append_right (Nat.le_of_not_lt q), List.getElem?_append_right (Nat.le_of_not_lt q)]; exact (h' _).symm
theorem own_us (X : List Value) (dv : Value) (n : Nat) (h : X.length ≤ n) : ∀ i, ((List.range n).map fun i => X.getD (0 + i) dv).getD i dv = X.getD i dv := fun i => by
  by_cases q : i < n
  · simp [List.getD_eq_getElem?_getD, q]
  · have q' : X.length ≤ i := by omega
    simp [List.getD_eq_getElem?_getD, q, List.getElem?_eq_none q']
theorem G.newPn (H : Hs p l e R s m args below meth c Z a0 EL cw own n0 bytes maxL ret nm T h C S sf) {aty : ArrayType} (w : (Cond.arrayClass (newarray.typeOf aty)).before a0 Z = true) {z : Int32} {pc J : Nat} {L : Array Slot} {st : List Value} (hd : decode bytes pc = .ok (.newarray aty, 2)) (hp : pc + 2 = J) (hn : ¬ z < 0) {cap : Nat} (hcap : z.toNatClampNeg ≤ cap) (hb : cap * 8 ≤ 536870912) (hc : C + 1 ≤ R.cells) (hl : S + cap ≤ R.slots) {ad : String} (had : "[" ++ (newarray.typeOf aty).toString = ad)
    (k : ∀ T' h' a kc, a = h.size → Hs p l e R s m args below meth c Z a0 EL cw own n0 bytes maxL ret nm T' h' (C + 1) (S + cap) (a :: sf) → Ext h h' → Arv Z h' a kc (newarray.typeOf aty) z [] (defaultValue (newarray.typeOf aty)) → Exa Z h' a ad → Go p e below P (T'.setTop (mkF m J L (.ref a :: st)))) : Go p e below P (T.setTop (mkF m pc L (.int z :: st))) := by
  subst hp
  obtain ⟨hM, vm0, k0, locs, X, h1, h2, h3, h4, h5, h6, h7, h8, h9, hO⟩ := id H
  obtain ⟨T', h', cA, X', e', E, A, EX, st'⟩ := RoadKit.newPE X H.exec h4 w h1 (g := mkF m pc L (.int z :: st)) rfl (H.dec hd) rfl hn hcap hb hc hl had
  exact Go.st st' (k T' h' _ cA rfl (H.ext X' e' E h2 h3 h4 h5 h6 h7 h8 h9 hO A.lt) E (Arv.new A hn) EX)
theorem own_getset (D : List Value) (d y : Value) : (D ++ [d]).set D.length y = D ++ [y] := by simp
theorem G.copyN (H : Hs p l e R s m args below meth c Z a0 EL cw own n0 bytes maxL ret nm T h C S sf) {index : Nat} (w1 : (Cond.methodLink own index Jvm.Stand.acN).before a0 Z = true) (w2 : (Cond.native Jvm.Stand.acN).before a0 Z = true) (w3 : (Cond.static Jvm.Stand.acN).before a0 Z = true) (w4 : (Cond.initialized "java/lang/System").before a0 Z = true)
    {a b : Addr} {kc kc' : ClassId} {z z' dp nn : Int32} {f : Int32 → Value} {X D : List Int32} {dv : Value} (A : Arv Z h a kc .byte z (X.map f) dv) (B : Arv Z h b kc' .byte z' (D.map f) dv) {nN dN : Nat} (e1 : nn = Int32.ofNat nN) (e2 : dp = Int32.ofNat dN) (q1 : nN < 2147483648) (q2 : dN < 2147483648) (g4 : nN ≤ z.toNatClampNeg) (g5 : dN + nN ≤ z'.toNatClampNeg) (hX : X.length ≤ nN) (hD : dN = D.length) (hq : n0 ≤ b) (hsf : Sf Z EL h sf b)
    {st : List Value} {W : Nat} {pc J : Nat} {L : Array Slot} (hL : L.size = maxL) (hW : (st.map fun v => v.category).sum = W) (hd : decode bytes pc = .ok (.invokestatic index, 3)) (hp : pc + 3 = J) (hf : 1 ≤ R.frames) (hl : W + (nativeFrameWords "java/lang/System" "arraycopy" 5 + 11) ≤ R.locals)
    (k : ∀ T' h', Hs p l e R s m args below meth c Z a0 EL cw own n0 bytes maxL ret nm T' h' C S sf → Keep h h' [b] → Arv Z h' b kc' .byte z' ((D ++ X).map f) dv → Go p e below P (T'.setTop (mkF m J L st))) : Go p e below P (T.setTop (mkF m pc L (.int nn :: .int dp :: .ref b :: .int 0 :: .ref a :: st))) := by
  subst e1; subst e2; subst hD
  have B2 : Arv Z h b kc' .byte z' (D.map f ++ List.replicate nN dv) dv := B.pad (fun i => pad_rep _ _ _ i)
  have c1 := own_cl q1; have c2 := own_cl q2
  have c0 : (0 : Int32).toNatClampNeg = 0 := rfl
  refine G.copy H w1 w2 w3 w4 A B2 (us := (List.range nN).map fun i => (X.map f).getD (0 + i) dv) (Or.inl ⟨rfl, rfl⟩) (by decide) (own_nn q2) (own_nn q1) (by rw [c1, c0, Nat.zero_add]; exact g4) (by rw [c1, c2]; exact g5) (by rw [c1, c0]) (by rw [c1, c2]; simp) rfl hq hsf hL hW hd hp hf hl (fun T' h' H' K B' => k T' h' H' K ?_)
  rw [c1, c2] at B'
  have e : List.take D.length (D.map f ++ List.replicate nN dv) ++ ((List.range nN).map fun i => (X.map f).getD (0 + i) dv) ++ List.drop (D.length + nN) (D.map f ++ List.replicate nN dv) = D.map f ++ ((List.range nN).map fun i => (X.map f).getD (0 + i) dv) := by
    rw [List.take_append_of_le_length (by simp), List.take_of_length_le (by simp), List.drop_eq_nil_of_le (by simp), List.append_nil]
  rw [e] at B'
  rw [List.map_append]
  exact B'.pad (own_padA _ _ _ _ (own_us _ _ _ (by simpa using hX)))
theorem own_mkStr {a t : Addr} {kb : ClassId} {z : Int32} {cs : List Int32} (E : Exa Z h a "java/lang/String") (Cd : Fld Z h a "java/lang/String" "coder" "B" (.int 0)) (V : Fld Z h a "java/lang/String" "value" "[B" (.ref t)) (A : Arv Z h t kb .byte z (cs.map b8) (.int 0)) (hz : z = Int32.ofNat cs.length) (hp : ∀ c ∈ cs, ¬ c < 0 ∧ ¬ (255 : Int32) < c) (hl : cs.length ≤ 4000) : Str Z h a t kb cs := ⟨E, Cd, V, hz ▸ A, hp, hl⟩
theorem Str.al {a t : Addr} {kb : ClassId} {cs : List Int32} (F : Str Z h a t kb cs) : Arv Z h t kb .byte (Int32.ofNat cs.length) (cs.map b8) (.int 0) := F.2.2.2.1
theorem own_clc {a : Nat} (q : a < 2147483648) {k : Nat} (hk : a ≤ k) : (Int32.ofNat a).toNatClampNeg ≤ k := by rw [own_cl q]; exact hk
theorem own_clg {a : Nat} (q : a < 2147483648) {k : Nat} (hk : k ≤ a) : k ≤ (Int32.ofNat a).toNatClampNeg := by rw [own_cl q]; exact hk
theorem own_255 : ∀ j : Fin 32, (255#32)[j] = decide ((j : Nat) < 8) := by decide
theorem own_bv255 (v : BitVec 32) : ((v.signExtend 8).signExtend 32) &&& 255#32 = v &&& 255#32 := by
  ext i hi
  simp only [BitVec.getElem_and, BitVec.getElem_signExtend]
  rw [show (255#32)[i] = decide (i < 8) from own_255 ⟨i, hi⟩]
  by_cases h : i < 8
  · simp [h, hi]
  · simp [h]
theorem own_b255 (x : Int32) : (x.toInt8.toInt32 &&& 255) = (x &&& 255) := by
  apply Int32.toBitVec_inj.mp
  rw [Int32.toBitVec_and, Int32.toBitVec_and, Int8.toBitVec_toInt32, Int32.toBitVec_toInt8]
  exact own_bv255 x.toBitVec
theorem own_b8and {x : Int32} (q : ¬ x < 0 ∧ ¬ (255 : Int32) < x) : (x.toInt8.toInt32 &&& 255) = x := by
  rw [own_b255]
  obtain ⟨h1, h2⟩ := q
  rw [Int32.lt_iff_toInt_lt] at h1 h2
  have e0 : (0 : Int32).toInt = 0 := rfl
  have e1 : (255 : Int32).toInt = 255 := rfl
  have e2 : x = Int32.ofNat x.toInt.toNat := by
    apply Int32.toInt_inj.mp
    rw [own_tiN (by omega)]; omega
  have key : ∀ n : Fin 256, (Int32.ofNat n &&& 255) = Int32.ofNat n := by decide +kernel
  rw [e2]; exact key ⟨x.toInt.toNat, by omega⟩
theorem G.stBn (H : Hs p l e R s m args below meth c Z a0 EL cw own n0 bytes maxL ret nm T h C S sf) {a : Addr} {kc : ClassId} {z : Int32} {D : List Int32} {dv : Value} (A : Arv Z h a kc .byte z (D.map b8) dv) {j x : Int32} (hj : ¬ j < 0 ∧ j < z) (hi : j.toNatClampNeg = D.length) (hq : n0 ≤ a) (hsf : Sf Z EL h sf a) {pc J : Nat} {L : Array Slot} {st : List Value} (hd : decode bytes pc = .ok (.bastore, 1)) (hp : pc + 1 = J)
    (k : ∀ T' h', Hs p l e R s m args below meth c Z a0 EL cw own n0 bytes maxL ret nm T' h' C S sf → Wr h h' a D.length (b8 x) → Arv Z h' a kc .byte z ((D ++ [x]).map b8) dv → Go p e below P (T'.setTop (mkF m J L st))) : Go p e below P (T.setTop (mkF m pc L (.int x.toInt8.toInt32 :: .int j :: .ref a :: st))) := by
  have A2 : Arv Z h a kc .byte z (D.map b8 ++ [dv]) dv := A.pad (fun i => by simpa using pad_rep (D.map b8) dv 1 i)
  refine G.stB H A2 hj hi (by simp) hq hsf (own_narB _) hd hp (fun T' h' H' W B => k T' h' H' W ?_)
  have e : (D.map b8 ++ [dv]).set D.length (b8 x) = (D ++ [x]).map b8 := by
    have := own_getset (D.map b8) dv (b8 x)
    rw [List.length_map] at this
    rw [this, List.map_append]; rfl
  rw [← e]; exact B
def ByA (Z : State) (h : Heap) (t : Addr) : Prop := ∃ k z vs, Arv Z h t k .byte z vs (.int 0)
theorem ByA.lt {t : Addr} (F : ByA Z h t) : t < h.size := by obtain ⟨k, z, vs, A⟩ := F; exact A.lt
theorem ByA.ext {h' : Heap} {t : Addr} (F : ByA Z h t) (E : Ext h h') : ByA Z h' t := by obtain ⟨k, z, vs, A⟩ := F; exact ⟨k, z, vs, A.ext E⟩
theorem ByA.keep {h' : Heap} {t : Addr} {ws : List Addr} (F : ByA Z h t) (K : Keep h h' ws) (q : t ∉ ws) : ByA Z h' t := by obtain ⟨k, z, vs, A⟩ := F; exact ⟨k, z, vs, A.keep K q⟩
theorem ByA.other {h' : Heap} {t w : Addr} {sl : Nat} {v : Value} (F : ByA Z h t) (W : Wr h h' w sl v) (q : t ≠ w) : ByA Z h' t := by obtain ⟨k, z, vs, A⟩ := F; exact ⟨k, z, vs, A.other W q⟩
def u16b (cs : List Int32) : List Value := cs.flatMap fun c => [b8 c, b8 (c >>> ((8 : Int32) &&& 31))]
def Lat (Z : State) (h : Heap) (a t : Addr) (kb : ClassId) (cs : List Int32) : Prop := Fld Z h a "java/lang/String" "coder" "B" (.int 0) ∧ Arv Z h t kb .byte (Int32.ofNat cs.length) (cs.map b8) (.int 0) ∧ (∀ c ∈ cs, ¬ c < 0 ∧ ¬ (255 : Int32) < c) ∧ (cs ≠ [] → Exa Z h t "[B")
def Utf (Z : State) (h : Heap) (a t : Addr) (kb : ClassId) (cs : List Int32) : Prop := Fld Z h a "java/lang/String" "coder" "B" (.int 1) ∧ Arv Z h t kb .byte (Int32.ofNat (2 * cs.length)) (u16b cs) (.int 0) ∧ ¬ ∀ c ∈ cs, ¬ (255 : Int32) < c
def Sign (c : Int32) : Prop := (¬ c < 0 ∧ ¬ (65535 : Int32) < c) ∧ (c < 55296 ∨ ¬ c < 57344)
def StrU (Z : State) (h : Heap) (a t : Addr) (kb : ClassId) (cs : List Int32) : Prop := Exa Z h a "java/lang/String" ∧ (Lat Z h a t kb cs ∨ Utf Z h a t kb cs) ∧ Fld Z h a "java/lang/String" "value" "[B" (.ref t) ∧ ByA Z h t ∧ (∀ c ∈ cs, Sign c) ∧ cs.length ≤ 2
theorem StrU.ext {h' : Heap} {a t : Addr} {kb : ClassId} {cs : List Int32} (E : Ext h h') (F : StrU Z h a t kb cs) : StrU Z h' a t kb cs := ⟨F.1.ext E, F.2.1.imp (fun q => ⟨q.1.ext E, q.2.1.ext E, q.2.2.1, fun u => (q.2.2.2 u).ext E⟩) (fun q => ⟨q.1.ext E, q.2.1.ext E, q.2.2⟩), F.2.2.1.ext E, F.2.2.2.1.ext E, F.2.2.2.2⟩
theorem StrU.keep {h' : Heap} {a t : Addr} {kb : ClassId} {cs : List Int32} {ws : List Addr} (F : StrU Z h a t kb cs) (K : Keep h h' ws) (q : a ∉ ws) (r : t ∉ ws) : StrU Z h' a t kb cs := ⟨F.1.keep K, F.2.1.imp (fun u => ⟨u.1.keep K q, u.2.1.keep K r, u.2.2.1, fun y => (u.2.2.2 y).keep K⟩) (fun u => ⟨u.1.keep K q, u.2.1.keep K r, u.2.2⟩), F.2.2.1.keep K q, F.2.2.2.1.keep K r, F.2.2.2.2⟩
theorem StrU.other {h' : Heap} {a t w : Addr} {sl : Nat} {v : Value} {kb : ClassId} {cs : List Int32} (W : Wr h h' w sl v) (F : StrU Z h a t kb cs) (q : a ≠ w) (r : t ≠ w) : StrU Z h' a t kb cs := ⟨F.1.wr W, F.2.1.imp (fun u => ⟨u.1.other W (Or.inl q), u.2.1.other W r, u.2.2.1, fun y => (u.2.2.2 y).wr W⟩) (fun u => ⟨u.1.other W (Or.inl q), u.2.1.other W r, u.2.2⟩), F.2.2.1.other W (Or.inl q), F.2.2.2.1.other W r, F.2.2.2.2⟩
theorem StrU.of0 {a t : Addr} {kb : ClassId} {cs : List Int32} (F : Str Z h a t kb cs) (hs : ∀ c ∈ cs, Sign c) (hl : cs.length ≤ 2) (hE : cs ≠ [] → Exa Z h t "[B") : StrU Z h a t kb cs := ⟨F.1, Or.inl ⟨F.2.1, F.2.2.2.1, F.2.2.2.2.1, hE⟩, F.2.2.1, ⟨_, _, _, F.2.2.2.1⟩, hs, hl⟩
theorem StrU.of1 {a t : Addr} {kb : ClassId} {cs : List Int32} {z : Int32} {vs : List Value} (E : Exa Z h a "java/lang/String") (Cd : Fld Z h a "java/lang/String" "coder" "B" (.int 1)) (Va : Fld Z h a "java/lang/String" "value" "[B" (.ref t)) (A : Arv Z h t kb .byte z vs (.int 0)) (hz : z = Int32.ofNat (2 * cs.length)) (hv : vs = u16b cs) (hn : ¬ ∀ c ∈ cs, ¬ (255 : Int32) < c) (hs : ∀ c ∈ cs, Sign c) (hl : cs.length ≤ 2) : StrU Z h a t kb cs := by
  subst hz; subst hv; exact ⟨E, Or.inr ⟨Cd, A, hn⟩, Va, ⟨_, _, _, A⟩, hs, hl⟩
theorem own_al0 {Q : Int32 → Prop} : ∀ c ∈ ([] : List Int32), Q c := fun _ q => nomatch q
theorem own_al1 {Q : Int32 → Prop} {x : Int32} (h1 : Q x) : ∀ c ∈ [x], Q c := fun c hc => by rw [List.mem_singleton.mp hc]; exact h1
theorem own_al2 {Q : Int32 → Prop} {x y : Int32} (h1 : Q x) (h2 : Q y) : ∀ c ∈ [x, y], Q c := fun c hc => by
  rcases List.mem_cons.mp hc with rfl | hc
  · exact h1
  · rw [List.mem_singleton.mp hc]; exact h2
theorem StrU.cut0 {a t : Addr} {kb : ClassId} (F : StrU Z h a t kb []) : Str Z h a t kb [] := by
  rcases F.2.1 with q | q
  · exact ⟨F.1, q.1, F.2.2.1, q.2.1, q.2.2.1, by decide⟩
  · exact absurd (fun c hc => nomatch hc) q.2.2
theorem StrU.cut1 {a t : Addr} {kb : ClassId} {x : Int32} (F : StrU Z h a t kb [x]) : (Str Z h a t kb [x] ∧ Exa Z h t "[B") ∨ ((255 : Int32) < x ∧ Fld Z h a "java/lang/String" "coder" "B" (.int 1) ∧ Arv Z h t kb .byte 2 [b8 x, b8 (x >>> ((8 : Int32) &&& 31))] (.int 0)) := by
  rcases F.2.1 with q | q
  · exact Or.inl ⟨⟨F.1, q.1, F.2.2.1, q.2.1, q.2.2.1, Nat.le_of_ble_eq_true rfl⟩, q.2.2.2 (fun u => nomatch u)⟩
  · refine Or.inr ⟨?_, q.1, q.2.1⟩
    rcases Decidable.em ((255 : Int32) < x) with u | u
    · exact u
    · exact absurd (own_al1 u) q.2.2
theorem StrU.cut2 {a t : Addr} {kb : ClassId} {x y : Int32} (F : StrU Z h a t kb [x, y]) : (Str Z h a t kb [x, y] ∧ Exa Z h t "[B") ∨ ((¬ (255 : Int32) < x → (255 : Int32) < y) ∧ Fld Z h a "java/lang/String" "coder" "B" (.int 1) ∧ Arv Z h t kb .byte 4 [b8 x, b8 (x >>> ((8 : Int32) &&& 31)), b8 y, b8 (y >>> ((8 : Int32) &&& 31))] (.int 0)) := by
  rcases F.2.1 with q | q
  · exact Or.inl ⟨⟨F.1, q.1, F.2.2.1, q.2.1, q.2.2.1, Nat.le_of_ble_eq_true rfl⟩, q.2.2.2 (fun u => nomatch u)⟩
  · refine Or.inr ⟨fun u => ?_, q.1, q.2.1⟩
    rcases Decidable.em ((255 : Int32) < y) with w | w
    · exact w
    · exact absurd (own_al2 u w) q.2.2
def Bld (Z : State) (h : Heap) (a p1 : Addr) (k1 : ClassId) (w : Nat) (X : List Int32) : Prop := Exa Z h a "java/lang/StringBuilder" ∧ Fld Z h a "java/lang/AbstractStringBuilder" "value" "[B" (.ref p1) ∧ Fld Z h a "java/lang/AbstractStringBuilder" "coder" "B" (.int 0) ∧ Fld Z h a "java/lang/AbstractStringBuilder" "count" "I" (.int (Int32.ofNat X.length)) ∧ Arv Z h p1 k1 .byte (Int32.ofNat w) (X.map b8) (.int 0) ∧ X.length ≤ w ∧ Exa Z h p1 "[B"
def Cap (w : Nat) : Prop := w = 16 ∨ w = 34 ∨ w = 70
def Bud (w C S Cm Sm : Nat) : Prop := (w = 16 ∧ C + 2 ≤ Cm ∧ S + 140 ≤ Sm) ∨ (w = 34 ∧ C + 1 ≤ Cm ∧ S + 70 ≤ Sm) ∨ (w = 70 ∧ C ≤ Cm ∧ S ≤ Sm)
theorem Bud.of {w C S Cm Sm : Nat} (q : Cap w) (h1 : C + 2 ≤ Cm) (h2 : S + 140 ≤ Sm) : Bud w C S Cm Sm := by unfold Cap at q; unfold Bud; omega
theorem Bud.cap {w C S Cm Sm : Nat} (q : Bud w C S Cm Sm) : Cap w := by unfold Bud at q; unfold Cap; omega
theorem Bud.cc {w C S Cm Sm : Nat} (q : Bud w C S Cm Sm) : C ≤ Cm := by unfold Bud at q; omega
theorem Bud.ss {w C S Cm Sm : Nat} (q : Bud w C S Cm Sm) : S ≤ Sm := by unfold Bud at q; omega
theorem own_cnt {a : Addr} {O n d : String} {i j : Nat} (F : Fld Z h a O n d (.int (Int32.ofNat i))) (q : i = j) : Fld Z h a O n d (.int (Int32.ofNat j)) := q ▸ F
theorem own_arz {a : Addr} {kc : ClassId} {i j : Nat} {vs : List Value} {dv : Value} (F : Arv Z h a kc .byte (Int32.ofNat i) vs dv) (q : i = j) : Arv Z h a kc .byte (Int32.ofNat j) vs dv := q ▸ F
theorem own_bC {c M k r : Nat} (h1 : c ≤ M) (q : M + k ≤ r) : c + k ≤ r := by omega
theorem own_nef {hv : Heap} {w old y : Addr} (N : w = old ∨ hv.size ≤ w) (h1 : y < hv.size) (h2 : y ≠ old) : y ≠ w := fun q => N.elim (fun u => h2 (q.trans u)) (fun u => absurd (q ▸ h1) (Nat.not_lt.mpr u))
theorem own_nw {ws : List Addr} {hi hv : Heap} {w old : Addr} (N : w = old ∨ hv.size ≤ w) (q : old ∈ ws ∨ hi.size ≤ old) (g : hi.size ≤ hv.size) : w ∈ ws ∨ hi.size ≤ w := N.elim (fun u => u ▸ q) (fun u => Or.inr (Nat.le_trans g u))
theorem own_inc (i : Nat) : Int32.ofNat i + Int32.ofInt 1 = Int32.ofNat (i + 1) := by
  rw [show Int32.ofInt 1 = Int32.ofNat 1 from by decide]; exact own_addN i 1
theorem own_nw2 {hi hv : Heap} {w old p1 : Addr} (N : w = old ∨ hv.size ≤ w) (q : old = p1 ∨ hi.size ≤ old) (g : hi.size ≤ hv.size) : w = p1 ∨ hi.size ≤ w := N.elim (fun u => u ▸ q) (fun u => Or.inr (Nat.le_trans g u))
theorem own_arl {a : Addr} {kc : ClassId} {z : Int32} {l l' : List Int32} {dv : Value} (F : Arv Z h a kc .byte z (l.map b8) dv) (q : l = l') : Arv Z h a kc .byte z (l'.map b8) dv := q ▸ F
theorem own_bl {a p1 : Addr} {k1 : ClassId} {w : Nat} {l l' : List Int32} (B : Bld Z h a p1 k1 w l) (q : l = l') : Bld Z h a p1 k1 w l' := q ▸ B
theorem own_narBg {u x : Int32} (q : u = x.toInt8.toInt32) : nar .byte u = u := by subst q; exact own_narB x
theorem ne_old {a b : Addr} (O : Old Z n0 h) (h1 : a < Z.heap.size) (g : n0 ≤ b) : a ≠ b := Nat.ne_of_lt (Nat.lt_of_lt_of_le h1 (Nat.le_trans (Nat.le_of_eq O.1) g))
theorem G.cS (H : Hs p l e R s m args below meth c Z a0 EL cw own n0 bytes maxL ret nm T h C S sf) {y : MethodName} {yb : ByteArray} {ym : Nat} {yr : Option FieldType} {rm : Room} {as' : Array Value} {sfI : List Addr} {Q : Option Value → Heap → List Addr → Prop} (M : Met Z a0 EL cw n0 l y yb ym yr rm as' h sfI Q) {index : Nat} (w1 : (Cond.methodLink own index y).before a0 Z = true) (w2 : (Cond.static y).before a0 Z = true) (wz : (Cond.initialized y.cls).before a0 Z = true) (wc : (Cond.code y yb ym yr).before a0 Z = true)
    (argsL rest : List Value) {st : List Value} (W J : Nat) {pc : Nat} {L : Array Slot} (hlen : ∀ sig, parseMethodDescriptor y.desc = some sig → argsL.length = sig.parameters.length) (hd : decode bytes pc = .ok (.invokestatic index, 3)) (hsf : ∀ x ∈ sfI, x ∈ sf)
    (hD : ((y.cls ≠ "java/lang/invoke/MethodHandle" ∧ y.cls ≠ "java/lang/invoke/VarHandle") ∧ rm.frames + 1 ≤ R.frames ∧ W + (ym + 11) + rm.locals ≤ R.locals) ∧ C + rm.cells ≤ R.cells ∧ S + rm.slots ≤ R.slots)
    (k : ∀ T' h' v so, Hs p l e R s m args below meth c Z a0 EL cw own n0 bytes maxL ret nm T' h' (C + rm.cells) (S + rm.slots) (so ++ sf) → Q v h' so → Go p e below P (T'.setTop (mkF m J L (v.toList ++ rest))))
    (hL : L.size = maxL := by rfl) (has : argsL.toArray = as' := by rfl) (hst : st = argsL.reverse ++ rest := by rfl) (hW : (rest.map fun v => v.category).sum = W := by rfl) (hp : pc + 3 = J := by rfl) : Go p e below P (T.setTop (mkF m pc L st)) :=
  G.callS H M w1 w2 wz wc hD.1.1 hL has hlen hst hW hd hp hD.1.2.1 hD.1.2.2 hD.2.1 hD.2.2 hsf k
theorem G.cV (H : Hs p l e R s m args below meth c Z a0 EL cw own n0 bytes maxL ret nm T h C S sf) {y z : MethodName} {D : String} {yb : ByteArray} {ym : Nat} {yr : Option FieldType} {rm : Room} {as' : Array Value} {sfI : List Addr} {Q : Option Value → Heap → List Addr → Prop} (M : Met Z a0 EL cw n0 l z yb ym yr rm as' h sfI Q) {index : Nat} (w1 : (Cond.methodLink own index y).before a0 Z = true) (w2 : (Cond.declares y).before a0 Z = true) (wn : ∀ s' : State, Z.Warmed39 s'.vm → NotFace s' y) (w3 : (Cond.selects D y z).before a0 Z = true) (w4 : (Cond.instanceMethod z).before a0 Z = true) (wz : (Cond.initialized z.cls).before a0 Z = true) (wc : (Cond.code z yb ym yr).before a0 Z = true)
    {a : Addr} (E : Exa Z h a D) (argsL rest : List Value) {st : List Value} (W J : Nat) {pc : Nat} {L : Array Slot} (hlen : ∀ sig, parseMethodDescriptor y.desc = some sig → argsL.length = sig.parameters.length) (hd : decode bytes pc = .ok (.invokevirtual index, 3)) (hsf : ∀ x ∈ sfI, x ∈ sf)
    (hD : ((y.cls ≠ "java/lang/invoke/MethodHandle" ∧ y.cls ≠ "java/lang/invoke/VarHandle") ∧ rm.frames + 1 ≤ R.frames ∧ W + (ym + 11) + rm.locals ≤ R.locals) ∧ C + rm.cells ≤ R.cells ∧ S + rm.slots ≤ R.slots)
    (k : ∀ T' h' v so, Hs p l e R s m args below meth c Z a0 EL cw own n0 bytes maxL ret nm T' h' (C + rm.cells) (S + rm.slots) (so ++ sf) → Q v h' so → Go p e below P (T'.setTop (mkF m J L (v.toList ++ rest))))
    (hL : L.size = maxL := by rfl) (has : (Value.ref a :: argsL).toArray = as' := by rfl) (hst : st = argsL.reverse ++ .ref a :: rest := by rfl) (hW : (rest.map fun v => v.category).sum = W := by rfl) (hp : pc + 3 = J := by rfl) : Go p e below P (T.setTop (mkF m pc L st)) :=
  G.callV H M w1 w2 wn w3 w4 wz wc hD.1.1 E hL has hlen hst hW hd hp hD.1.2.1 hD.1.2.2 hD.2.1 hD.2.2 hsf k
theorem own_evI {args : Array Value} {a : Term} {i : Int32} (hq : (Cond.eq a (Term.int i)).value args Z none Z [] = some true) : a.eval args Z none [] Z = some (.int i) := by
  obtain ⟨u, w, hu, hw, k1, k2⟩ := cmp_v (Or.inl hq)
  have e1 : (Term.int i).eval args Z none [] Z = some (.int i) := Term.int_eval i
  cases e1.symm.trans hw
  obtain ⟨z, rfl⟩ := k2
  have e2 : z = i := gotT (Cond.eq_ints hu e1) hq
  subst e2; exact hu
theorem own_evR {args : Array Value} {a b : Term} {y : Addr} (hb : b.eval args Z none [] Z = some (.ref y)) (hq : (Cond.eq a b).value args Z none Z [] = some true) : a.eval args Z none [] Z = some (.ref y) := by
  obtain ⟨u, w, hu, hw, k1, k2⟩ := cmp_v (Or.inl hq)
  cases hb.symm.trans hw
  have e2 : u = .ref y := gotT (eq_R hu hb k2.2 rfl) hq
  subst e2; exact hu
theorem own_len {args : Array Value} {t : Term} {ty : FieldType} {x : Addr} {n : Int32} {cl : Cell} (ev : t.eval args Z none [] Z = some (.ref x)) (A : Arr Z Z.heap x cl ty) (hl : (Cond.eq (Term.length t) (Term.int n)).value args Z none Z [] = some true) : cl.slots.size < 2 ^ 31 ∧ cl.slots.size.toInt32 = n := by
  have e := own_evI hl
  have ha : Z.arrayAt? x = some cl := Arr.fin (U := Z) (Vm.Alike.refl _) A
  by_cases hs : cl.slots.size < 2 ^ 31
  · have q := (len_f ev ha hs).symm.trans e
    exact ⟨hs, by injection q with q; injection q⟩
  · simp [Term.eval, ev, ha, hs] at e
end Kit
end Jvm.OwnKit
namespace Jvm.Pilot.@@N@@
open Jvm Jvm.ClassFile Sem Op Lib Jvm.Free Jvm.Stand Jvm.LawKit Jvm.RoadKit Bundle Jvm.OwnKit Jvm.Pilot.@@N@@.Jvm.D
abbrev ELs : List (String × Nat) := [("com/example/schema_to_form/schematoform/server/PathSegments", 36), ("java/lang/String", 7)]
def Env1 (Z : State) (a0 : Array Value) (n0 : Nat) (uu0 : Addr) (uu1 : Addr) (uu2 : Int32) (uu3 : Value) (uu4 : ClassId) : Prop := (∀ d ∈ tables_1, d.before a0 Z = true) ∧ EW Z a0 ELs ∧ Sta Z Z.heap "com/example/schema_to_form/schematoform/server/PathSegments" "HEX" "[C" (.ref uu0) ∧ Sta Z Z.heap "sun/nio/cs/UTF_8" "INSTANCE" "Lsun/nio/cs/UTF_8;" (.ref uu1) ∧ Exa Z Z.heap uu1 "sun/nio/cs/UTF_8" ∧ Sta Z Z.heap "java/nio/charset/StandardCharsets" "UTF_8" "Ljava/nio/charset/Charset;" (.ref uu1) ∧ Exa Z Z.heap uu1 "sun/nio/cs/UTF_8" ∧ Sta Z Z.heap "java/lang/StringUTF16" "$assertionsDisabled" "Z" (.int (1 : Int32)) ∧ Sta Z Z.heap "java/lang/StringUTF16" "HI_BYTE_SHIFT" "I" (.int (0 : Int32)) ∧ Sta Z Z.heap "java/lang/StringUTF16" "LO_BYTE_SHIFT" "I" (.int (8 : Int32)) ∧ Sta Z Z.heap "java/lang/String" "COMPACT_STRINGS" "Z" (.int uu2) ∧ ¬ uu2 = 0 ∧ Sta Z Z.heap "jdk/internal/util/Preconditions" "SIOOBE_FORMATTER" "Ljava/util/function/BiFunction;" uu3 ∧ uu3.isRef = true ∧ Arv Z Z.heap uu0 uu4 .char 16 [.int 48, .int 49, .int 50, .int 51, .int 52, .int 53, .int 54, .int 55, .int 56, .int 57, .int 65, .int 66, .int 67, .int 68, .int 69, .int 70] (.int 0) ∧ True
set_option maxRecDepth 65536
set_option maxHeartbeats 40000000
abbrev Y0 := method_9_code
abbrev Y1 := jdk_42_method_47_code
abbrev Y2 := jdk_42_method_46_code
abbrev Y3 := method_3_code
abbrev Y4 := method_5_code
abbrev Y5 := prog_8_method_9_code
abbrev Y6 := method_4_code
abbrev Y7 := method_7_code
abbrev Y8 := method_10_code
abbrev Y9 := prog_8_method_15_code
abbrev Y10 := prog_8_method_7_code
abbrev Y11 := jdk_68_method_10_code
abbrev Y12 := jdk_42_method_149_code
abbrev Y13 := jdk_68_method_31_code
abbrev Y14 := prog_8_method_14_code
abbrev Y15 := jdk_52_method_16_code
abbrev Y16 := jdk_52_method_5_code
abbrev Y17 := method_6_code
abbrev Y18 := jdk_68_method_9_code
abbrev Y19 := jdk_52_method_21_code
abbrev Y20 := jdk_52_method_4_code
abbrev Y21 := jdk_68_method_22_code
abbrev Y22 := method_8_code
abbrev Y23 := jdk_65_method_133_code
abbrev Y24 := jdk_42_method_150_code
abbrev Y25 := jdk_123_method_3_code
abbrev Y26 := jdk_65_method_121_code
abbrev Y27 := jdk_43_method_22_code
abbrev Y28 := jdk_42_method_56_code
abbrev Y29 := jdk_42_method_139_code
abbrev Y30 := jdk_52_method_14_code
abbrev Y31 := jdk_42_method_147_code
abbrev Y32 := jdk_65_method_132_code
abbrev Y33 := jdk_48_method_27_code
abbrev Y34 := jdk_43_method_2_code
abbrev Y35 := jdk_42_method_154_code
abbrev Y36 := jdk_68_method_2_code
abbrev Y37 := jdk_68_method_73_code
abbrev Y38 := jdk_42_method_64_code
abbrev Y39 := jdk_42_method_80_code
abbrev Y40 := jdk_42_method_54_code
abbrev Y41 := jdk_42_method_18_code
abbrev Y42 := jdk_123_method_2_code
abbrev Y43 := jdk_29_method_69_code
abbrev Y44 := jdk_42_method_152_code
abbrev Y45 := jdk_42_method_151_code
abbrev Y46 := jdk_41_method_11_code
abbrev Y47 := jdk_52_method_3_code
abbrev Y48 := jdk_52_method_15_code
abbrev Y49 := jdk_43_method_4_code
abbrev Y50 := jdk_42_method_155_code
abbrev Y51 := jdk_42_method_3_code
abbrev Y52 := jdk_52_method_24_code
abbrev Y53 := jdk_52_method_83_code
abbrev Y54 := jdk_68_method_71_code
abbrev Y55 := jdk_43_method_46_code
abbrev Y56 := jdk_43_method_3_code
abbrev Y57 := jdk_89_method_16_code
abbrev Y58 := jdk_29_method_65_code
abbrev Y59 := jdk_68_method_68_code
abbrev Y60 := jdk_67_method_14_code
abbrev Y61 := jdk_52_method_91_code
abbrev Y62 := jdk_52_method_6_code
abbrev Y63 := jdk_67_method_7_code
abbrev Y64 := jdk_42_method_53_code
abbrev Y65 := jdk_42_method_79_code
abbrev Y66 := jdk_67_method_42_code
abbrev Y67 := jdk_52_method_2_code
abbrev Y68 := jdk_67_method_1_code
abbrev Y69 := jdk_65_method_131_code
abbrev Y70 := jdk_68_method_6_code
abbrev Y71 := jdk_68_method_64_code
abbrev Y72 := jdk_67_method_93_code
theorem qa {x y : List Int32} : (x ++ y).length = x.length + y.length := List.length_append
theorem qc {x : Int32} {y : List Int32} : (x :: y).length = y.length + 1 := rfl
theorem qn : ([] : List Int32).length = 0 := rfl
theorem ra (x y z : List Int32) : x ++ y ++ z = x ++ (y ++ z) := List.append_assoc x y z
theorem rb (x : List Int32) : [] ++ x = x := rfl
theorem rz (x : List Int32) : x ++ [] = x := List.append_nil x
theorem rd {a : Int32} {x y : List Int32} : a :: x ++ y = a :: (x ++ y) := rfl
theorem wq (V : Env1 Z a0 n0 uu0 uu1 uu2 uu3 uu4) {d : Jvm.Cond} (i : Nat) (h : tables_1[i]? = some d) : d.before a0 Z = true := V.1 _ (List.mem_of_getElem? h)
theorem EWl (V : Env1 Z a0 n0 uu0 uu1 uu2 uu3 uu4) : EW Z a0 ELs := V.2.1
theorem hv0 (V : Env1 Z a0 n0 uu0 uu1 uu2 uu3 uu4) : Sta Z Z.heap "com/example/schema_to_form/schematoform/server/PathSegments" "HEX" "[C" (.ref uu0) := V.2.2.1
theorem hv1 (V : Env1 Z a0 n0 uu0 uu1 uu2 uu3 uu4) : Sta Z Z.heap "sun/nio/cs/UTF_8" "INSTANCE" "Lsun/nio/cs/UTF_8;" (.ref uu1) := V.2.2.2.1
theorem hv2 (V : Env1 Z a0 n0 uu0 uu1 uu2 uu3 uu4) : Exa Z Z.heap uu1 "sun/nio/cs/UTF_8" := V.2.2.2.2.1
theorem hv3 (V : Env1 Z a0 n0 uu0 uu1 uu2 uu3 uu4) : Sta Z Z.heap "java/nio/charset/StandardCharsets" "UTF_8" "Ljava/nio/charset/Charset;" (.ref uu1) := V.2.2.2.2.2.1
theorem hv4 (V : Env1 Z a0 n0 uu0 uu1 uu2 uu3 uu4) : Exa Z Z.heap uu1 "sun/nio/cs/UTF_8" := V.2.2.2.2.2.2.1
theorem hv5 (V : Env1 Z a0 n0 uu0 uu1 uu2 uu3 uu4) : Sta Z Z.heap "java/lang/StringUTF16" "$assertionsDisabled" "Z" (.int (1 : Int32)) := V.2.2.2.2.2.2.2.1
theorem hv6 (V : Env1 Z a0 n0 uu0 uu1 uu2 uu3 uu4) : Sta Z Z.heap "java/lang/StringUTF16" "HI_BYTE_SHIFT" "I" (.int (0 : Int32)) := V.2.2.2.2.2.2.2.2.1
theorem hv7 (V : Env1 Z a0 n0 uu0 uu1 uu2 uu3 uu4) : Sta Z Z.heap "java/lang/StringUTF16" "LO_BYTE_SHIFT" "I" (.int (8 : Int32)) := V.2.2.2.2.2.2.2.2.2.1
theorem hv8 (V : Env1 Z a0 n0 uu0 uu1 uu2 uu3 uu4) : Sta Z Z.heap "java/lang/String" "COMPACT_STRINGS" "Z" (.int uu2) := V.2.2.2.2.2.2.2.2.2.2.1
theorem hv9 (V : Env1 Z a0 n0 uu0 uu1 uu2 uu3 uu4) : ¬ uu2 = 0 := V.2.2.2.2.2.2.2.2.2.2.2.1
theorem hv10 (V : Env1 Z a0 n0 uu0 uu1 uu2 uu3 uu4) : Sta Z Z.heap "jdk/internal/util/Preconditions" "SIOOBE_FORMATTER" "Ljava/util/function/BiFunction;" uu3 := V.2.2.2.2.2.2.2.2.2.2.2.2.1
theorem hv11 (V : Env1 Z a0 n0 uu0 uu1 uu2 uu3 uu4) : uu3.isRef = true := V.2.2.2.2.2.2.2.2.2.2.2.2.2.1
theorem hv12 (V : Env1 Z a0 n0 uu0 uu1 uu2 uu3 uu4) : Arv Z Z.heap uu0 uu4 .char 16 [.int 48, .int 49, .int 50, .int 51, .int 52, .int 53, .int 54, .int 55, .int 56, .int 57, .int 65, .int 66, .int 67, .int 68, .int 69, .int 70] (.int 0) := V.2.2.2.2.2.2.2.2.2.2.2.2.2.2.1
def wd2 (V : Env1 Z a0 n0 uu0 uu1 uu2 uu3 uu4) := wq V 2 rfl
def wd10 (V : Env1 Z a0 n0 uu0 uu1 uu2 uu3 uu4) := wq V 10 rfl
def wd11 (V : Env1 Z a0 n0 uu0 uu1 uu2 uu3 uu4) := wq V 11 rfl
def wd24 (V : Env1 Z a0 n0 uu0 uu1 uu2 uu3 uu4) := wq V 24 rfl
def wd25 (V : Env1 Z a0 n0 uu0 uu1 uu2 uu3 uu4) := wq V 25 rfl
def wd26 (V : Env1 Z a0 n0 uu0 uu1 uu2 uu3 uu4) := wq V 26 rfl
def wd29 (V : Env1 Z a0 n0 uu0 uu1 uu2 uu3 uu4) := wq V 29 rfl
def wd30 (V : Env1 Z a0 n0 uu0 uu1 uu2 uu3 uu4) := wq V 30 rfl
def wd34 (V : Env1 Z a0 n0 uu0 uu1 uu2 uu3 uu4) := wq V 34 rfl
def wd37 (V : Env1 Z a0 n0 uu0 uu1 uu2 uu3 uu4) := wq V 37 rfl
def wd38 (V : Env1 Z a0 n0 uu0 uu1 uu2 uu3 uu4) := wq V 38 rfl
def wd46 (V : Env1 Z a0 n0 uu0 uu1 uu2 uu3 uu4) := wq V 46 rfl
def wd50 (V : Env1 Z a0 n0 uu0 uu1 uu2 uu3 uu4) := wq V 50 rfl
def wd51 (V : Env1 Z a0 n0 uu0 uu1 uu2 uu3 uu4) := wq V 51 rfl
def wd52 (V : Env1 Z a0 n0 uu0 uu1 uu2 uu3 uu4) := wq V 52 rfl
def wd53 (V : Env1 Z a0 n0 uu0 uu1 uu2 uu3 uu4) := wq V 53 rfl
def wd80 (V : Env1 Z a0 n0 uu0 uu1 uu2 uu3 uu4) := wq V 80 rfl
def wd81 (V : Env1 Z a0 n0 uu0 uu1 uu2 uu3 uu4) := wq V 81 rfl
def wd89 (V : Env1 Z a0 n0 uu0 uu1 uu2 uu3 uu4) := wq V 89 rfl
def wd106 (V : Env1 Z a0 n0 uu0 uu1 uu2 uu3 uu4) := wq V 106 rfl
def wd107 (V : Env1 Z a0 n0 uu0 uu1 uu2 uu3 uu4) := wq V 107 rfl
def wd108 (V : Env1 Z a0 n0 uu0 uu1 uu2 uu3 uu4) := wq V 108 rfl
def wd109 (V : Env1 Z a0 n0 uu0 uu1 uu2 uu3 uu4) := wq V 109 rfl
def wd110 (V : Env1 Z a0 n0 uu0 uu1 uu2 uu3 uu4) := wq V 110 rfl
def wd111 (V : Env1 Z a0 n0 uu0 uu1 uu2 uu3 uu4) := wq V 111 rfl
def wd112 (V : Env1 Z a0 n0 uu0 uu1 uu2 uu3 uu4) := wq V 112 rfl
def wd113 (V : Env1 Z a0 n0 uu0 uu1 uu2 uu3 uu4) := wq V 113 rfl
def wd114 (V : Env1 Z a0 n0 uu0 uu1 uu2 uu3 uu4) := wq V 114 rfl
def wd115 (V : Env1 Z a0 n0 uu0 uu1 uu2 uu3 uu4) := wq V 115 rfl
def wd121 (V : Env1 Z a0 n0 uu0 uu1 uu2 uu3 uu4) := wq V 121 rfl
def wd130 (V : Env1 Z a0 n0 uu0 uu1 uu2 uu3 uu4) := wq V 130 rfl
def wd184 (V : Env1 Z a0 n0 uu0 uu1 uu2 uu3 uu4) := wq V 184 rfl
def wd189 (V : Env1 Z a0 n0 uu0 uu1 uu2 uu3 uu4) := wq V 189 rfl
def wd208 (V : Env1 Z a0 n0 uu0 uu1 uu2 uu3 uu4) := wq V 208 rfl
def wd250 (V : Env1 Z a0 n0 uu0 uu1 uu2 uu3 uu4) := wq V 250 rfl
def wd291 (V : Env1 Z a0 n0 uu0 uu1 uu2 uu3 uu4) := wq V 291 rfl
def wd292 (V : Env1 Z a0 n0 uu0 uu1 uu2 uu3 uu4) := wq V 292 rfl
def wd328 (V : Env1 Z a0 n0 uu0 uu1 uu2 uu3 uu4) := wq V 328 rfl
def wd329 (V : Env1 Z a0 n0 uu0 uu1 uu2 uu3 uu4) := wq V 329 rfl
def wd346 (V : Env1 Z a0 n0 uu0 uu1 uu2 uu3 uu4) := wq V 346 rfl
theorem wS (V : Env1 Z a0 n0 uu0 uu1 uu2 uu3 uu4) : ∀ a ∈ Bundle.stringAtoms, a.before a0 Z = true := fun d hd => V.1 d ((by decide +kernel : ∀ d ∈ Bundle.stringAtoms, d ∈ tables_1) d hd)
theorem pd_0 : parseMethodDescriptor "(I)V" = some ⟨[.int], none⟩ := by decide +kernel
theorem pd_1 : parseMethodDescriptor "()Z" = some ⟨[], (some .boolean)⟩ := by decide +kernel
theorem pd_2 : parseMethodDescriptor "(C)Z" = some ⟨[.char], (some .boolean)⟩ := by decide +kernel
theorem pd_3 : parseMethodDescriptor "(C)Ljava/lang/AbstractStringBuilder;" = some ⟨[.char], (some (.object "java/lang/AbstractStringBuilder"))⟩ := by decide +kernel
theorem pd_4 : parseMethodDescriptor "(II)I" = some ⟨[.int, .int], (some .int)⟩ := by decide +kernel
theorem pd_5 : parseMethodDescriptor "(III)I" = some ⟨[.int, .int, .int], (some .int)⟩ := by decide +kernel
theorem pd_6 : parseMethodDescriptor "(I)I" = some ⟨[.int], (some .int)⟩ := by decide +kernel
theorem pd_7 : parseMethodDescriptor "([BI)[B" = some ⟨[(.array .byte), .int], (some (.array .byte))⟩ := by decide +kernel
theorem pd_8 : parseMethodDescriptor "(C)Ljava/lang/StringBuilder;" = some ⟨[.char], (some (.object "java/lang/StringBuilder"))⟩ := by decide +kernel
theorem pd_9 : parseMethodDescriptor "(I)Z" = some ⟨[.int], (some .boolean)⟩ := by decide +kernel
theorem pd_10 : parseMethodDescriptor "()B" = some ⟨[], (some .byte)⟩ := by decide +kernel
theorem pd_11 : parseMethodDescriptor "()I" = some ⟨[], (some .int)⟩ := by decide +kernel
theorem pd_12 : parseMethodDescriptor "([BIII)I" = some ⟨[(.array .byte), .int, .int, .int], (some .int)⟩ := by decide +kernel
theorem pd_13 : parseMethodDescriptor "(II)C" = some ⟨[.int, .int], (some .char)⟩ := by decide +kernel
theorem pd_14 : parseMethodDescriptor "([CIILjava/lang/Void;)V" = some ⟨[(.array .char), .int, .int, (.object "java/lang/Void")], none⟩ := by decide +kernel
theorem pd_15 : parseMethodDescriptor "([C)V" = some ⟨[(.array .char)], none⟩ := by decide +kernel
theorem pd_16 : parseMethodDescriptor "([BII)V" = some ⟨[(.array .byte), .int, .int], none⟩ := by decide +kernel
theorem pd_17 : parseMethodDescriptor "(C)[B" = some ⟨[.char], (some (.array .byte))⟩ := by decide +kernel
theorem pd_18 : parseMethodDescriptor "([BB)V" = some ⟨[(.array .byte), .byte], none⟩ := by decide +kernel
theorem pd_19 : parseMethodDescriptor "(C)Ljava/lang/String;" = some ⟨[.char], (some (.object "java/lang/String"))⟩ := by decide +kernel
theorem pd_20 : parseMethodDescriptor "([CI[BII)I" = some ⟨[(.array .char), .int, (.array .byte), .int, .int], (some .int)⟩ := by decide +kernel
theorem pd_21 : parseMethodDescriptor "(I)[B" = some ⟨[.int], (some (.array .byte))⟩ := by decide +kernel
theorem pd_22 : parseMethodDescriptor "([CII)[B" = some ⟨[(.array .char), .int, .int], (some (.array .byte))⟩ := by decide +kernel
theorem pd_23 : parseMethodDescriptor "([BI)C" = some ⟨[(.array .byte), .int], (some .char)⟩ := by decide +kernel
theorem pd_24 : parseMethodDescriptor "([BI)B" = some ⟨[(.array .byte), .int], (some .byte)⟩ := by decide +kernel
theorem pd_25 : parseMethodDescriptor "(ICC)Ljava/lang/String;" = some ⟨[.int, .char, .char], (some (.object "java/lang/String"))⟩ := by decide +kernel
theorem pd_26 : parseMethodDescriptor "()V" = some ⟨[], none⟩ := by decide +kernel
theorem pd_27 : parseMethodDescriptor "()[B" = some ⟨[], (some (.array .byte))⟩ := by decide +kernel
theorem pd_28 : parseMethodDescriptor "(II)V" = some ⟨[.int, .int], none⟩ := by decide +kernel
theorem pd_29 : parseMethodDescriptor "([BII)[B" = some ⟨[(.array .byte), .int, .int], (some (.array .byte))⟩ := by decide +kernel
theorem pd_30 : parseMethodDescriptor "(Ljava/lang/AbstractStringBuilder;Ljava/lang/Void;)V" = some ⟨[(.object "java/lang/AbstractStringBuilder"), (.object "java/lang/Void")], none⟩ := by decide +kernel
theorem pd_31 : parseMethodDescriptor "(Ljava/lang/StringBuilder;)V" = some ⟨[(.object "java/lang/StringBuilder")], none⟩ := by decide +kernel
theorem pd_32 : parseMethodDescriptor "()Ljava/lang/String;" = some ⟨[], (some (.object "java/lang/String"))⟩ := by decide +kernel
theorem pd_33 : parseMethodDescriptor "([Ljava/lang/String;)Ljava/lang/String;" = some ⟨[(.array (.object "java/lang/String"))], (some (.object "java/lang/String"))⟩ := by decide +kernel
theorem pd_34 : parseMethodDescriptor "(Ljava/lang/String;Ljava/lang/String;)Z" = some ⟨[(.object "java/lang/String"), (.object "java/lang/String")], (some .boolean)⟩ := by decide +kernel
theorem pd_35 : parseMethodDescriptor "(Ljava/lang/String;)V" = some ⟨[(.object "java/lang/String")], none⟩ := by decide +kernel
theorem pd_36 : parseMethodDescriptor "([BIB)V" = some ⟨[(.array .byte), .int, .byte], none⟩ := by decide +kernel
theorem pd_37 : parseMethodDescriptor "(ILjava/lang/String;)V" = some ⟨[.int, (.object "java/lang/String")], none⟩ := by decide +kernel
theorem pd_38 : parseMethodDescriptor "(Ljava/lang/String;)Ljava/lang/AbstractStringBuilder;" = some ⟨[(.object "java/lang/String")], (some (.object "java/lang/AbstractStringBuilder"))⟩ := by decide +kernel
theorem pd_39 : parseMethodDescriptor "(Ljava/lang/String;)Ljava/lang/StringBuilder;" = some ⟨[(.object "java/lang/String")], (some (.object "java/lang/StringBuilder"))⟩ := by decide +kernel
theorem pd_40 : parseMethodDescriptor "(IILjava/util/function/BiFunction;)I" = some ⟨[.int, .int, (.object "java/util/function/BiFunction")], (some .int)⟩ := by decide +kernel
theorem pd_41 : parseMethodDescriptor "(I)C" = some ⟨[.int], (some .char)⟩ := by decide +kernel
theorem pd_42 : parseMethodDescriptor "([BII)I" = some ⟨[(.array .byte), .int, .int], (some .int)⟩ := by decide +kernel
theorem pd_43 : parseMethodDescriptor "([BII)Z" = some ⟨[(.array .byte), .int, .int], (some .boolean)⟩ := by decide +kernel
theorem pd_44 : parseMethodDescriptor "(B[BZ)[B" = some ⟨[.byte, (.array .byte), .boolean], (some (.array .byte))⟩ := by decide +kernel
theorem pd_45 : parseMethodDescriptor "(Ljava/nio/charset/Charset;B[B)[B" = some ⟨[(.object "java/nio/charset/Charset"), .byte, (.array .byte)], (some (.array .byte))⟩ := by decide +kernel
theorem pd_46 : parseMethodDescriptor "(Ljava/nio/charset/Charset;)[B" = some ⟨[(.object "java/nio/charset/Charset")], (some (.array .byte))⟩ := by decide +kernel
theorem pd_47 : parseMethodDescriptor "([B)I" = some ⟨[(.array .byte)], (some .int)⟩ := by decide +kernel
theorem pd_48 : parseMethodDescriptor "(I[B)V" = some ⟨[.int, (.array .byte)], none⟩ := by decide +kernel
theorem pd_49 : parseMethodDescriptor "([BZ)[B" = some ⟨[(.array .byte), .boolean], (some (.array .byte))⟩ := by decide +kernel
theorem pd_50 : parseMethodDescriptor "(Ljava/lang/StringBuilder;Ljava/lang/String;Ljava/lang/String;)V" = some ⟨[(.object "java/lang/StringBuilder"), (.object "java/lang/String"), (.object "java/lang/String")], none⟩ := by decide +kernel
theorem pd_51 : parseMethodDescriptor "(Ljava/lang/String;IC)I" = some ⟨[(.object "java/lang/String"), .int, .char], (some .int)⟩ := by decide +kernel
theorem pd_52 : parseMethodDescriptor "(Ljava/lang/String;II)I" = some ⟨[(.object "java/lang/String"), .int, .int], (some .int)⟩ := by decide +kernel
theorem pd_53 : parseMethodDescriptor "(Ljava/lang/String;IICC)I" = some ⟨[(.object "java/lang/String"), .int, .int, .char, .char], (some .int)⟩ := by decide +kernel
theorem D45_0 : decode Y60 0 = .ok (.aload_n 0, 1) := by decide +kernel
theorem D45_1 : decode Y60 1 = .ok (.iload_n 1, 1) := by decide +kernel
theorem D45_2 : decode Y60 2 = .ok (.invokespecial 50, 3) := by decide +kernel
theorem D53_0 : decode Y13 0 = .ok (.aload_n 0, 1) := by decide +kernel
theorem D53_1 : decode Y13 1 = .ok (.aload_n 0, 1) := by decide +kernel
theorem D53_2 : decode Y13 2 = .ok (.getfield 79, 3) := by decide +kernel
theorem D53_5 : decode Y13 5 = .ok (.iconst 1, 1) := by decide +kernel
theorem D53_6 : decode Y13 6 = .ok (.iadd, 1) := by decide +kernel
theorem D53_7 : decode Y13 7 = .ok (.invokevirtual 100, 3) := by decide +kernel
theorem D59_0 : decode Y18 0 = .ok (.aload_n 0, 1) := by decide +kernel
theorem D59_1 : decode Y18 1 = .ok (.getfield 15, 3) := by decide +kernel
theorem D59_4 : decode Y18 4 = .ok (.arraylength, 1) := by decide +kernel
theorem D59_5 : decode Y18 5 = .ok (.aload_n 0, 1) := by decide +kernel
theorem D59_6 : decode Y18 6 = .ok (.getfield 22, 3) := by decide +kernel
theorem D59_9 : decode Y18 9 = .ok (.ishr, 1) := by decide +kernel
theorem D59_10 : decode Y18 10 = .ok (.istore_n 2, 1) := by decide +kernel
theorem D59_11 : decode Y18 11 = .ok (.iload_n 1, 1) := by decide +kernel
theorem D59_12 : decode Y18 12 = .ok (.iload_n 2, 1) := by decide +kernel
theorem D59_13 : decode Y18 13 = .ok (.isub, 1) := by decide +kernel
theorem D59_14 : decode Y18 14 = .ok (.ifCond .le 24, 3) := by decide +kernel
theorem D59_38 : decode Y18 38 = .ok (.return_, 1) := by decide +kernel
theorem D53_10 : decode Y13 10 = .ok (.aload_n 0, 1) := by decide +kernel
theorem D53_11 : decode Y13 11 = .ok (.invokevirtual 83, 3) := by decide +kernel
theorem D55_0 : decode Y59 0 = .ok (.getstatic 18, 3) := by decide +kernel
theorem D55_3 : decode Y59 3 = .ok (.ifCond .eq 14, 3) := by decide +kernel
theorem D55_6 : decode Y59 6 = .ok (.aload_n 0, 1) := by decide +kernel
theorem D55_7 : decode Y59 7 = .ok (.getfield 22, 3) := by decide +kernel
theorem D55_10 : decode Y59 10 = .ok (.ifCond .ne 7, 3) := by decide +kernel
theorem D55_13 : decode Y59 13 = .ok (.iconst 1, 1) := by decide +kernel
theorem D55_14 : decode Y59 14 = .ok (.goto 4, 3) := by decide +kernel
theorem D55_18 : decode Y59 18 = .ok (.ireturn, 1) := by decide +kernel
theorem D53_14 : decode Y13 14 = .ok (.ifCond .eq 31, 3) := by decide +kernel
theorem D53_17 : decode Y13 17 = .ok (.iload_n 1, 1) := by decide +kernel
theorem D53_18 : decode Y13 18 = .ok (.invokestatic 191, 3) := by decide +kernel
theorem D25_0 : decode Y56 0 = .ok (.iload_n 0, 1) := by decide +kernel
theorem D25_1 : decode Y56 1 = .ok (.sipush 255, 3) := by decide +kernel
theorem D25_4 : decode Y56 4 = .ok (.if_icmp .gt 7, 3) := by decide +kernel
theorem D25_7 : decode Y56 7 = .ok (.iconst 1, 1) := by decide +kernel
theorem D25_8 : decode Y56 8 = .ok (.goto 4, 3) := by decide +kernel
theorem D25_12 : decode Y56 12 = .ok (.ireturn, 1) := by decide +kernel
theorem D53_21 : decode Y13 21 = .ok (.ifCond .eq 24, 3) := by decide +kernel
theorem D53_24 : decode Y13 24 = .ok (.aload_n 0, 1) := by decide +kernel
theorem D53_25 : decode Y13 25 = .ok (.getfield 15, 3) := by decide +kernel
theorem D53_28 : decode Y13 28 = .ok (.aload_n 0, 1) := by decide +kernel
theorem D53_29 : decode Y13 29 = .ok (.dup, 1) := by decide +kernel
theorem D53_30 : decode Y13 30 = .ok (.getfield 79, 3) := by decide +kernel
theorem D53_33 : decode Y13 33 = .ok (.dup_x1, 1) := by decide +kernel
theorem D53_34 : decode Y13 34 = .ok (.iconst 1, 1) := by decide +kernel
theorem D53_35 : decode Y13 35 = .ok (.iadd, 1) := by decide +kernel
theorem D53_36 : decode Y13 36 = .ok (.putfield 79, 3) := by decide +kernel
theorem D53_39 : decode Y13 39 = .ok (.iload_n 1, 1) := by decide +kernel
theorem D53_40 : decode Y13 40 = .ok (.i2b, 1) := by decide +kernel
theorem D53_41 : decode Y13 41 = .ok (.bastore, 1) := by decide +kernel
theorem D53_42 : decode Y13 42 = .ok (.goto 33, 3) := by decide +kernel
theorem D53_75 : decode Y13 75 = .ok (.aload_n 0, 1) := by decide +kernel
theorem D53_76 : decode Y13 76 = .ok (.areturn, 1) := by decide +kernel
theorem D45_5 : decode Y60 5 = .ok (.pop, 1) := by decide +kernel
theorem D45_6 : decode Y60 6 = .ok (.aload_n 0, 1) := by decide +kernel
theorem D45_7 : decode Y60 7 = .ok (.areturn, 1) := by decide +kernel
theorem D59_17 : decode Y18 17 = .ok (.aload_n 0, 1) := by decide +kernel
theorem D59_18 : decode Y18 18 = .ok (.aload_n 0, 1) := by decide +kernel
theorem D59_19 : decode Y18 19 = .ok (.getfield 15, 3) := by decide +kernel
theorem D59_22 : decode Y18 22 = .ok (.aload_n 0, 1) := by decide +kernel
theorem D59_23 : decode Y18 23 = .ok (.iload_n 1, 1) := by decide +kernel
theorem D59_24 : decode Y18 24 = .ok (.invokevirtual 104, 3) := by decide +kernel
theorem D50_0 : decode Y11 0 = .ok (.aload_n 0, 1) := by decide +kernel
theorem D50_1 : decode Y11 1 = .ok (.getfield 15, 3) := by decide +kernel
theorem D50_4 : decode Y11 4 = .ok (.arraylength, 1) := by decide +kernel
theorem D50_5 : decode Y11 5 = .ok (.istore_n 2, 1) := by decide +kernel
theorem D50_6 : decode Y11 6 = .ok (.iload_n 1, 1) := by decide +kernel
theorem D50_7 : decode Y11 7 = .ok (.aload_n 0, 1) := by decide +kernel
theorem D50_8 : decode Y11 8 = .ok (.getfield 22, 3) := by decide +kernel
theorem D50_11 : decode Y11 11 = .ok (.ishl, 1) := by decide +kernel
theorem D50_12 : decode Y11 12 = .ok (.istore_n 3, 1) := by decide +kernel
theorem D50_13 : decode Y11 13 = .ok (.iload_n 3, 1) := by decide +kernel
theorem D50_14 : decode Y11 14 = .ok (.iload_n 2, 1) := by decide +kernel
theorem D50_15 : decode Y11 15 = .ok (.isub, 1) := by decide +kernel
theorem D50_16 : decode Y11 16 = .ok (.istore 4, 2) := by decide +kernel
theorem D50_18 : decode Y11 18 = .ok (.iload_n 2, 1) := by decide +kernel
theorem D50_19 : decode Y11 19 = .ok (.iload 4, 2) := by decide +kernel
theorem D50_21 : decode Y11 21 = .ok (.iload_n 2, 1) := by decide +kernel
theorem D50_22 : decode Y11 22 = .ok (.iconst 2, 1) := by decide +kernel
theorem D50_23 : decode Y11 23 = .ok (.aload_n 0, 1) := by decide +kernel
theorem D50_24 : decode Y11 24 = .ok (.getfield 22, 3) := by decide +kernel
theorem D50_27 : decode Y11 27 = .ok (.ishl, 1) := by decide +kernel
theorem D50_28 : decode Y11 28 = .ok (.iadd, 1) := by decide +kernel
theorem D50_29 : decode Y11 29 = .ok (.invokestatic 114, 3) := by decide +kernel
theorem D28_0 : decode Y33 0 = .ok (.iload_n 0, 1) := by decide +kernel
theorem D28_1 : decode Y33 1 = .ok (.iload_n 1, 1) := by decide +kernel
theorem D28_2 : decode Y33 2 = .ok (.iload_n 2, 1) := by decide +kernel
theorem D28_3 : decode Y33 3 = .ok (.invokestatic 194, 3) := by decide +kernel
theorem D2_0 : decode Y58 0 = .ok (.iload_n 0, 1) := by decide +kernel
theorem D2_1 : decode Y58 1 = .ok (.iload_n 1, 1) := by decide +kernel
theorem D2_2 : decode Y58 2 = .ok (.if_icmp .lt 7, 3) := by decide +kernel
theorem D2_9 : decode Y58 9 = .ok (.iload_n 1, 1) := by decide +kernel
theorem D2_10 : decode Y58 10 = .ok (.ireturn, 1) := by decide +kernel
theorem D28_6 : decode Y33 6 = .ok (.iadd, 1) := by decide +kernel
theorem D28_7 : decode Y33 7 = .ok (.istore_n 3, 1) := by decide +kernel
theorem D28_8 : decode Y33 8 = .ok (.iconst 0, 1) := by decide +kernel
theorem D28_9 : decode Y33 9 = .ok (.iload_n 3, 1) := by decide +kernel
theorem D28_10 : decode Y33 10 = .ok (.if_icmp .ge 11, 3) := by decide +kernel
theorem D28_13 : decode Y33 13 = .ok (.iload_n 3, 1) := by decide +kernel
theorem D28_14 : decode Y33 14 = .ok (.ldc 200, 2) := by decide +kernel
theorem D28_16 : decode Y33 16 = .ok (.if_icmp .gt 5, 3) := by decide +kernel
theorem D28_19 : decode Y33 19 = .ok (.iload_n 3, 1) := by decide +kernel
theorem D28_20 : decode Y33 20 = .ok (.ireturn, 1) := by decide +kernel
theorem D50_32 : decode Y11 32 = .ok (.istore 5, 2) := by decide +kernel
theorem D50_34 : decode Y11 34 = .ok (.iload 5, 2) := by decide +kernel
theorem D50_36 : decode Y11 36 = .ok (.ldc 39, 2) := by decide +kernel
theorem D50_38 : decode Y11 38 = .ok (.if_icmp .ne 13, 3) := by decide +kernel
theorem D50_51 : decode Y11 51 = .ok (.iload 5, 2) := by decide +kernel
theorem D50_53 : decode Y11 53 = .ok (.aload_n 0, 1) := by decide +kernel
theorem D50_54 : decode Y11 54 = .ok (.getfield 22, 3) := by decide +kernel
theorem D50_57 : decode Y11 57 = .ok (.ishr, 1) := by decide +kernel
theorem D50_58 : decode Y11 58 = .ok (.ireturn, 1) := by decide +kernel
theorem D59_27 : decode Y18 27 = .ok (.aload_n 0, 1) := by decide +kernel
theorem D59_28 : decode Y18 28 = .ok (.getfield 22, 3) := by decide +kernel
theorem D59_31 : decode Y18 31 = .ok (.ishl, 1) := by decide +kernel
theorem D59_32 : decode Y18 32 = .ok (.invokestatic 108, 3) := by decide +kernel
theorem D41_0 : decode Y26 0 = .ok (.iload_n 1, 1) := by decide +kernel
theorem D41_1 : decode Y26 1 = .ok (.aload_n 0, 1) := by decide +kernel
theorem D41_2 : decode Y26 2 = .ok (.arraylength, 1) := by decide +kernel
theorem D41_3 : decode Y26 3 = .ok (.if_icmp .ne 11, 3) := by decide +kernel
theorem D41_14 : decode Y26 14 = .ok (.iload_n 1, 1) := by decide +kernel
theorem D41_15 : decode Y26 15 = .ok (.newarray .byte, 2) := by decide +kernel
theorem D41_17 : decode Y26 17 = .ok (.astore_n 2, 1) := by decide +kernel
theorem D41_18 : decode Y26 18 = .ok (.aload_n 0, 1) := by decide +kernel
theorem D41_19 : decode Y26 19 = .ok (.iconst 0, 1) := by decide +kernel
theorem D41_20 : decode Y26 20 = .ok (.aload_n 2, 1) := by decide +kernel
theorem D41_21 : decode Y26 21 = .ok (.iconst 0, 1) := by decide +kernel
theorem D41_22 : decode Y26 22 = .ok (.aload_n 0, 1) := by decide +kernel
theorem D41_23 : decode Y26 23 = .ok (.arraylength, 1) := by decide +kernel
theorem D41_24 : decode Y26 24 = .ok (.iload_n 1, 1) := by decide +kernel
theorem D41_25 : decode Y26 25 = .ok (.invokestatic 304, 3) := by decide +kernel
theorem D3_0 : decode Y43 0 = .ok (.iload_n 0, 1) := by decide +kernel
theorem D3_1 : decode Y43 1 = .ok (.iload_n 1, 1) := by decide +kernel
theorem D3_2 : decode Y43 2 = .ok (.if_icmp .gt 7, 3) := by decide +kernel
theorem D3_5 : decode Y43 5 = .ok (.iload_n 0, 1) := by decide +kernel
theorem D3_6 : decode Y43 6 = .ok (.goto 4, 3) := by decide +kernel
theorem D3_10 : decode Y43 10 = .ok (.ireturn, 1) := by decide +kernel
theorem D41_28 : decode Y26 28 = .ok (.invokestatic 150, 3) := by decide +kernel
theorem D41_31 : decode Y26 31 = .ok (.aload_n 2, 1) := by decide +kernel
theorem D41_32 : decode Y26 32 = .ok (.areturn, 1) := by decide +kernel
theorem D59_35 : decode Y18 35 = .ok (.putfield 15, 3) := by decide +kernel
theorem D72_32 : decode Y5 32 = .ok (.iload 5, 2) := by decide +kernel
theorem D72_34 : decode Y5 34 = .ok (.iload 4, 2) := by decide +kernel
theorem D72_36 : decode Y5 36 = .ok (.if_icmp .ge 76, 3) := by decide +kernel
theorem D72_39 : decode Y5 39 = .ok (.aload_n 3, 1) := by decide +kernel
theorem D72_40 : decode Y5 40 = .ok (.iload 5, 2) := by decide +kernel
theorem D72_42 : decode Y5 42 = .ok (.baload, 1) := by decide +kernel
theorem D72_43 : decode Y5 43 = .ok (.istore 6, 2) := by decide +kernel
theorem D72_45 : decode Y5 45 = .ok (.iload 6, 2) := by decide +kernel
theorem D72_47 : decode Y5 47 = .ok (.invokestatic 124, 3) := by decide +kernel
theorem D70_0 : decode Y9 0 = .ok (.iload_n 0, 1) := by decide +kernel
theorem D70_1 : decode Y9 1 = .ok (.bipush 97, 2) := by decide +kernel
theorem D70_3 : decode Y9 3 = .ok (.if_icmp .lt 9, 3) := by decide +kernel
theorem D70_12 : decode Y9 12 = .ok (.iload_n 0, 1) := by decide +kernel
theorem D70_13 : decode Y9 13 = .ok (.bipush 65, 2) := by decide +kernel
theorem D70_15 : decode Y9 15 = .ok (.if_icmp .lt 9, 3) := by decide +kernel
theorem D70_24 : decode Y9 24 = .ok (.iload_n 0, 1) := by decide +kernel
theorem D70_25 : decode Y9 25 = .ok (.bipush 48, 2) := by decide +kernel
theorem D70_27 : decode Y9 27 = .ok (.if_icmp .lt 9, 3) := by decide +kernel
theorem D70_36 : decode Y9 36 = .ok (.iload_n 0, 1) := by decide +kernel
theorem D70_37 : decode Y9 37 = .ok (.bipush 45, 2) := by decide +kernel
theorem D70_39 : decode Y9 39 = .ok (.if_icmp .eq 21, 3) := by decide +kernel
theorem D70_60 : decode Y9 60 = .ok (.iconst 1, 1) := by decide +kernel
theorem D70_61 : decode Y9 61 = .ok (.goto 4, 3) := by decide +kernel
theorem D70_65 : decode Y9 65 = .ok (.ireturn, 1) := by decide +kernel
theorem D70_42 : decode Y9 42 = .ok (.iload_n 0, 1) := by decide +kernel
theorem D70_43 : decode Y9 43 = .ok (.bipush 46, 2) := by decide +kernel
theorem D70_45 : decode Y9 45 = .ok (.if_icmp .eq 15, 3) := by decide +kernel
theorem D70_48 : decode Y9 48 = .ok (.iload_n 0, 1) := by decide +kernel
theorem D70_49 : decode Y9 49 = .ok (.bipush 95, 2) := by decide +kernel
theorem D70_51 : decode Y9 51 = .ok (.if_icmp .eq 9, 3) := by decide +kernel
theorem D70_54 : decode Y9 54 = .ok (.iload_n 0, 1) := by decide +kernel
theorem D70_55 : decode Y9 55 = .ok (.bipush 126, 2) := by decide +kernel
theorem D70_57 : decode Y9 57 = .ok (.if_icmp .ne 7, 3) := by decide +kernel
theorem D70_64 : decode Y9 64 = .ok (.iconst 0, 1) := by decide +kernel
theorem D70_30 : decode Y9 30 = .ok (.iload_n 0, 1) := by decide +kernel
theorem D70_31 : decode Y9 31 = .ok (.bipush 57, 2) := by decide +kernel
theorem D70_33 : decode Y9 33 = .ok (.if_icmp .le 27, 3) := by decide +kernel
theorem D70_18 : decode Y9 18 = .ok (.iload_n 0, 1) := by decide +kernel
theorem D70_19 : decode Y9 19 = .ok (.bipush 90, 2) := by decide +kernel
theorem D70_21 : decode Y9 21 = .ok (.if_icmp .le 39, 3) := by decide +kernel
theorem D70_6 : decode Y9 6 = .ok (.iload_n 0, 1) := by decide +kernel
theorem D70_7 : decode Y9 7 = .ok (.bipush 122, 2) := by decide +kernel
theorem D70_9 : decode Y9 9 = .ok (.if_icmp .le 51, 3) := by decide +kernel
theorem D72_50 : decode Y5 50 = .ok (.ifCond .ne 12, 3) := by decide +kernel
theorem D72_53 : decode Y5 53 = .ok (.aload_n 2, 1) := by decide +kernel
theorem D72_54 : decode Y5 54 = .ok (.iload 6, 2) := by decide +kernel
theorem D72_56 : decode Y5 56 = .ok (.invokevirtual 30, 3) := by decide +kernel
theorem D21_0 : decode Y65 0 = .ok (.aload_n 0, 1) := by decide +kernel
theorem D21_1 : decode Y65 1 = .ok (.iload_n 1, 1) := by decide +kernel
theorem D21_2 : decode Y65 2 = .ok (.iconst 0, 1) := by decide +kernel
theorem D21_3 : decode Y65 3 = .ok (.invokevirtual 633, 3) := by decide +kernel
theorem D22_0 : decode Y39 0 = .ok (.aload_n 0, 1) := by decide +kernel
theorem D22_1 : decode Y39 1 = .ok (.invokevirtual 492, 3) := by decide +kernel
theorem D11_0 : decode Y35 0 = .ok (.getstatic 38, 3) := by decide +kernel
theorem D11_3 : decode Y35 3 = .ok (.ifCond .eq 14, 3) := by decide +kernel
theorem D11_6 : decode Y35 6 = .ok (.aload_n 0, 1) := by decide +kernel
theorem D11_7 : decode Y35 7 = .ok (.getfield 15, 3) := by decide +kernel
theorem D11_10 : decode Y35 10 = .ok (.ifCond .ne 7, 3) := by decide +kernel
theorem D11_13 : decode Y35 13 = .ok (.iconst 1, 1) := by decide +kernel
theorem D11_14 : decode Y35 14 = .ok (.goto 4, 3) := by decide +kernel
theorem D11_18 : decode Y35 18 = .ok (.ireturn, 1) := by decide +kernel
theorem D22_4 : decode Y39 4 = .ok (.ifCond .eq 19, 3) := by decide +kernel
theorem D22_7 : decode Y39 7 = .ok (.aload_n 0, 1) := by decide +kernel
theorem D22_8 : decode Y39 8 = .ok (.getfield 9, 3) := by decide +kernel
theorem D22_11 : decode Y39 11 = .ok (.iload_n 1, 1) := by decide +kernel
theorem D22_12 : decode Y39 12 = .ok (.iload_n 2, 1) := by decide +kernel
theorem D22_13 : decode Y39 13 = .ok (.aload_n 0, 1) := by decide +kernel
theorem D22_14 : decode Y39 14 = .ok (.invokevirtual 505, 3) := by decide +kernel
theorem D18_0 : decode Y40 0 = .ok (.aload_n 0, 1) := by decide +kernel
theorem D18_1 : decode Y40 1 = .ok (.getfield 9, 3) := by decide +kernel
theorem D18_4 : decode Y40 4 = .ok (.arraylength, 1) := by decide +kernel
theorem D18_5 : decode Y40 5 = .ok (.aload_n 0, 1) := by decide +kernel
theorem D18_6 : decode Y40 6 = .ok (.invokevirtual 335, 3) := by decide +kernel
theorem D10_0 : decode Y44 0 = .ok (.getstatic 38, 3) := by decide +kernel
theorem D10_3 : decode Y44 3 = .ok (.ifCond .eq 10, 3) := by decide +kernel
theorem D10_6 : decode Y44 6 = .ok (.aload_n 0, 1) := by decide +kernel
theorem D10_7 : decode Y44 7 = .ok (.getfield 15, 3) := by decide +kernel
theorem D10_10 : decode Y44 10 = .ok (.goto 4, 3) := by decide +kernel
theorem D10_14 : decode Y44 14 = .ok (.ireturn, 1) := by decide +kernel
theorem D18_9 : decode Y40 9 = .ok (.ishr, 1) := by decide +kernel
theorem D18_10 : decode Y40 10 = .ok (.ireturn, 1) := by decide +kernel
theorem D22_17 : decode Y39 17 = .ok (.invokestatic 637, 3) := by decide +kernel
theorem D23_0 : decode Y27 0 = .ok (.iload_n 1, 1) := by decide +kernel
theorem D23_1 : decode Y27 1 = .ok (.invokestatic 88, 3) := by decide +kernel
theorem D27_0 : decode Y49 0 = .ok (.iload_n 0, 1) := by decide +kernel
theorem D27_1 : decode Y49 1 = .ok (.ifCond .lt 14, 3) := by decide +kernel
theorem D27_15 : decode Y49 15 = .ok (.iconst 0, 1) := by decide +kernel
theorem D27_16 : decode Y49 16 = .ok (.ireturn, 1) := by decide +kernel
theorem D27_4 : decode Y49 4 = .ok (.iload_n 0, 1) := by decide +kernel
theorem D27_5 : decode Y49 5 = .ok (.sipush 255, 3) := by decide +kernel
theorem D27_8 : decode Y49 8 = .ok (.if_icmp .gt 7, 3) := by decide +kernel
theorem D27_11 : decode Y49 11 = .ok (.iconst 1, 1) := by decide +kernel
theorem D27_12 : decode Y49 12 = .ok (.goto 4, 3) := by decide +kernel
theorem D23_4 : decode Y27 4 = .ok (.ifCond .ne 5, 3) := by decide +kernel
theorem D23_7 : decode Y27 7 = .ok (.iconst (-1), 1) := by decide +kernel
theorem D23_8 : decode Y27 8 = .ok (.ireturn, 1) := by decide +kernel
theorem D23_9 : decode Y27 9 = .ok (.iload_n 2, 1) := by decide +kernel
theorem D23_10 : decode Y27 10 = .ok (.iconst 0, 1) := by decide +kernel
theorem D23_11 : decode Y27 11 = .ok (.invokestatic 92, 3) := by decide +kernel
theorem D2_5 : decode Y58 5 = .ok (.iload_n 0, 1) := by decide +kernel
theorem D2_6 : decode Y58 6 = .ok (.goto 4, 3) := by decide +kernel
theorem D23_14 : decode Y27 14 = .ok (.istore_n 2, 1) := by decide +kernel
theorem D23_15 : decode Y27 15 = .ok (.iload_n 3, 1) := by decide +kernel
theorem D23_16 : decode Y27 16 = .ok (.aload_n 0, 1) := by decide +kernel
theorem D23_17 : decode Y27 17 = .ok (.arraylength, 1) := by decide +kernel
theorem D23_18 : decode Y27 18 = .ok (.invokestatic 38, 3) := by decide +kernel
theorem D23_21 : decode Y27 21 = .ok (.istore_n 3, 1) := by decide +kernel
theorem D23_22 : decode Y27 22 = .ok (.iload_n 2, 1) := by decide +kernel
theorem D23_23 : decode Y27 23 = .ok (.iload_n 3, 1) := by decide +kernel
theorem D23_24 : decode Y27 24 = .ok (.if_icmp .lt 5, 3) := by decide +kernel
theorem D23_27 : decode Y27 27 = .ok (.iconst (-1), 1) := by decide +kernel
theorem D23_28 : decode Y27 28 = .ok (.ireturn, 1) := by decide +kernel
theorem D22_20 : decode Y39 20 = .ok (.goto 16, 3) := by decide +kernel
theorem D22_36 : decode Y39 36 = .ok (.ireturn, 1) := by decide +kernel
theorem D21_6 : decode Y65 6 = .ok (.ireturn, 1) := by decide +kernel
theorem D72_59 : decode Y5 59 = .ok (.ifCond .lt 14, 3) := by decide +kernel
theorem D72_73 : decode Y5 73 = .ok (.aload_n 0, 1) := by decide +kernel
theorem D72_74 : decode Y5 74 = .ok (.bipush 37, 2) := by decide +kernel
theorem D72_76 : decode Y5 76 = .ok (.invokevirtual 94, 3) := by decide +kernel
theorem D72_79 : decode Y5 79 = .ok (.getstatic 127, 3) := by decide +kernel
theorem D72_82 : decode Y5 82 = .ok (.iload 6, 2) := by decide +kernel
theorem D72_84 : decode Y5 84 = .ok (.iconst 4, 1) := by decide +kernel
theorem D72_85 : decode Y5 85 = .ok (.ishr, 1) := by decide +kernel
theorem D72_86 : decode Y5 86 = .ok (.bipush 15, 2) := by decide +kernel
theorem D72_88 : decode Y5 88 = .ok (.iand, 1) := by decide +kernel
theorem D72_89 : decode Y5 89 = .ok (.caload, 1) := by decide +kernel
theorem D72_90 : decode Y5 90 = .ok (.invokevirtual 94, 3) := by decide +kernel
theorem D72_93 : decode Y5 93 = .ok (.getstatic 127, 3) := by decide +kernel
theorem D72_96 : decode Y5 96 = .ok (.iload 6, 2) := by decide +kernel
theorem D72_98 : decode Y5 98 = .ok (.bipush 15, 2) := by decide +kernel
theorem D72_100 : decode Y5 100 = .ok (.iand, 1) := by decide +kernel
theorem D72_101 : decode Y5 101 = .ok (.caload, 1) := by decide +kernel
theorem D72_102 : decode Y5 102 = .ok (.invokevirtual 94, 3) := by decide +kernel
theorem D72_105 : decode Y5 105 = .ok (.pop, 1) := by decide +kernel
theorem D72_106 : decode Y5 106 = .ok (.iinc 5 1, 3) := by decide +kernel
theorem D72_109 : decode Y5 109 = .ok (.goto (-77), 3) := by decide +kernel
theorem D72_62 : decode Y5 62 = .ok (.aload_n 0, 1) := by decide +kernel
theorem D72_63 : decode Y5 63 = .ok (.iload 6, 2) := by decide +kernel
theorem D72_65 : decode Y5 65 = .ok (.i2c, 1) := by decide +kernel
theorem D72_66 : decode Y5 66 = .ok (.invokevirtual 94, 3) := by decide +kernel
theorem D72_69 : decode Y5 69 = .ok (.pop, 1) := by decide +kernel
theorem D72_70 : decode Y5 70 = .ok (.goto 36, 3) := by decide +kernel
theorem D62_0 : decode Y3 0 = .ok (.iload_n 0, 1) := by decide +kernel
theorem D62_1 : decode Y3 1 = .ok (.ldc 33, 2) := by decide +kernel
theorem D62_3 : decode Y3 3 = .ok (.iand, 1) := by decide +kernel
theorem D62_4 : decode Y3 4 = .ok (.istore_n 2, 1) := by decide +kernel
theorem D62_5 : decode Y3 5 = .ok (.iload_n 1, 1) := by decide +kernel
theorem D62_6 : decode Y3 6 = .ok (.ifCond .eq 8, 3) := by decide +kernel
theorem D62_14 : decode Y3 14 = .ok (.iload_n 2, 1) := by decide +kernel
theorem D62_15 : decode Y3 15 = .ok (.ldc 34, 2) := by decide +kernel
theorem D62_17 : decode Y3 17 = .ok (.if_icmp .lt 15, 3) := by decide +kernel
theorem D62_32 : decode Y3 32 = .ok (.iload_n 2, 1) := by decide +kernel
theorem D62_33 : decode Y3 33 = .ok (.i2c, 1) := by decide +kernel
theorem D62_34 : decode Y3 34 = .ok (.ireturn, 1) := by decide +kernel
theorem D62_20 : decode Y3 20 = .ok (.iload_n 2, 1) := by decide +kernel
theorem D62_21 : decode Y3 21 = .ok (.ldc 35, 2) := by decide +kernel
theorem D62_23 : decode Y3 23 = .ok (.if_icmp .gt 9, 3) := by decide +kernel
theorem D62_26 : decode Y3 26 = .ok (.iload_n 2, 1) := by decide +kernel
theorem D62_27 : decode Y3 27 = .ok (.sipush 8192, 3) := by decide +kernel
theorem D62_30 : decode Y3 30 = .ok (.ixor, 1) := by decide +kernel
theorem D62_31 : decode Y3 31 = .ok (.istore_n 2, 1) := by decide +kernel
theorem D62_9 : decode Y3 9 = .ok (.iload_n 2, 1) := by decide +kernel
theorem D62_10 : decode Y3 10 = .ok (.bipush 127, 2) := by decide +kernel
theorem D62_12 : decode Y3 12 = .ok (.iand, 1) := by decide +kernel
theorem D62_13 : decode Y3 13 = .ok (.istore_n 2, 1) := by decide +kernel
theorem D63_0 : decode Y6 0 = .ok (.iload_n 0, 1) := by decide +kernel
theorem D63_1 : decode Y6 1 = .ok (.ifCond .ne 14, 3) := by decide +kernel
theorem D63_4 : decode Y6 4 = .ok (.new 17, 3) := by decide +kernel
theorem D63_7 : decode Y6 7 = .ok (.dup, 1) := by decide +kernel
theorem D63_8 : decode Y6 8 = .ok (.iconst 0, 1) := by decide +kernel
theorem D63_9 : decode Y6 9 = .ok (.newarray .char, 2) := by decide +kernel
theorem D63_11 : decode Y6 11 = .ok (.invokespecial 36, 3) := by decide +kernel
theorem D14_0 : decode Y51 0 = .ok (.aload_n 0, 1) := by decide +kernel
theorem D14_1 : decode Y51 1 = .ok (.aload_n 1, 1) := by decide +kernel
theorem D14_2 : decode Y51 2 = .ok (.iconst 0, 1) := by decide +kernel
theorem D14_3 : decode Y51 3 = .ok (.aload_n 1, 1) := by decide +kernel
theorem D14_4 : decode Y51 4 = .ok (.arraylength, 1) := by decide +kernel
theorem D14_5 : decode Y51 5 = .ok (.aconst_null, 1) := by decide +kernel
theorem D14_6 : decode Y51 6 = .ok (.invokespecial 27, 3) := by decide +kernel
theorem D7_0 : decode Y12 0 = .ok (.aload_n 0, 1) := by decide +kernel
theorem D7_1 : decode Y12 1 = .ok (.invokespecial 1, 3) := by decide +kernel
theorem D7_4 : decode Y12 4 = .ok (.iload_n 3, 1) := by decide +kernel
theorem D7_5 : decode Y12 5 = .ok (.ifCond .ne 22, 3) := by decide +kernel
theorem D7_8 : decode Y12 8 = .ok (.aload_n 0, 1) := by decide +kernel
theorem D7_9 : decode Y12 9 = .ok (.ldc 7, 2) := by decide +kernel
theorem D7_11 : decode Y12 11 = .ok (.getfield 9, 3) := by decide +kernel
theorem D7_14 : decode Y12 14 = .ok (.putfield 9, 3) := by decide +kernel
theorem D7_17 : decode Y12 17 = .ok (.aload_n 0, 1) := by decide +kernel
theorem D7_18 : decode Y12 18 = .ok (.ldc 7, 2) := by decide +kernel
theorem D7_20 : decode Y12 20 = .ok (.getfield 15, 3) := by decide +kernel
theorem D7_23 : decode Y12 23 = .ok (.putfield 15, 3) := by decide +kernel
theorem D7_26 : decode Y12 26 = .ok (.return_, 1) := by decide +kernel
theorem D14_9 : decode Y51 9 = .ok (.return_, 1) := by decide +kernel
theorem D63_14 : decode Y6 14 = .ok (.areturn, 1) := by decide +kernel
theorem D63_15 : decode Y6 15 = .ok (.iload_n 0, 1) := by decide +kernel
theorem D63_16 : decode Y6 16 = .ok (.iconst 1, 1) := by decide +kernel
theorem D63_17 : decode Y6 17 = .ok (.if_icmp .ne 8, 3) := by decide +kernel
theorem D63_20 : decode Y6 20 = .ok (.iload_n 1, 1) := by decide +kernel
theorem D63_21 : decode Y6 21 = .ok (.invokestatic 39, 3) := by decide +kernel
theorem D5_0 : decode Y29 0 = .ok (.getstatic 38, 3) := by decide +kernel
theorem D5_3 : decode Y29 3 = .ok (.ifCond .eq 23, 3) := by decide +kernel
theorem D5_6 : decode Y29 6 = .ok (.iload_n 0, 1) := by decide +kernel
theorem D5_7 : decode Y29 7 = .ok (.invokestatic 1015, 3) := by decide +kernel
theorem D25_11 : decode Y56 11 = .ok (.iconst 0, 1) := by decide +kernel
theorem D5_10 : decode Y29 10 = .ok (.ifCond .eq 16, 3) := by decide +kernel
theorem D5_26 : decode Y29 26 = .ok (.new 10, 3) := by decide +kernel
theorem D5_29 : decode Y29 29 = .ok (.dup, 1) := by decide +kernel
theorem D5_30 : decode Y29 30 = .ok (.iload_n 0, 1) := by decide +kernel
theorem D5_31 : decode Y29 31 = .ok (.invokestatic 1021, 3) := by decide +kernel
theorem D33_0 : decode Y52 0 = .ok (.iconst 2, 1) := by decide +kernel
theorem D33_1 : decode Y52 1 = .ok (.newarray .byte, 2) := by decide +kernel
theorem D33_3 : decode Y52 3 = .ok (.astore_n 1, 1) := by decide +kernel
theorem D33_4 : decode Y52 4 = .ok (.aload_n 1, 1) := by decide +kernel
theorem D33_5 : decode Y52 5 = .ok (.iconst 0, 1) := by decide +kernel
theorem D33_6 : decode Y52 6 = .ok (.iload_n 0, 1) := by decide +kernel
theorem D33_7 : decode Y52 7 = .ok (.invokestatic 111, 3) := by decide +kernel
theorem D36_0 : decode Y20 0 = .ok (.getstatic 44, 3) := by decide +kernel
theorem D36_3 : decode Y20 3 = .ok (.ifCond .ne 25, 3) := by decide +kernel
theorem D36_28 : decode Y20 28 = .ok (.iload_n 1, 1) := by decide +kernel
theorem D36_29 : decode Y20 29 = .ok (.iconst 1, 1) := by decide +kernel
theorem D36_30 : decode Y20 30 = .ok (.ishl, 1) := by decide +kernel
theorem D36_31 : decode Y20 31 = .ok (.istore_n 1, 1) := by decide +kernel
theorem D36_32 : decode Y20 32 = .ok (.aload_n 0, 1) := by decide +kernel
theorem D36_33 : decode Y20 33 = .ok (.iload_n 1, 1) := by decide +kernel
theorem D36_34 : decode Y20 34 = .ok (.iinc 1 1, 3) := by decide +kernel
theorem D36_37 : decode Y20 37 = .ok (.iload_n 2, 1) := by decide +kernel
theorem D36_38 : decode Y20 38 = .ok (.getstatic 59, 3) := by decide +kernel
theorem D36_41 : decode Y20 41 = .ok (.ishr, 1) := by decide +kernel
theorem D36_42 : decode Y20 42 = .ok (.i2b, 1) := by decide +kernel
theorem D36_43 : decode Y20 43 = .ok (.bastore, 1) := by decide +kernel
theorem D36_44 : decode Y20 44 = .ok (.aload_n 0, 1) := by decide +kernel
theorem D36_45 : decode Y20 45 = .ok (.iload_n 1, 1) := by decide +kernel
theorem D36_46 : decode Y20 46 = .ok (.iload_n 2, 1) := by decide +kernel
theorem D36_47 : decode Y20 47 = .ok (.getstatic 63, 3) := by decide +kernel
theorem D36_50 : decode Y20 50 = .ok (.ishr, 1) := by decide +kernel
theorem D36_51 : decode Y20 51 = .ok (.i2b, 1) := by decide +kernel
theorem D36_52 : decode Y20 52 = .ok (.bastore, 1) := by decide +kernel
theorem D36_53 : decode Y20 53 = .ok (.return_, 1) := by decide +kernel
theorem D33_10 : decode Y52 10 = .ok (.aload_n 1, 1) := by decide +kernel
theorem D33_11 : decode Y52 11 = .ok (.areturn, 1) := by decide +kernel
theorem D5_34 : decode Y29 34 = .ok (.iconst 1, 1) := by decide +kernel
theorem D5_35 : decode Y29 35 = .ok (.invokespecial 209, 3) := by decide +kernel
theorem D9_0 : decode Y45 0 = .ok (.aload_n 0, 1) := by decide +kernel
theorem D9_1 : decode Y45 1 = .ok (.invokespecial 1, 3) := by decide +kernel
theorem D9_4 : decode Y45 4 = .ok (.aload_n 0, 1) := by decide +kernel
theorem D9_5 : decode Y45 5 = .ok (.aload_n 1, 1) := by decide +kernel
theorem D9_6 : decode Y45 6 = .ok (.putfield 9, 3) := by decide +kernel
theorem D9_9 : decode Y45 9 = .ok (.aload_n 0, 1) := by decide +kernel
theorem D9_10 : decode Y45 10 = .ok (.iload_n 2, 1) := by decide +kernel
theorem D9_11 : decode Y45 11 = .ok (.putfield 15, 3) := by decide +kernel
theorem D9_14 : decode Y45 14 = .ok (.return_, 1) := by decide +kernel
theorem D5_38 : decode Y29 38 = .ok (.areturn, 1) := by decide +kernel
theorem D5_13 : decode Y29 13 = .ok (.new 10, 3) := by decide +kernel
theorem D5_16 : decode Y29 16 = .ok (.dup, 1) := by decide +kernel
theorem D5_17 : decode Y29 17 = .ok (.iload_n 0, 1) := by decide +kernel
theorem D5_18 : decode Y29 18 = .ok (.invokestatic 1018, 3) := by decide +kernel
theorem D26_0 : decode Y55 0 = .ok (.iconst 1, 1) := by decide +kernel
theorem D26_1 : decode Y55 1 = .ok (.newarray .byte, 2) := by decide +kernel
theorem D26_3 : decode Y55 3 = .ok (.dup, 1) := by decide +kernel
theorem D26_4 : decode Y55 4 = .ok (.iconst 0, 1) := by decide +kernel
theorem D26_5 : decode Y55 5 = .ok (.iload_n 0, 1) := by decide +kernel
theorem D26_6 : decode Y55 6 = .ok (.i2b, 1) := by decide +kernel
theorem D26_7 : decode Y55 7 = .ok (.bastore, 1) := by decide +kernel
theorem D26_8 : decode Y55 8 = .ok (.areturn, 1) := by decide +kernel
theorem D5_21 : decode Y29 21 = .ok (.iconst 0, 1) := by decide +kernel
theorem D5_22 : decode Y29 22 = .ok (.invokespecial 209, 3) := by decide +kernel
theorem D5_25 : decode Y29 25 = .ok (.areturn, 1) := by decide +kernel
theorem D63_24 : decode Y6 24 = .ok (.areturn, 1) := by decide +kernel
theorem D63_25 : decode Y6 25 = .ok (.new 17, 3) := by decide +kernel
theorem D63_28 : decode Y6 28 = .ok (.dup, 1) := by decide +kernel
theorem D63_29 : decode Y6 29 = .ok (.iconst 2, 1) := by decide +kernel
theorem D63_30 : decode Y6 30 = .ok (.newarray .char, 2) := by decide +kernel
theorem D63_32 : decode Y6 32 = .ok (.dup, 1) := by decide +kernel
theorem D63_33 : decode Y6 33 = .ok (.iconst 0, 1) := by decide +kernel
theorem D63_34 : decode Y6 34 = .ok (.iload_n 1, 1) := by decide +kernel
theorem D63_35 : decode Y6 35 = .ok (.castore, 1) := by decide +kernel
theorem D63_36 : decode Y6 36 = .ok (.dup, 1) := by decide +kernel
theorem D63_37 : decode Y6 37 = .ok (.iconst 1, 1) := by decide +kernel
theorem D63_38 : decode Y6 38 = .ok (.iload_n 2, 1) := by decide +kernel
theorem D63_39 : decode Y6 39 = .ok (.castore, 1) := by decide +kernel
theorem D63_40 : decode Y6 40 = .ok (.invokespecial 36, 3) := by decide +kernel
theorem D7_27 : decode Y12 27 = .ok (.getstatic 38, 3) := by decide +kernel
theorem D7_30 : decode Y12 30 = .ok (.ifCond .eq 28, 3) := by decide +kernel
theorem D7_33 : decode Y12 33 = .ok (.aload_n 1, 1) := by decide +kernel
theorem D7_34 : decode Y12 34 = .ok (.iload_n 2, 1) := by decide +kernel
theorem D7_35 : decode Y12 35 = .ok (.iload_n 3, 1) := by decide +kernel
theorem D7_36 : decode Y12 36 = .ok (.invokestatic 177, 3) := by decide +kernel
theorem D31_0 : decode Y15 0 = .ok (.iload_n 2, 1) := by decide +kernel
theorem D31_1 : decode Y15 1 = .ok (.newarray .byte, 2) := by decide +kernel
theorem D31_3 : decode Y15 3 = .ok (.astore_n 3, 1) := by decide +kernel
theorem D31_4 : decode Y15 4 = .ok (.aload_n 0, 1) := by decide +kernel
theorem D31_5 : decode Y15 5 = .ok (.iload_n 1, 1) := by decide +kernel
theorem D31_6 : decode Y15 6 = .ok (.aload_n 3, 1) := by decide +kernel
theorem D31_7 : decode Y15 7 = .ok (.iconst 0, 1) := by decide +kernel
theorem D31_8 : decode Y15 8 = .ok (.iload_n 2, 1) := by decide +kernel
theorem D31_9 : decode Y15 9 = .ok (.invokestatic 115, 3) := by decide +kernel
theorem D32_0 : decode Y19 0 = .ok (.iconst 0, 1) := by decide +kernel
theorem D32_1 : decode Y19 1 = .ok (.istore 5, 2) := by decide +kernel
theorem D32_3 : decode Y19 3 = .ok (.iload 5, 2) := by decide +kernel
theorem D32_5 : decode Y19 5 = .ok (.iload 4, 2) := by decide +kernel
theorem D32_7 : decode Y19 7 = .ok (.if_icmp .ge 37, 3) := by decide +kernel
theorem D32_10 : decode Y19 10 = .ok (.aload_n 0, 1) := by decide +kernel
theorem D32_11 : decode Y19 11 = .ok (.iload_n 1, 1) := by decide +kernel
theorem D32_12 : decode Y19 12 = .ok (.caload, 1) := by decide +kernel
theorem D32_13 : decode Y19 13 = .ok (.istore 6, 2) := by decide +kernel
theorem D32_15 : decode Y19 15 = .ok (.iload 6, 2) := by decide +kernel
theorem D32_17 : decode Y19 17 = .ok (.sipush 255, 3) := by decide +kernel
theorem D32_20 : decode Y19 20 = .ok (.if_icmp .le 6, 3) := by decide +kernel
theorem D32_23 : decode Y19 23 = .ok (.iload 5, 2) := by decide +kernel
theorem D32_25 : decode Y19 25 = .ok (.ireturn, 1) := by decide +kernel
theorem D32_26 : decode Y19 26 = .ok (.aload_n 2, 1) := by decide +kernel
theorem D32_27 : decode Y19 27 = .ok (.iload_n 3, 1) := by decide +kernel
theorem D32_28 : decode Y19 28 = .ok (.iload 6, 2) := by decide +kernel
theorem D32_30 : decode Y19 30 = .ok (.i2b, 1) := by decide +kernel
theorem D32_31 : decode Y19 31 = .ok (.bastore, 1) := by decide +kernel
theorem D32_32 : decode Y19 32 = .ok (.iinc 1 1, 3) := by decide +kernel
theorem D32_35 : decode Y19 35 = .ok (.iinc 3 1, 3) := by decide +kernel
theorem D32_38 : decode Y19 38 = .ok (.iinc 5 1, 3) := by decide +kernel
theorem D32_41 : decode Y19 41 = .ok (.goto (-38), 3) := by decide +kernel
theorem D32_44 : decode Y19 44 = .ok (.iload 4, 2) := by decide +kernel
theorem D32_46 : decode Y19 46 = .ok (.ireturn, 1) := by decide +kernel
theorem D31_12 : decode Y15 12 = .ok (.istore 4, 2) := by decide +kernel
theorem D31_14 : decode Y15 14 = .ok (.iload 4, 2) := by decide +kernel
theorem D31_16 : decode Y15 16 = .ok (.iload_n 2, 1) := by decide +kernel
theorem D31_17 : decode Y15 17 = .ok (.if_icmp .eq 40, 3) := by decide +kernel
theorem D31_20 : decode Y15 20 = .ok (.aload_n 0, 1) := by decide +kernel
theorem D31_21 : decode Y15 21 = .ok (.iload_n 1, 1) := by decide +kernel
theorem D31_22 : decode Y15 22 = .ok (.iload_n 2, 1) := by decide +kernel
theorem D31_23 : decode Y15 23 = .ok (.invokestatic 119, 3) := by decide +kernel
theorem D29_0 : decode Y30 0 = .ok (.iload_n 2, 1) := by decide +kernel
theorem D29_1 : decode Y30 1 = .ok (.invokestatic 107, 3) := by decide +kernel
theorem D34_0 : decode Y67 0 = .ok (.iload_n 0, 1) := by decide +kernel
theorem D34_1 : decode Y67 1 = .ok (.invokestatic 11, 3) := by decide +kernel
theorem D35_0 : decode Y47 0 = .ok (.iload_n 0, 1) := by decide +kernel
theorem D35_1 : decode Y47 1 = .ok (.ifCond .ge 11, 3) := by decide +kernel
theorem D35_12 : decode Y47 12 = .ok (.iload_n 0, 1) := by decide +kernel
theorem D35_13 : decode Y47 13 = .ok (.ldc 20, 2) := by decide +kernel
theorem D35_15 : decode Y47 15 = .ok (.if_icmp .lt 40, 3) := by decide +kernel
theorem D35_55 : decode Y47 55 = .ok (.iload_n 0, 1) := by decide +kernel
theorem D35_56 : decode Y47 56 = .ok (.iconst 1, 1) := by decide +kernel
theorem D35_57 : decode Y47 57 = .ok (.ishl, 1) := by decide +kernel
theorem D35_58 : decode Y47 58 = .ok (.ireturn, 1) := by decide +kernel
theorem D34_4 : decode Y67 4 = .ok (.newarray .byte, 2) := by decide +kernel
theorem D34_6 : decode Y67 6 = .ok (.areturn, 1) := by decide +kernel
theorem D29_4 : decode Y30 4 = .ok (.astore_n 3, 1) := by decide +kernel
theorem D29_5 : decode Y30 5 = .ok (.iconst 0, 1) := by decide +kernel
theorem D29_6 : decode Y30 6 = .ok (.istore 4, 2) := by decide +kernel
theorem D29_8 : decode Y30 8 = .ok (.iload 4, 2) := by decide +kernel
theorem D29_10 : decode Y30 10 = .ok (.iload_n 2, 1) := by decide +kernel
theorem D29_11 : decode Y30 11 = .ok (.if_icmp .ge 21, 3) := by decide +kernel
theorem D29_14 : decode Y30 14 = .ok (.aload_n 3, 1) := by decide +kernel
theorem D29_15 : decode Y30 15 = .ok (.iload 4, 2) := by decide +kernel
theorem D29_17 : decode Y30 17 = .ok (.aload_n 0, 1) := by decide +kernel
theorem D29_18 : decode Y30 18 = .ok (.iload_n 1, 1) := by decide +kernel
theorem D29_19 : decode Y30 19 = .ok (.caload, 1) := by decide +kernel
theorem D29_20 : decode Y30 20 = .ok (.invokestatic 111, 3) := by decide +kernel
theorem D29_23 : decode Y30 23 = .ok (.iinc 1 1, 3) := by decide +kernel
theorem D29_26 : decode Y30 26 = .ok (.iinc 4 1, 3) := by decide +kernel
theorem D29_29 : decode Y30 29 = .ok (.goto (-21), 3) := by decide +kernel
theorem D29_32 : decode Y30 32 = .ok (.aload_n 3, 1) := by decide +kernel
theorem D29_33 : decode Y30 33 = .ok (.areturn, 1) := by decide +kernel
theorem D31_26 : decode Y15 26 = .ok (.astore 5, 2) := by decide +kernel
theorem D31_28 : decode Y15 28 = .ok (.aload 5, 2) := by decide +kernel
theorem D31_30 : decode Y15 30 = .ok (.iload 4, 2) := by decide +kernel
theorem D31_32 : decode Y15 32 = .ok (.invokestatic 71, 3) := by decide +kernel
theorem D37_0 : decode Y16 0 = .ok (.getstatic 44, 3) := by decide +kernel
theorem D37_3 : decode Y16 3 = .ok (.ifCond .ne 25, 3) := by decide +kernel
theorem D37_28 : decode Y16 28 = .ok (.iload_n 1, 1) := by decide +kernel
theorem D37_29 : decode Y16 29 = .ok (.iconst 1, 1) := by decide +kernel
theorem D37_30 : decode Y16 30 = .ok (.ishl, 1) := by decide +kernel
theorem D37_31 : decode Y16 31 = .ok (.istore_n 1, 1) := by decide +kernel
theorem D37_32 : decode Y16 32 = .ok (.aload_n 0, 1) := by decide +kernel
theorem D37_33 : decode Y16 33 = .ok (.iload_n 1, 1) := by decide +kernel
theorem D37_34 : decode Y16 34 = .ok (.iinc 1 1, 3) := by decide +kernel
theorem D37_37 : decode Y16 37 = .ok (.baload, 1) := by decide +kernel
theorem D37_38 : decode Y16 38 = .ok (.sipush 255, 3) := by decide +kernel
theorem D37_41 : decode Y16 41 = .ok (.iand, 1) := by decide +kernel
theorem D37_42 : decode Y16 42 = .ok (.getstatic 59, 3) := by decide +kernel
theorem D37_45 : decode Y16 45 = .ok (.ishl, 1) := by decide +kernel
theorem D37_46 : decode Y16 46 = .ok (.aload_n 0, 1) := by decide +kernel
theorem D37_47 : decode Y16 47 = .ok (.iload_n 1, 1) := by decide +kernel
theorem D37_48 : decode Y16 48 = .ok (.baload, 1) := by decide +kernel
theorem D37_49 : decode Y16 49 = .ok (.sipush 255, 3) := by decide +kernel
theorem D37_52 : decode Y16 52 = .ok (.iand, 1) := by decide +kernel
theorem D37_53 : decode Y16 53 = .ok (.getstatic 63, 3) := by decide +kernel
theorem D37_56 : decode Y16 56 = .ok (.ishl, 1) := by decide +kernel
theorem D37_57 : decode Y16 57 = .ok (.ior, 1) := by decide +kernel
theorem D37_58 : decode Y16 58 = .ok (.i2c, 1) := by decide +kernel
theorem D37_59 : decode Y16 59 = .ok (.ireturn, 1) := by decide +kernel
theorem D31_35 : decode Y15 35 = .ok (.sipush 255, 3) := by decide +kernel
theorem D31_38 : decode Y15 38 = .ok (.if_icmp .gt 16, 3) := by decide +kernel
theorem D31_54 : decode Y15 54 = .ok (.aload 5, 2) := by decide +kernel
theorem D31_56 : decode Y15 56 = .ok (.areturn, 1) := by decide +kernel
theorem D31_57 : decode Y15 57 = .ok (.aload_n 3, 1) := by decide +kernel
theorem D31_58 : decode Y15 58 = .ok (.areturn, 1) := by decide +kernel
theorem D7_39 : decode Y12 39 = .ok (.astore 5, 2) := by decide +kernel
theorem D7_41 : decode Y12 41 = .ok (.aload_n 0, 1) := by decide +kernel
theorem D7_42 : decode Y12 42 = .ok (.aload 5, 2) := by decide +kernel
theorem D7_44 : decode Y12 44 = .ok (.iload_n 3, 1) := by decide +kernel
theorem D7_45 : decode Y12 45 = .ok (.invokestatic 47, 3) := by decide +kernel
theorem D30_0 : decode Y48 0 = .ok (.iload_n 1, 1) := by decide +kernel
theorem D30_1 : decode Y48 1 = .ok (.aload_n 0, 1) := by decide +kernel
theorem D30_2 : decode Y48 2 = .ok (.arraylength, 1) := by decide +kernel
theorem D30_3 : decode Y48 3 = .ok (.isub, 1) := by decide +kernel
theorem D30_4 : decode Y48 4 = .ok (.bipush 31, 2) := by decide +kernel
theorem D30_6 : decode Y48 6 = .ok (.iushr, 1) := by decide +kernel
theorem D30_7 : decode Y48 7 = .ok (.i2b, 1) := by decide +kernel
theorem D30_8 : decode Y48 8 = .ok (.ireturn, 1) := by decide +kernel
theorem D7_48 : decode Y12 48 = .ok (.putfield 15, 3) := by decide +kernel
theorem D7_51 : decode Y12 51 = .ok (.aload_n 0, 1) := by decide +kernel
theorem D7_52 : decode Y12 52 = .ok (.aload 5, 2) := by decide +kernel
theorem D7_54 : decode Y12 54 = .ok (.putfield 9, 3) := by decide +kernel
theorem D7_57 : decode Y12 57 = .ok (.return_, 1) := by decide +kernel
theorem D63_43 : decode Y6 43 = .ok (.areturn, 1) := by decide +kernel
theorem D71_0 : decode Y10 0 = .ok (.new 91, 3) := by decide +kernel
theorem D71_3 : decode Y10 3 = .ok (.dup, 1) := by decide +kernel
theorem D71_4 : decode Y10 4 = .ok (.invokespecial 93, 3) := by decide +kernel
theorem D46_0 : decode Y68 0 = .ok (.aload_n 0, 1) := by decide +kernel
theorem D46_1 : decode Y68 1 = .ok (.bipush 16, 2) := by decide +kernel
theorem D46_3 : decode Y68 3 = .ok (.invokespecial 1, 3) := by decide +kernel
theorem D52_0 : decode Y36 0 = .ok (.aload_n 0, 1) := by decide +kernel
theorem D52_1 : decode Y36 1 = .ok (.invokespecial 3, 3) := by decide +kernel
theorem D52_4 : decode Y36 4 = .ok (.getstatic 18, 3) := by decide +kernel
theorem D52_7 : decode Y36 7 = .ok (.ifCond .eq 18, 3) := by decide +kernel
theorem D52_10 : decode Y36 10 = .ok (.aload_n 0, 1) := by decide +kernel
theorem D52_11 : decode Y36 11 = .ok (.iload_n 1, 1) := by decide +kernel
theorem D52_12 : decode Y36 12 = .ok (.newarray .byte, 2) := by decide +kernel
theorem D52_14 : decode Y36 14 = .ok (.putfield 15, 3) := by decide +kernel
theorem D52_17 : decode Y36 17 = .ok (.aload_n 0, 1) := by decide +kernel
theorem D52_18 : decode Y36 18 = .ok (.iconst 0, 1) := by decide +kernel
theorem D52_19 : decode Y36 19 = .ok (.putfield 22, 3) := by decide +kernel
theorem D52_22 : decode Y36 22 = .ok (.goto 16, 3) := by decide +kernel
theorem D52_38 : decode Y36 38 = .ok (.return_, 1) := by decide +kernel
theorem D46_6 : decode Y68 6 = .ok (.return_, 1) := by decide +kernel
theorem D71_7 : decode Y10 7 = .ok (.astore_n 1, 1) := by decide +kernel
theorem D71_8 : decode Y10 8 = .ok (.aload_n 0, 1) := by decide +kernel
theorem D71_9 : decode Y10 9 = .ok (.astore_n 2, 1) := by decide +kernel
theorem D71_10 : decode Y10 10 = .ok (.aload_n 2, 1) := by decide +kernel
theorem D71_11 : decode Y10 11 = .ok (.arraylength, 1) := by decide +kernel
theorem D71_12 : decode Y10 12 = .ok (.istore_n 3, 1) := by decide +kernel
theorem D71_13 : decode Y10 13 = .ok (.iconst 0, 1) := by decide +kernel
theorem D71_14 : decode Y10 14 = .ok (.istore 4, 2) := by decide +kernel
theorem D71_16 : decode Y10 16 = .ok (.iload 4, 2) := by decide +kernel
theorem D71_18 : decode Y10 18 = .ok (.iload_n 3, 1) := by decide +kernel
theorem D71_19 : decode Y10 19 = .ok (.if_icmp .ge 30, 3) := by decide +kernel
theorem D71_49 : decode Y10 49 = .ok (.aload_n 1, 1) := by decide +kernel
theorem D71_50 : decode Y10 50 = .ok (.invokevirtual 102, 3) := by decide +kernel
theorem D47_0 : decode Y66 0 = .ok (.new 18, 3) := by decide +kernel
theorem D47_3 : decode Y66 3 = .ok (.dup, 1) := by decide +kernel
theorem D47_4 : decode Y66 4 = .ok (.aload_n 0, 1) := by decide +kernel
theorem D47_5 : decode Y66 5 = .ok (.invokespecial 137, 3) := by decide +kernel
theorem D17_0 : decode Y64 0 = .ok (.aload_n 0, 1) := by decide +kernel
theorem D17_1 : decode Y64 1 = .ok (.aload_n 1, 1) := by decide +kernel
theorem D17_2 : decode Y64 2 = .ok (.aconst_null, 1) := by decide +kernel
theorem D17_3 : decode Y64 3 = .ok (.invokespecial 489, 3) := by decide +kernel
theorem D8_0 : decode Y24 0 = .ok (.aload_n 0, 1) := by decide +kernel
theorem D8_1 : decode Y24 1 = .ok (.invokespecial 1, 3) := by decide +kernel
theorem D8_4 : decode Y24 4 = .ok (.aload_n 1, 1) := by decide +kernel
theorem D8_5 : decode Y24 5 = .ok (.invokevirtual 552, 3) := by decide +kernel
theorem D54_0 : decode Y71 0 = .ok (.aload_n 0, 1) := by decide +kernel
theorem D54_1 : decode Y71 1 = .ok (.getfield 15, 3) := by decide +kernel
theorem D54_4 : decode Y71 4 = .ok (.areturn, 1) := by decide +kernel
theorem D8_8 : decode Y24 8 = .ok (.astore_n 3, 1) := by decide +kernel
theorem D8_9 : decode Y24 9 = .ok (.aload_n 1, 1) := by decide +kernel
theorem D8_10 : decode Y24 10 = .ok (.invokevirtual 549, 3) := by decide +kernel
theorem D49_0 : decode Y72 0 = .ok (.aload_n 0, 1) := by decide +kernel
theorem D49_1 : decode Y72 1 = .ok (.invokespecial 343, 3) := by decide +kernel
theorem D56_0 : decode Y70 0 = .ok (.aload_n 0, 1) := by decide +kernel
theorem D56_1 : decode Y70 1 = .ok (.getfield 79, 3) := by decide +kernel
theorem D56_4 : decode Y70 4 = .ok (.ireturn, 1) := by decide +kernel
theorem D49_4 : decode Y72 4 = .ok (.ireturn, 1) := by decide +kernel
theorem D8_13 : decode Y24 13 = .ok (.istore 4, 2) := by decide +kernel
theorem D8_15 : decode Y24 15 = .ok (.aload_n 1, 1) := by decide +kernel
theorem D8_16 : decode Y24 16 = .ok (.invokevirtual 1047, 3) := by decide +kernel
theorem D8_19 : decode Y24 19 = .ok (.ifCond .eq 22, 3) := by decide +kernel
theorem D8_22 : decode Y24 22 = .ok (.aload_n 0, 1) := by decide +kernel
theorem D8_23 : decode Y24 23 = .ok (.iconst 0, 1) := by decide +kernel
theorem D8_24 : decode Y24 24 = .ok (.putfield 15, 3) := by decide +kernel
theorem D8_27 : decode Y24 27 = .ok (.aload_n 0, 1) := by decide +kernel
theorem D8_28 : decode Y24 28 = .ok (.aload_n 3, 1) := by decide +kernel
theorem D8_29 : decode Y24 29 = .ok (.iconst 0, 1) := by decide +kernel
theorem D8_30 : decode Y24 30 = .ok (.iload 4, 2) := by decide +kernel
theorem D8_32 : decode Y24 32 = .ok (.invokestatic 54, 3) := by decide +kernel
theorem D43_0 : decode Y32 0 = .ok (.iload_n 1, 1) := by decide +kernel
theorem D43_1 : decode Y32 1 = .ok (.ifCond .ne 9, 3) := by decide +kernel
theorem D43_4 : decode Y32 4 = .ok (.iload_n 2, 1) := by decide +kernel
theorem D43_5 : decode Y32 5 = .ok (.aload_n 0, 1) := by decide +kernel
theorem D43_6 : decode Y32 6 = .ok (.arraylength, 1) := by decide +kernel
theorem D43_7 : decode Y32 7 = .ok (.if_icmp .eq 10, 3) := by decide +kernel
theorem D43_17 : decode Y32 17 = .ok (.aload_n 0, 1) := by decide +kernel
theorem D43_18 : decode Y32 18 = .ok (.invokevirtual 310, 3) := by decide +kernel
theorem D43_21 : decode Y32 21 = .ok (.checkcast 311, 3) := by decide +kernel
theorem D43_24 : decode Y32 24 = .ok (.areturn, 1) := by decide +kernel
theorem D43_10 : decode Y32 10 = .ok (.aload_n 0, 1) := by decide +kernel
theorem D43_11 : decode Y32 11 = .ok (.iload_n 1, 1) := by decide +kernel
theorem D43_12 : decode Y32 12 = .ok (.iload_n 2, 1) := by decide +kernel
theorem D43_13 : decode Y32 13 = .ok (.invokestatic 339, 3) := by decide +kernel
theorem D44_0 : decode Y23 0 = .ok (.iload_n 1, 1) := by decide +kernel
theorem D44_1 : decode Y23 1 = .ok (.iload_n 2, 1) := by decide +kernel
theorem D44_2 : decode Y23 2 = .ok (.invokestatic 343, 3) := by decide +kernel
theorem D42_0 : decode Y69 0 = .ok (.iload_n 1, 1) := by decide +kernel
theorem D42_1 : decode Y69 1 = .ok (.iload_n 0, 1) := by decide +kernel
theorem D42_2 : decode Y69 2 = .ok (.if_icmp .ge 35, 3) := by decide +kernel
theorem D42_37 : decode Y69 37 = .ok (.return_, 1) := by decide +kernel
theorem D44_5 : decode Y23 5 = .ok (.iload_n 2, 1) := by decide +kernel
theorem D44_6 : decode Y23 6 = .ok (.iload_n 1, 1) := by decide +kernel
theorem D44_7 : decode Y23 7 = .ok (.isub, 1) := by decide +kernel
theorem D44_8 : decode Y23 8 = .ok (.istore_n 3, 1) := by decide +kernel
theorem D44_9 : decode Y23 9 = .ok (.iload_n 3, 1) := by decide +kernel
theorem D44_10 : decode Y23 10 = .ok (.newarray .byte, 2) := by decide +kernel
theorem D44_12 : decode Y23 12 = .ok (.astore 4, 2) := by decide +kernel
theorem D44_14 : decode Y23 14 = .ok (.aload_n 0, 1) := by decide +kernel
theorem D44_15 : decode Y23 15 = .ok (.iload_n 1, 1) := by decide +kernel
theorem D44_16 : decode Y23 16 = .ok (.aload 4, 2) := by decide +kernel
theorem D44_18 : decode Y23 18 = .ok (.iconst 0, 1) := by decide +kernel
theorem D44_19 : decode Y23 19 = .ok (.aload_n 0, 1) := by decide +kernel
theorem D44_20 : decode Y23 20 = .ok (.arraylength, 1) := by decide +kernel
theorem D44_21 : decode Y23 21 = .ok (.iload_n 1, 1) := by decide +kernel
theorem D44_22 : decode Y23 22 = .ok (.isub, 1) := by decide +kernel
theorem D44_23 : decode Y23 23 = .ok (.iload_n 3, 1) := by decide +kernel
theorem D44_24 : decode Y23 24 = .ok (.invokestatic 304, 3) := by decide +kernel
theorem D3_9 : decode Y43 9 = .ok (.iload_n 1, 1) := by decide +kernel
theorem D44_27 : decode Y23 27 = .ok (.invokestatic 150, 3) := by decide +kernel
theorem D44_30 : decode Y23 30 = .ok (.aload 4, 2) := by decide +kernel
theorem D44_32 : decode Y23 32 = .ok (.areturn, 1) := by decide +kernel
theorem D43_16 : decode Y32 16 = .ok (.areturn, 1) := by decide +kernel
theorem D8_35 : decode Y24 35 = .ok (.putfield 9, 3) := by decide +kernel
theorem D8_38 : decode Y24 38 = .ok (.goto 59, 3) := by decide +kernel
theorem D8_97 : decode Y24 97 = .ok (.return_, 1) := by decide +kernel
theorem D17_6 : decode Y64 6 = .ok (.return_, 1) := by decide +kernel
theorem D47_8 : decode Y66 8 = .ok (.areturn, 1) := by decide +kernel
theorem D71_53 : decode Y10 53 = .ok (.areturn, 1) := by decide +kernel
theorem D71_22 : decode Y10 22 = .ok (.aload_n 2, 1) := by decide +kernel
theorem D71_23 : decode Y10 23 = .ok (.iload 4, 2) := by decide +kernel
theorem D71_25 : decode Y10 25 = .ok (.aaload, 1) := by decide +kernel
theorem D71_26 : decode Y10 26 = .ok (.astore 5, 2) := by decide +kernel
theorem D71_28 : decode Y10 28 = .ok (.aload_n 1, 1) := by decide +kernel
theorem D71_29 : decode Y10 29 = .ok (.bipush 47, 2) := by decide +kernel
theorem D71_31 : decode Y10 31 = .ok (.invokevirtual 94, 3) := by decide +kernel
theorem D71_34 : decode Y10 34 = .ok (.pop, 1) := by decide +kernel
theorem D71_35 : decode Y10 35 = .ok (.aload_n 1, 1) := by decide +kernel
theorem D71_36 : decode Y10 36 = .ok (.aload 5, 2) := by decide +kernel
theorem D71_38 : decode Y10 38 = .ok (.ldc 36, 2) := by decide +kernel
theorem D71_40 : decode Y10 40 = .ok (.invokestatic 98, 3) := by decide +kernel
theorem D72_0 : decode Y5 0 = .ok (.aload_n 1, 1) := by decide +kernel
theorem D72_1 : decode Y5 1 = .ok (.aload_n 2, 1) := by decide +kernel
theorem D72_2 : decode Y5 2 = .ok (.invokestatic 108, 3) := by decide +kernel
theorem D69_0 : decode Y14 0 = .ok (.iconst 0, 1) := by decide +kernel
theorem D69_1 : decode Y14 1 = .ok (.istore_n 2, 1) := by decide +kernel
theorem D69_2 : decode Y14 2 = .ok (.iload_n 2, 1) := by decide +kernel
theorem D69_3 : decode Y14 3 = .ok (.aload_n 0, 1) := by decide +kernel
theorem D69_4 : decode Y14 4 = .ok (.invokevirtual 53, 3) := by decide +kernel
theorem D69_7 : decode Y14 7 = .ok (.if_icmp .ge 32, 3) := by decide +kernel
theorem D69_39 : decode Y14 39 = .ok (.iconst 1, 1) := by decide +kernel
theorem D69_40 : decode Y14 40 = .ok (.ireturn, 1) := by decide +kernel
theorem D72_5 : decode Y5 5 = .ok (.ifCond .eq 12, 3) := by decide +kernel
theorem D72_8 : decode Y5 8 = .ok (.aload_n 0, 1) := by decide +kernel
theorem D72_9 : decode Y5 9 = .ok (.aload_n 1, 1) := by decide +kernel
theorem D72_10 : decode Y5 10 = .ok (.invokevirtual 111, 3) := by decide +kernel
theorem D48_0 : decode Y63 0 = .ok (.aload_n 0, 1) := by decide +kernel
theorem D48_1 : decode Y63 1 = .ok (.aload_n 1, 1) := by decide +kernel
theorem D48_2 : decode Y63 2 = .ok (.invokespecial 29, 3) := by decide +kernel
theorem D51_0 : decode Y21 0 = .ok (.aload_n 1, 1) := by decide +kernel
theorem D51_1 : decode Y21 1 = .ok (.ifnonnull 8, 3) := by decide +kernel
theorem D51_9 : decode Y21 9 = .ok (.aload_n 1, 1) := by decide +kernel
theorem D51_10 : decode Y21 10 = .ok (.invokevirtual 32, 3) := by decide +kernel
theorem D51_13 : decode Y21 13 = .ok (.istore_n 2, 1) := by decide +kernel
theorem D51_14 : decode Y21 14 = .ok (.aload_n 0, 1) := by decide +kernel
theorem D51_15 : decode Y21 15 = .ok (.aload_n 0, 1) := by decide +kernel
theorem D51_16 : decode Y21 16 = .ok (.getfield 79, 3) := by decide +kernel
theorem D51_19 : decode Y21 19 = .ok (.iload_n 2, 1) := by decide +kernel
theorem D51_20 : decode Y21 20 = .ok (.iadd, 1) := by decide +kernel
theorem D51_21 : decode Y21 21 = .ok (.invokevirtual 100, 3) := by decide +kernel
theorem D51_24 : decode Y21 24 = .ok (.aload_n 0, 1) := by decide +kernel
theorem D51_25 : decode Y21 25 = .ok (.aload_n 0, 1) := by decide +kernel
theorem D51_26 : decode Y21 26 = .ok (.getfield 79, 3) := by decide +kernel
theorem D51_29 : decode Y21 29 = .ok (.aload_n 1, 1) := by decide +kernel
theorem D51_30 : decode Y21 30 = .ok (.invokevirtual 208, 3) := by decide +kernel
theorem D58_0 : decode Y37 0 = .ok (.aload_n 0, 1) := by decide +kernel
theorem D58_1 : decode Y37 1 = .ok (.aload_n 2, 1) := by decide +kernel
theorem D58_2 : decode Y37 2 = .ok (.invokevirtual 397, 3) := by decide +kernel
theorem D57_0 : decode Y54 0 = .ok (.getstatic 18, 3) := by decide +kernel
theorem D57_3 : decode Y54 3 = .ok (.ifCond .eq 18, 3) := by decide +kernel
theorem D57_6 : decode Y54 6 = .ok (.aload_n 0, 1) := by decide +kernel
theorem D57_7 : decode Y54 7 = .ok (.getfield 22, 3) := by decide +kernel
theorem D57_10 : decode Y54 10 = .ok (.aload_n 1, 1) := by decide +kernel
theorem D57_11 : decode Y54 11 = .ok (.invokevirtual 40, 3) := by decide +kernel
theorem D57_14 : decode Y54 14 = .ok (.if_icmp .eq 7, 3) := by decide +kernel
theorem D57_21 : decode Y54 21 = .ok (.return_, 1) := by decide +kernel
theorem D58_5 : decode Y37 5 = .ok (.aload_n 2, 1) := by decide +kernel
theorem D58_6 : decode Y37 6 = .ok (.aload_n 0, 1) := by decide +kernel
theorem D58_7 : decode Y37 7 = .ok (.getfield 15, 3) := by decide +kernel
theorem D58_10 : decode Y37 10 = .ok (.iload_n 1, 1) := by decide +kernel
theorem D58_11 : decode Y37 11 = .ok (.aload_n 0, 1) := by decide +kernel
theorem D58_12 : decode Y37 12 = .ok (.getfield 22, 3) := by decide +kernel
theorem D58_15 : decode Y37 15 = .ok (.invokevirtual 399, 3) := by decide +kernel
theorem D6_0 : decode Y31 0 = .ok (.aload_n 0, 1) := by decide +kernel
theorem D6_1 : decode Y31 1 = .ok (.invokevirtual 335, 3) := by decide +kernel
theorem D6_4 : decode Y31 4 = .ok (.iload_n 3, 1) := by decide +kernel
theorem D6_5 : decode Y31 5 = .ok (.if_icmp .ne 23, 3) := by decide +kernel
theorem D6_8 : decode Y31 8 = .ok (.aload_n 0, 1) := by decide +kernel
theorem D6_9 : decode Y31 9 = .ok (.getfield 9, 3) := by decide +kernel
theorem D6_12 : decode Y31 12 = .ok (.iconst 0, 1) := by decide +kernel
theorem D6_13 : decode Y31 13 = .ok (.aload_n 1, 1) := by decide +kernel
theorem D6_14 : decode Y31 14 = .ok (.iload_n 2, 1) := by decide +kernel
theorem D6_15 : decode Y31 15 = .ok (.iload_n 3, 1) := by decide +kernel
theorem D6_16 : decode Y31 16 = .ok (.ishl, 1) := by decide +kernel
theorem D6_17 : decode Y31 17 = .ok (.aload_n 0, 1) := by decide +kernel
theorem D6_18 : decode Y31 18 = .ok (.getfield 9, 3) := by decide +kernel
theorem D6_21 : decode Y31 21 = .ok (.arraylength, 1) := by decide +kernel
theorem D6_22 : decode Y31 22 = .ok (.invokestatic 212, 3) := by decide +kernel
theorem D6_25 : decode Y31 25 = .ok (.goto 18, 3) := by decide +kernel
theorem D6_43 : decode Y31 43 = .ok (.return_, 1) := by decide +kernel
theorem D58_18 : decode Y37 18 = .ok (.return_, 1) := by decide +kernel
theorem D51_33 : decode Y21 33 = .ok (.aload_n 0, 1) := by decide +kernel
theorem D51_34 : decode Y21 34 = .ok (.dup, 1) := by decide +kernel
theorem D51_35 : decode Y21 35 = .ok (.getfield 79, 3) := by decide +kernel
theorem D51_38 : decode Y21 38 = .ok (.iload_n 2, 1) := by decide +kernel
theorem D51_39 : decode Y21 39 = .ok (.iadd, 1) := by decide +kernel
theorem D51_40 : decode Y21 40 = .ok (.putfield 79, 3) := by decide +kernel
theorem D51_43 : decode Y21 43 = .ok (.aload_n 0, 1) := by decide +kernel
theorem D51_44 : decode Y21 44 = .ok (.areturn, 1) := by decide +kernel
theorem D48_5 : decode Y63 5 = .ok (.pop, 1) := by decide +kernel
theorem D48_6 : decode Y63 6 = .ok (.aload_n 0, 1) := by decide +kernel
theorem D48_7 : decode Y63 7 = .ok (.areturn, 1) := by decide +kernel
theorem D72_13 : decode Y5 13 = .ok (.pop, 1) := by decide +kernel
theorem D72_14 : decode Y5 14 = .ok (.goto 98, 3) := by decide +kernel
theorem D72_112 : decode Y5 112 = .ok (.return_, 1) := by decide +kernel
theorem D69_10 : decode Y14 10 = .ok (.aload_n 0, 1) := by decide +kernel
theorem D69_11 : decode Y14 11 = .ok (.iload_n 2, 1) := by decide +kernel
theorem D69_12 : decode Y14 12 = .ok (.invokevirtual 142, 3) := by decide +kernel
theorem D19_0 : decode Y28 0 = .ok (.aload_n 0, 1) := by decide +kernel
theorem D19_1 : decode Y28 1 = .ok (.invokevirtual 492, 3) := by decide +kernel
theorem D19_4 : decode Y28 4 = .ok (.ifCond .eq 12, 3) := by decide +kernel
theorem D19_7 : decode Y28 7 = .ok (.aload_n 0, 1) := by decide +kernel
theorem D19_8 : decode Y28 8 = .ok (.getfield 9, 3) := by decide +kernel
theorem D19_11 : decode Y28 11 = .ok (.iload_n 1, 1) := by decide +kernel
theorem D19_12 : decode Y28 12 = .ok (.invokestatic 495, 3) := by decide +kernel
theorem D24_0 : decode Y34 0 = .ok (.iload_n 1, 1) := by decide +kernel
theorem D24_1 : decode Y34 1 = .ok (.aload_n 0, 1) := by decide +kernel
theorem D24_2 : decode Y34 2 = .ok (.arraylength, 1) := by decide +kernel
theorem D24_3 : decode Y34 3 = .ok (.invokestatic 9, 3) := by decide +kernel
theorem D12_0 : decode Y50 0 = .ok (.iload_n 0, 1) := by decide +kernel
theorem D12_1 : decode Y50 1 = .ok (.iload_n 1, 1) := by decide +kernel
theorem D12_2 : decode Y50 2 = .ok (.getstatic 1053, 3) := by decide +kernel
theorem D12_5 : decode Y50 5 = .ok (.invokestatic 1059, 3) := by decide +kernel
theorem D4_0 : decode Y46 0 = .ok (.iload_n 0, 1) := by decide +kernel
theorem D4_1 : decode Y46 1 = .ok (.ifCond .lt 8, 3) := by decide +kernel
theorem D4_4 : decode Y46 4 = .ok (.iload_n 0, 1) := by decide +kernel
theorem D4_5 : decode Y46 5 = .ok (.iload_n 1, 1) := by decide +kernel
theorem D4_6 : decode Y46 6 = .ok (.if_icmp .lt 10, 3) := by decide +kernel
theorem D4_16 : decode Y46 16 = .ok (.iload_n 0, 1) := by decide +kernel
theorem D4_17 : decode Y46 17 = .ok (.ireturn, 1) := by decide +kernel
theorem D12_8 : decode Y50 8 = .ok (.pop, 1) := by decide +kernel
theorem D12_9 : decode Y50 9 = .ok (.return_, 1) := by decide +kernel
theorem D24_6 : decode Y34 6 = .ok (.aload_n 0, 1) := by decide +kernel
theorem D24_7 : decode Y34 7 = .ok (.iload_n 1, 1) := by decide +kernel
theorem D24_8 : decode Y34 8 = .ok (.baload, 1) := by decide +kernel
theorem D24_9 : decode Y34 9 = .ok (.sipush 255, 3) := by decide +kernel
theorem D24_12 : decode Y34 12 = .ok (.iand, 1) := by decide +kernel
theorem D24_13 : decode Y34 13 = .ok (.i2c, 1) := by decide +kernel
theorem D24_14 : decode Y34 14 = .ok (.ireturn, 1) := by decide +kernel
theorem D19_15 : decode Y28 15 = .ok (.ireturn, 1) := by decide +kernel
theorem D69_15 : decode Y14 15 = .ok (.istore_n 3, 1) := by decide +kernel
theorem D69_16 : decode Y14 16 = .ok (.iload_n 3, 1) := by decide +kernel
theorem D69_17 : decode Y14 17 = .ok (.invokestatic 124, 3) := by decide +kernel
theorem D69_20 : decode Y14 20 = .ok (.ifCond .ne 13, 3) := by decide +kernel
theorem D69_23 : decode Y14 23 = .ok (.aload_n 1, 1) := by decide +kernel
theorem D69_24 : decode Y14 24 = .ok (.iload_n 3, 1) := by decide +kernel
theorem D69_25 : decode Y14 25 = .ok (.invokevirtual 30, 3) := by decide +kernel
theorem D69_28 : decode Y14 28 = .ok (.ifCond .ge 5, 3) := by decide +kernel
theorem D69_31 : decode Y14 31 = .ok (.iconst 0, 1) := by decide +kernel
theorem D69_32 : decode Y14 32 = .ok (.ireturn, 1) := by decide +kernel
theorem D69_33 : decode Y14 33 = .ok (.iinc 2 1, 3) := by decide +kernel
theorem D69_36 : decode Y14 36 = .ok (.goto (-34), 3) := by decide +kernel
theorem D72_17 : decode Y5 17 = .ok (.aload_n 1, 1) := by decide +kernel
theorem D72_18 : decode Y5 18 = .ok (.getstatic 114, 3) := by decide +kernel
theorem D72_21 : decode Y5 21 = .ok (.invokevirtual 120, 3) := by decide +kernel
theorem D20_0 : decode Y38 0 = .ok (.aload_n 1, 1) := by decide +kernel
theorem D20_1 : decode Y38 1 = .ok (.ifnonnull 11, 3) := by decide +kernel
theorem D20_12 : decode Y38 12 = .ok (.aload_n 1, 1) := by decide +kernel
theorem D20_13 : decode Y38 13 = .ok (.aload_n 0, 1) := by decide +kernel
theorem D20_14 : decode Y38 14 = .ok (.invokevirtual 335, 3) := by decide +kernel
theorem D20_17 : decode Y38 17 = .ok (.aload_n 0, 1) := by decide +kernel
theorem D20_18 : decode Y38 18 = .ok (.getfield 9, 3) := by decide +kernel
theorem D20_21 : decode Y38 21 = .ok (.invokestatic 535, 3) := by decide +kernel
theorem D13_0 : decode Y41 0 = .ok (.aload_n 0, 1) := by decide +kernel
theorem D13_1 : decode Y41 1 = .ok (.getstatic 86, 3) := by decide +kernel
theorem D13_4 : decode Y41 4 = .ok (.if_acmp .ne 10, 3) := by decide +kernel
theorem D13_7 : decode Y41 7 = .ok (.iload_n 1, 1) := by decide +kernel
theorem D13_8 : decode Y41 8 = .ok (.aload_n 2, 1) := by decide +kernel
theorem D13_9 : decode Y41 9 = .ok (.iconst 1, 1) := by decide +kernel
theorem D13_10 : decode Y41 10 = .ok (.invokestatic 252, 3) := by decide +kernel
theorem D15_0 : decode Y2 0 = .ok (.iload_n 0, 1) := by decide +kernel
theorem D15_1 : decode Y2 1 = .ok (.iconst 1, 1) := by decide +kernel
theorem D15_2 : decode Y2 2 = .ok (.if_icmp .ne 9, 3) := by decide +kernel
theorem D15_11 : decode Y2 11 = .ok (.aload_n 1, 1) := by decide +kernel
theorem D15_12 : decode Y2 12 = .ok (.iconst 0, 1) := by decide +kernel
theorem D15_13 : decode Y2 13 = .ok (.aload_n 1, 1) := by decide +kernel
theorem D15_14 : decode Y2 14 = .ok (.arraylength, 1) := by decide +kernel
theorem D15_15 : decode Y2 15 = .ok (.invokestatic 128, 3) := by decide +kernel
theorem D0_0 : decode Y42 0 = .ok (.aload_n 0, 1) := by decide +kernel
theorem D0_1 : decode Y42 1 = .ok (.iload_n 1, 1) := by decide +kernel
theorem D0_2 : decode Y42 2 = .ok (.iload_n 2, 1) := by decide +kernel
theorem D0_3 : decode Y42 3 = .ok (.invokestatic 7, 3) := by decide +kernel
theorem D1_0 : decode Y25 0 = .ok (.iload_n 1, 1) := by decide +kernel
theorem D1_1 : decode Y25 1 = .ok (.iload_n 2, 1) := by decide +kernel
theorem D1_2 : decode Y25 2 = .ok (.iadd, 1) := by decide +kernel
theorem D1_3 : decode Y25 3 = .ok (.istore_n 3, 1) := by decide +kernel
theorem D1_4 : decode Y25 4 = .ok (.iload_n 1, 1) := by decide +kernel
theorem D1_5 : decode Y25 5 = .ok (.istore 4, 2) := by decide +kernel
theorem D1_7 : decode Y25 7 = .ok (.iload 4, 2) := by decide +kernel
theorem D1_9 : decode Y25 9 = .ok (.iload_n 3, 1) := by decide +kernel
theorem D1_10 : decode Y25 10 = .ok (.if_icmp .ge 21, 3) := by decide +kernel
theorem D1_13 : decode Y25 13 = .ok (.aload_n 0, 1) := by decide +kernel
theorem D1_14 : decode Y25 14 = .ok (.iload 4, 2) := by decide +kernel
theorem D1_16 : decode Y25 16 = .ok (.baload, 1) := by decide +kernel
theorem D1_17 : decode Y25 17 = .ok (.ifCond .ge 8, 3) := by decide +kernel
theorem D1_20 : decode Y25 20 = .ok (.iload 4, 2) := by decide +kernel
theorem D1_22 : decode Y25 22 = .ok (.iload_n 1, 1) := by decide +kernel
theorem D1_23 : decode Y25 23 = .ok (.isub, 1) := by decide +kernel
theorem D1_24 : decode Y25 24 = .ok (.ireturn, 1) := by decide +kernel
theorem D1_25 : decode Y25 25 = .ok (.iinc 4 1, 3) := by decide +kernel
theorem D1_28 : decode Y25 28 = .ok (.goto (-21), 3) := by decide +kernel
theorem D1_31 : decode Y25 31 = .ok (.iload_n 2, 1) := by decide +kernel
theorem D1_32 : decode Y25 32 = .ok (.ireturn, 1) := by decide +kernel
theorem D0_6 : decode Y42 6 = .ok (.iload_n 2, 1) := by decide +kernel
theorem D0_7 : decode Y42 7 = .ok (.if_icmp .eq 7, 3) := by decide +kernel
theorem D0_10 : decode Y42 10 = .ok (.iconst 1, 1) := by decide +kernel
theorem D0_11 : decode Y42 11 = .ok (.goto 4, 3) := by decide +kernel
theorem D0_15 : decode Y42 15 = .ok (.ireturn, 1) := by decide +kernel
theorem D0_14 : decode Y42 14 = .ok (.iconst 0, 1) := by decide +kernel
theorem D15_18 : decode Y2 18 = .ok (.ifCond .ne 11, 3) := by decide +kernel
theorem D15_29 : decode Y2 29 = .ok (.iconst 0, 1) := by decide +kernel
theorem D15_30 : decode Y2 30 = .ok (.istore_n 3, 1) := by decide +kernel
theorem D15_31 : decode Y2 31 = .ok (.aload_n 1, 1) := by decide +kernel
theorem D15_32 : decode Y2 32 = .ok (.arraylength, 1) := by decide +kernel
theorem D15_33 : decode Y2 33 = .ok (.invokestatic 60, 3) := by decide +kernel
theorem D15_36 : decode Y2 36 = .ok (.astore 4, 2) := by decide +kernel
theorem D15_38 : decode Y2 38 = .ok (.aload_n 1, 1) := by decide +kernel
theorem D15_39 : decode Y2 39 = .ok (.astore 5, 2) := by decide +kernel
theorem D15_41 : decode Y2 41 = .ok (.aload 5, 2) := by decide +kernel
theorem D15_43 : decode Y2 43 = .ok (.arraylength, 1) := by decide +kernel
theorem D15_44 : decode Y2 44 = .ok (.istore 6, 2) := by decide +kernel
theorem D15_46 : decode Y2 46 = .ok (.iconst 0, 1) := by decide +kernel
theorem D15_47 : decode Y2 47 = .ok (.istore 7, 2) := by decide +kernel
theorem D15_49 : decode Y2 49 = .ok (.iload 7, 2) := by decide +kernel
theorem D15_51 : decode Y2 51 = .ok (.iload 6, 2) := by decide +kernel
theorem D15_53 : decode Y2 53 = .ok (.if_icmp .ge 71, 3) := by decide +kernel
theorem D15_56 : decode Y2 56 = .ok (.aload 5, 2) := by decide +kernel
theorem D15_58 : decode Y2 58 = .ok (.iload 7, 2) := by decide +kernel
theorem D15_60 : decode Y2 60 = .ok (.baload, 1) := by decide +kernel
theorem D15_61 : decode Y2 61 = .ok (.istore 8, 2) := by decide +kernel
theorem D15_63 : decode Y2 63 = .ok (.iload 8, 2) := by decide +kernel
theorem D15_65 : decode Y2 65 = .ok (.ifCond .ge 44, 3) := by decide +kernel
theorem D15_68 : decode Y2 68 = .ok (.aload 4, 2) := by decide +kernel
theorem D15_70 : decode Y2 70 = .ok (.iload_n 3, 1) := by decide +kernel
theorem D15_71 : decode Y2 71 = .ok (.iinc 3 1, 3) := by decide +kernel
theorem D15_74 : decode Y2 74 = .ok (.sipush 192, 3) := by decide +kernel
theorem D15_77 : decode Y2 77 = .ok (.iload 8, 2) := by decide +kernel
theorem D15_79 : decode Y2 79 = .ok (.sipush 255, 3) := by decide +kernel
theorem D15_82 : decode Y2 82 = .ok (.iand, 1) := by decide +kernel
theorem D15_83 : decode Y2 83 = .ok (.bipush 6, 2) := by decide +kernel
theorem D15_85 : decode Y2 85 = .ok (.ishr, 1) := by decide +kernel
theorem D15_86 : decode Y2 86 = .ok (.ior, 1) := by decide +kernel
theorem D15_87 : decode Y2 87 = .ok (.i2b, 1) := by decide +kernel
theorem D15_88 : decode Y2 88 = .ok (.bastore, 1) := by decide +kernel
theorem D15_89 : decode Y2 89 = .ok (.aload 4, 2) := by decide +kernel
theorem D15_91 : decode Y2 91 = .ok (.iload_n 3, 1) := by decide +kernel
theorem D15_92 : decode Y2 92 = .ok (.iinc 3 1, 3) := by decide +kernel
theorem D15_95 : decode Y2 95 = .ok (.sipush 128, 3) := by decide +kernel
theorem D15_98 : decode Y2 98 = .ok (.iload 8, 2) := by decide +kernel
theorem D15_100 : decode Y2 100 = .ok (.bipush 63, 2) := by decide +kernel
theorem D15_102 : decode Y2 102 = .ok (.iand, 1) := by decide +kernel
theorem D15_103 : decode Y2 103 = .ok (.ior, 1) := by decide +kernel
theorem D15_104 : decode Y2 104 = .ok (.i2b, 1) := by decide +kernel
theorem D15_105 : decode Y2 105 = .ok (.bastore, 1) := by decide +kernel
theorem D15_106 : decode Y2 106 = .ok (.goto 12, 3) := by decide +kernel
theorem D15_118 : decode Y2 118 = .ok (.iinc 7 1, 3) := by decide +kernel
theorem D15_121 : decode Y2 121 = .ok (.goto (-72), 3) := by decide +kernel
theorem D15_124 : decode Y2 124 = .ok (.iload_n 3, 1) := by decide +kernel
theorem D15_125 : decode Y2 125 = .ok (.aload 4, 2) := by decide +kernel
theorem D15_127 : decode Y2 127 = .ok (.arraylength, 1) := by decide +kernel
theorem D15_128 : decode Y2 128 = .ok (.if_icmp .ne 6, 3) := by decide +kernel
theorem D15_131 : decode Y2 131 = .ok (.aload 4, 2) := by decide +kernel
theorem D15_133 : decode Y2 133 = .ok (.areturn, 1) := by decide +kernel
theorem D15_21 : decode Y2 21 = .ok (.aload_n 1, 1) := by decide +kernel
theorem D15_22 : decode Y2 22 = .ok (.invokevirtual 279, 3) := by decide +kernel
theorem D15_25 : decode Y2 25 = .ok (.checkcast 280, 3) := by decide +kernel
theorem D15_28 : decode Y2 28 = .ok (.areturn, 1) := by decide +kernel
theorem D13_13 : decode Y41 13 = .ok (.areturn, 1) := by decide +kernel
theorem D20_24 : decode Y38 24 = .ok (.areturn, 1) := by decide +kernel
theorem D72_24 : decode Y5 24 = .ok (.astore_n 3, 1) := by decide +kernel
theorem D72_25 : decode Y5 25 = .ok (.aload_n 3, 1) := by decide +kernel
theorem D72_26 : decode Y5 26 = .ok (.arraylength, 1) := by decide +kernel
theorem D72_27 : decode Y5 27 = .ok (.istore 4, 2) := by decide +kernel
theorem D72_29 : decode Y5 29 = .ok (.iconst 0, 1) := by decide +kernel
theorem D72_30 : decode Y5 30 = .ok (.istore 5, 2) := by decide +kernel
theorem D11_17 : decode Y35 17 = .ok (.iconst 0, 1) := by decide +kernel
theorem D19_16 : decode Y28 16 = .ok (.aload_n 0, 1) := by decide +kernel
theorem D19_17 : decode Y28 17 = .ok (.getfield 9, 3) := by decide +kernel
theorem D19_20 : decode Y28 20 = .ok (.iload_n 1, 1) := by decide +kernel
theorem D19_21 : decode Y28 21 = .ok (.invokestatic 498, 3) := by decide +kernel
theorem D39_0 : decode Y53 0 = .ok (.iload_n 1, 1) := by decide +kernel
theorem D39_1 : decode Y53 1 = .ok (.aload_n 0, 1) := by decide +kernel
theorem D39_2 : decode Y53 2 = .ok (.invokestatic 67, 3) := by decide +kernel
theorem D40_0 : decode Y61 0 = .ok (.iload_n 0, 1) := by decide +kernel
theorem D40_1 : decode Y61 1 = .ok (.aload_n 1, 1) := by decide +kernel
theorem D40_2 : decode Y61 2 = .ok (.invokestatic 48, 3) := by decide +kernel
theorem D38_0 : decode Y62 0 = .ok (.aload_n 0, 1) := by decide +kernel
theorem D38_1 : decode Y62 1 = .ok (.arraylength, 1) := by decide +kernel
theorem D38_2 : decode Y62 2 = .ok (.iconst 1, 1) := by decide +kernel
theorem D38_3 : decode Y62 3 = .ok (.ishr, 1) := by decide +kernel
theorem D38_4 : decode Y62 4 = .ok (.ireturn, 1) := by decide +kernel
theorem D40_5 : decode Y61 5 = .ok (.invokestatic 414, 3) := by decide +kernel
theorem D40_8 : decode Y61 8 = .ok (.return_, 1) := by decide +kernel
theorem D39_5 : decode Y53 5 = .ok (.aload_n 0, 1) := by decide +kernel
theorem D39_6 : decode Y53 6 = .ok (.iload_n 1, 1) := by decide +kernel
theorem D39_7 : decode Y53 7 = .ok (.invokestatic 71, 3) := by decide +kernel
theorem D39_10 : decode Y53 10 = .ok (.ireturn, 1) := by decide +kernel
theorem D19_24 : decode Y28 24 = .ok (.ireturn, 1) := by decide +kernel
theorem D15_5 : decode Y2 5 = .ok (.aload_n 1, 1) := by decide +kernel
theorem D15_6 : decode Y2 6 = .ok (.iload_n 2, 1) := by decide +kernel
theorem D15_7 : decode Y2 7 = .ok (.invokestatic 473, 3) := by decide +kernel
theorem D16_0 : decode Y1 0 = .ok (.iconst 0, 1) := by decide +kernel
theorem D16_1 : decode Y1 1 = .ok (.istore_n 2, 1) := by decide +kernel
theorem D16_2 : decode Y1 2 = .ok (.iconst 0, 1) := by decide +kernel
theorem D16_3 : decode Y1 3 = .ok (.istore_n 3, 1) := by decide +kernel
theorem D16_4 : decode Y1 4 = .ok (.aload_n 0, 1) := by decide +kernel
theorem D16_5 : decode Y1 5 = .ok (.arraylength, 1) := by decide +kernel
theorem D16_6 : decode Y1 6 = .ok (.iconst 1, 1) := by decide +kernel
theorem D16_7 : decode Y1 7 = .ok (.ishr, 1) := by decide +kernel
theorem D16_8 : decode Y1 8 = .ok (.istore 4, 2) := by decide +kernel
theorem D16_10 : decode Y1 10 = .ok (.iload 4, 2) := by decide +kernel
theorem D16_12 : decode Y1 12 = .ok (.iconst 3, 1) := by decide +kernel
theorem D16_13 : decode Y1 13 = .ok (.imul, 1) := by decide +kernel
theorem D16_14 : decode Y1 14 = .ok (.newarray .byte, 2) := by decide +kernel
theorem D16_16 : decode Y1 16 = .ok (.astore 5, 2) := by decide +kernel
theorem D16_18 : decode Y1 18 = .ok (.iload_n 3, 1) := by decide +kernel
theorem D16_19 : decode Y1 19 = .ok (.iload 4, 2) := by decide +kernel
theorem D16_21 : decode Y1 21 = .ok (.if_icmp .ge 37, 3) := by decide +kernel
theorem D16_24 : decode Y1 24 = .ok (.aload_n 0, 1) := by decide +kernel
theorem D16_25 : decode Y1 25 = .ok (.iload_n 3, 1) := by decide +kernel
theorem D16_26 : decode Y1 26 = .ok (.invokestatic 360, 3) := by decide +kernel
theorem D16_29 : decode Y1 29 = .ok (.istore 6, 2) := by decide +kernel
theorem D16_31 : decode Y1 31 = .ok (.iload 6, 2) := by decide +kernel
theorem D16_33 : decode Y1 33 = .ok (.sipush 128, 3) := by decide +kernel
theorem D16_36 : decode Y1 36 = .ok (.if_icmp .lt 6, 3) := by decide +kernel
theorem D16_39 : decode Y1 39 = .ok (.goto 19, 3) := by decide +kernel
theorem D16_58 : decode Y1 58 = .ok (.iload_n 3, 1) := by decide +kernel
theorem D16_59 : decode Y1 59 = .ok (.iload 4, 2) := by decide +kernel
theorem D16_61 : decode Y1 61 = .ok (.if_icmp .ge 294, 3) := by decide +kernel
theorem D16_64 : decode Y1 64 = .ok (.aload_n 0, 1) := by decide +kernel
theorem D16_65 : decode Y1 65 = .ok (.iload_n 3, 1) := by decide +kernel
theorem D16_66 : decode Y1 66 = .ok (.iinc 3 1, 3) := by decide +kernel
theorem D16_69 : decode Y1 69 = .ok (.invokestatic 360, 3) := by decide +kernel
theorem D16_72 : decode Y1 72 = .ok (.istore 6, 2) := by decide +kernel
theorem D16_74 : decode Y1 74 = .ok (.iload 6, 2) := by decide +kernel
theorem D16_76 : decode Y1 76 = .ok (.sipush 128, 3) := by decide +kernel
theorem D16_79 : decode Y1 79 = .ok (.if_icmp .ge 16, 3) := by decide +kernel
theorem D16_95 : decode Y1 95 = .ok (.iload 6, 2) := by decide +kernel
theorem D16_97 : decode Y1 97 = .ok (.sipush 2048, 3) := by decide +kernel
theorem D16_100 : decode Y1 100 = .ok (.if_icmp .ge 40, 3) := by decide +kernel
theorem D16_103 : decode Y1 103 = .ok (.aload 5, 2) := by decide +kernel
theorem D16_105 : decode Y1 105 = .ok (.iload_n 2, 1) := by decide +kernel
theorem D16_106 : decode Y1 106 = .ok (.iinc 2 1, 3) := by decide +kernel
theorem D16_109 : decode Y1 109 = .ok (.sipush 192, 3) := by decide +kernel
theorem D16_112 : decode Y1 112 = .ok (.iload 6, 2) := by decide +kernel
theorem D16_114 : decode Y1 114 = .ok (.bipush 6, 2) := by decide +kernel
theorem D16_116 : decode Y1 116 = .ok (.ishr, 1) := by decide +kernel
theorem D16_117 : decode Y1 117 = .ok (.ior, 1) := by decide +kernel
theorem D16_118 : decode Y1 118 = .ok (.i2b, 1) := by decide +kernel
theorem D16_119 : decode Y1 119 = .ok (.bastore, 1) := by decide +kernel
theorem D16_120 : decode Y1 120 = .ok (.aload 5, 2) := by decide +kernel
theorem D16_122 : decode Y1 122 = .ok (.iload_n 2, 1) := by decide +kernel
theorem D16_123 : decode Y1 123 = .ok (.iinc 2 1, 3) := by decide +kernel
theorem D16_126 : decode Y1 126 = .ok (.sipush 128, 3) := by decide +kernel
theorem D16_129 : decode Y1 129 = .ok (.iload 6, 2) := by decide +kernel
theorem D16_131 : decode Y1 131 = .ok (.bipush 63, 2) := by decide +kernel
theorem D16_133 : decode Y1 133 = .ok (.iand, 1) := by decide +kernel
theorem D16_134 : decode Y1 134 = .ok (.ior, 1) := by decide +kernel
theorem D16_135 : decode Y1 135 = .ok (.i2b, 1) := by decide +kernel
theorem D16_136 : decode Y1 136 = .ok (.bastore, 1) := by decide +kernel
theorem D16_137 : decode Y1 137 = .ok (.goto 215, 3) := by decide +kernel
theorem D16_352 : decode Y1 352 = .ok (.goto (-294), 3) := by decide +kernel
theorem D16_355 : decode Y1 355 = .ok (.iload_n 2, 1) := by decide +kernel
theorem D16_356 : decode Y1 356 = .ok (.aload 5, 2) := by decide +kernel
theorem D16_358 : decode Y1 358 = .ok (.arraylength, 1) := by decide +kernel
theorem D16_359 : decode Y1 359 = .ok (.if_icmp .ne 6, 3) := by decide +kernel
theorem D16_365 : decode Y1 365 = .ok (.aload 5, 2) := by decide +kernel
theorem D16_367 : decode Y1 367 = .ok (.iload_n 2, 1) := by decide +kernel
theorem D16_368 : decode Y1 368 = .ok (.invokestatic 102, 3) := by decide +kernel
theorem D16_371 : decode Y1 371 = .ok (.areturn, 1) := by decide +kernel
theorem D16_140 : decode Y1 140 = .ok (.iload 6, 2) := by decide +kernel
theorem D16_142 : decode Y1 142 = .ok (.invokestatic 404, 3) := by decide +kernel
theorem D60_0 : decode Y57 0 = .ok (.iload_n 0, 1) := by decide +kernel
theorem D60_1 : decode Y57 1 = .ok (.ldc 75, 2) := by decide +kernel
theorem D60_3 : decode Y57 3 = .ok (.if_icmp .lt 13, 3) := by decide +kernel
theorem D60_16 : decode Y57 16 = .ok (.iconst 0, 1) := by decide +kernel
theorem D60_17 : decode Y57 17 = .ok (.ireturn, 1) := by decide +kernel
theorem D60_6 : decode Y57 6 = .ok (.iload_n 0, 1) := by decide +kernel
theorem D60_7 : decode Y57 7 = .ok (.ldc 77, 2) := by decide +kernel
theorem D60_9 : decode Y57 9 = .ok (.if_icmp .ge 7, 3) := by decide +kernel
theorem D16_145 : decode Y1 145 = .ok (.ifCond .eq 153, 3) := by decide +kernel
theorem D16_298 : decode Y1 298 = .ok (.aload 5, 2) := by decide +kernel
theorem D16_300 : decode Y1 300 = .ok (.iload_n 2, 1) := by decide +kernel
theorem D16_301 : decode Y1 301 = .ok (.iinc 2 1, 3) := by decide +kernel
theorem D16_304 : decode Y1 304 = .ok (.sipush 224, 3) := by decide +kernel
theorem D16_307 : decode Y1 307 = .ok (.iload 6, 2) := by decide +kernel
theorem D16_309 : decode Y1 309 = .ok (.bipush 12, 2) := by decide +kernel
theorem D16_311 : decode Y1 311 = .ok (.ishr, 1) := by decide +kernel
theorem D16_312 : decode Y1 312 = .ok (.ior, 1) := by decide +kernel
theorem D16_313 : decode Y1 313 = .ok (.i2b, 1) := by decide +kernel
theorem D16_314 : decode Y1 314 = .ok (.bastore, 1) := by decide +kernel
theorem D16_315 : decode Y1 315 = .ok (.aload 5, 2) := by decide +kernel
theorem D16_317 : decode Y1 317 = .ok (.iload_n 2, 1) := by decide +kernel
theorem D16_318 : decode Y1 318 = .ok (.iinc 2 1, 3) := by decide +kernel
theorem D16_321 : decode Y1 321 = .ok (.sipush 128, 3) := by decide +kernel
theorem D16_324 : decode Y1 324 = .ok (.iload 6, 2) := by decide +kernel
theorem D16_326 : decode Y1 326 = .ok (.bipush 6, 2) := by decide +kernel
theorem D16_328 : decode Y1 328 = .ok (.ishr, 1) := by decide +kernel
theorem D16_329 : decode Y1 329 = .ok (.bipush 63, 2) := by decide +kernel
theorem D16_331 : decode Y1 331 = .ok (.iand, 1) := by decide +kernel
theorem D16_332 : decode Y1 332 = .ok (.ior, 1) := by decide +kernel
theorem D16_333 : decode Y1 333 = .ok (.i2b, 1) := by decide +kernel
theorem D16_334 : decode Y1 334 = .ok (.bastore, 1) := by decide +kernel
theorem D16_335 : decode Y1 335 = .ok (.aload 5, 2) := by decide +kernel
theorem D16_337 : decode Y1 337 = .ok (.iload_n 2, 1) := by decide +kernel
theorem D16_338 : decode Y1 338 = .ok (.iinc 2 1, 3) := by decide +kernel
theorem D16_341 : decode Y1 341 = .ok (.sipush 128, 3) := by decide +kernel
theorem D16_344 : decode Y1 344 = .ok (.iload 6, 2) := by decide +kernel
theorem D16_346 : decode Y1 346 = .ok (.bipush 63, 2) := by decide +kernel
theorem D16_348 : decode Y1 348 = .ok (.iand, 1) := by decide +kernel
theorem D16_349 : decode Y1 349 = .ok (.ior, 1) := by decide +kernel
theorem D16_350 : decode Y1 350 = .ok (.i2b, 1) := by decide +kernel
theorem D16_351 : decode Y1 351 = .ok (.bastore, 1) := by decide +kernel
theorem D16_362 : decode Y1 362 = .ok (.aload 5, 2) := by decide +kernel
theorem D16_364 : decode Y1 364 = .ok (.areturn, 1) := by decide +kernel
theorem D15_10 : decode Y2 10 = .ok (.areturn, 1) := by decide +kernel
theorem D15_109 : decode Y2 109 = .ok (.aload 4, 2) := by decide +kernel
theorem D15_111 : decode Y2 111 = .ok (.iload_n 3, 1) := by decide +kernel
theorem D15_112 : decode Y2 112 = .ok (.iinc 3 1, 3) := by decide +kernel
theorem D15_115 : decode Y2 115 = .ok (.iload 8, 2) := by decide +kernel
theorem D15_117 : decode Y2 117 = .ok (.bastore, 1) := by decide +kernel
theorem D15_134 : decode Y2 134 = .ok (.aload 4, 2) := by decide +kernel
theorem D15_136 : decode Y2 136 = .ok (.iload_n 3, 1) := by decide +kernel
theorem D15_137 : decode Y2 137 = .ok (.invokestatic 102, 3) := by decide +kernel
theorem D15_140 : decode Y2 140 = .ok (.areturn, 1) := by decide +kernel
theorem D16_42 : decode Y1 42 = .ok (.aload 5, 2) := by decide +kernel
theorem D16_44 : decode Y1 44 = .ok (.iload_n 2, 1) := by decide +kernel
theorem D16_45 : decode Y1 45 = .ok (.iinc 2 1, 3) := by decide +kernel
theorem D16_48 : decode Y1 48 = .ok (.iload 6, 2) := by decide +kernel
theorem D16_50 : decode Y1 50 = .ok (.i2b, 1) := by decide +kernel
theorem D16_51 : decode Y1 51 = .ok (.bastore, 1) := by decide +kernel
theorem D16_52 : decode Y1 52 = .ok (.iinc 3 1, 3) := by decide +kernel
theorem D16_55 : decode Y1 55 = .ok (.goto (-37), 3) := by decide +kernel
theorem D16_82 : decode Y1 82 = .ok (.aload 5, 2) := by decide +kernel
theorem D16_84 : decode Y1 84 = .ok (.iload_n 2, 1) := by decide +kernel
theorem D16_85 : decode Y1 85 = .ok (.iinc 2 1, 3) := by decide +kernel
theorem D16_88 : decode Y1 88 = .ok (.iload 6, 2) := by decide +kernel
theorem D16_90 : decode Y1 90 = .ok (.i2b, 1) := by decide +kernel
theorem D16_91 : decode Y1 91 = .ok (.bastore, 1) := by decide +kernel
theorem D16_92 : decode Y1 92 = .ok (.goto 260, 3) := by decide +kernel
theorem D71_43 : decode Y10 43 = .ok (.iinc 4 1, 3) := by decide +kernel
theorem D71_46 : decode Y10 46 = .ok (.goto (-30), 3) := by decide +kernel
theorem D61_0 : decode Y8 0 = .ok (.aload_n 0, 1) := by decide +kernel
theorem D61_1 : decode Y8 1 = .ok (.iload_n 1, 1) := by decide +kernel
theorem D61_2 : decode Y8 2 = .ok (.bipush 47, 2) := by decide +kernel
theorem D61_4 : decode Y8 4 = .ok (.invokestatic 47, 3) := by decide +kernel
theorem D66_0 : decode Y7 0 = .ok (.iload_n 1, 1) := by decide +kernel
theorem D66_1 : decode Y7 1 = .ok (.ifCond .lt 11, 3) := by decide +kernel
theorem D66_4 : decode Y7 4 = .ok (.iload_n 1, 1) := by decide +kernel
theorem D66_5 : decode Y7 5 = .ok (.aload_n 0, 1) := by decide +kernel
theorem D66_6 : decode Y7 6 = .ok (.invokevirtual 29, 3) := by decide +kernel
theorem D66_9 : decode Y7 9 = .ok (.if_icmp .lt 5, 3) := by decide +kernel
theorem D66_14 : decode Y7 14 = .ok (.aload_n 0, 1) := by decide +kernel
theorem D66_15 : decode Y7 15 = .ok (.iload_n 1, 1) := by decide +kernel
theorem D66_16 : decode Y7 16 = .ok (.invokevirtual 43, 3) := by decide +kernel
theorem D66_19 : decode Y7 19 = .ok (.iload_n 2, 1) := by decide +kernel
theorem D66_20 : decode Y7 20 = .ok (.if_icmp .ne 9, 3) := by decide +kernel
theorem D66_23 : decode Y7 23 = .ok (.iload_n 1, 1) := by decide +kernel
theorem D66_24 : decode Y7 24 = .ok (.iconst 1, 1) := by decide +kernel
theorem D66_25 : decode Y7 25 = .ok (.iadd, 1) := by decide +kernel
theorem D66_26 : decode Y7 26 = .ok (.goto 4, 3) := by decide +kernel
theorem D66_30 : decode Y7 30 = .ok (.ireturn, 1) := by decide +kernel
theorem D61_7 : decode Y8 7 = .ok (.istore 5, 2) := by decide +kernel
theorem D61_9 : decode Y8 9 = .ok (.iload_n 2, 1) := by decide +kernel
theorem D61_10 : decode Y8 10 = .ok (.iconst 1, 1) := by decide +kernel
theorem D61_11 : decode Y8 11 = .ok (.if_icmp .lt 12, 3) := by decide +kernel
theorem D61_23 : decode Y8 23 = .ok (.iload_n 2, 1) := by decide +kernel
theorem D61_24 : decode Y8 24 = .ok (.iconst 2, 1) := by decide +kernel
theorem D61_25 : decode Y8 25 = .ok (.if_icmp .lt 13, 3) := by decide +kernel
theorem D61_38 : decode Y8 38 = .ok (.iload 5, 2) := by decide +kernel
theorem D61_40 : decode Y8 40 = .ok (.ireturn, 1) := by decide +kernel
theorem D61_14 : decode Y8 14 = .ok (.aload_n 0, 1) := by decide +kernel
theorem D61_15 : decode Y8 15 = .ok (.iload 5, 2) := by decide +kernel
theorem D61_17 : decode Y8 17 = .ok (.iload_n 3, 1) := by decide +kernel
theorem D61_18 : decode Y8 18 = .ok (.invokestatic 62, 3) := by decide +kernel
theorem D68_0 : decode Y0 0 = .ok (.iload_n 2, 1) := by decide +kernel
theorem D68_1 : decode Y0 1 = .ok (.istore_n 3, 1) := by decide +kernel
theorem D68_2 : decode Y0 2 = .ok (.iload_n 3, 1) := by decide +kernel
theorem D68_3 : decode Y0 3 = .ok (.sipush 128, 3) := by decide +kernel
theorem D68_6 : decode Y0 6 = .ok (.if_icmp .ge 24, 3) := by decide +kernel
theorem D68_9 : decode Y0 9 = .ok (.iload_n 3, 1) := by decide +kernel
theorem D68_10 : decode Y0 10 = .ok (.invokestatic 54, 3) := by decide +kernel
theorem D64_0 : decode Y4 0 = .ok (.iload_n 0, 1) := by decide +kernel
theorem D64_1 : decode Y4 1 = .ok (.bipush 97, 2) := by decide +kernel
theorem D64_3 : decode Y4 3 = .ok (.if_icmp .lt 11, 3) := by decide +kernel
theorem D64_14 : decode Y4 14 = .ok (.iload_n 0, 1) := by decide +kernel
theorem D64_15 : decode Y4 15 = .ok (.bipush 65, 2) := by decide +kernel
theorem D64_17 : decode Y4 17 = .ok (.if_icmp .lt 11, 3) := by decide +kernel
theorem D64_28 : decode Y4 28 = .ok (.iload_n 0, 1) := by decide +kernel
theorem D64_29 : decode Y4 29 = .ok (.bipush 48, 2) := by decide +kernel
theorem D64_31 : decode Y4 31 = .ok (.if_icmp .lt 11, 3) := by decide +kernel
theorem D64_42 : decode Y4 42 = .ok (.iload_n 0, 1) := by decide +kernel
theorem D64_43 : decode Y4 43 = .ok (.bipush 45, 2) := by decide +kernel
theorem D64_45 : decode Y4 45 = .ok (.if_icmp .eq 21, 3) := by decide +kernel
theorem D64_66 : decode Y4 66 = .ok (.iconst 1, 1) := by decide +kernel
theorem D64_67 : decode Y4 67 = .ok (.goto 4, 3) := by decide +kernel
theorem D64_71 : decode Y4 71 = .ok (.ireturn, 1) := by decide +kernel
theorem D64_48 : decode Y4 48 = .ok (.iload_n 0, 1) := by decide +kernel
theorem D64_49 : decode Y4 49 = .ok (.bipush 46, 2) := by decide +kernel
theorem D64_51 : decode Y4 51 = .ok (.if_icmp .eq 15, 3) := by decide +kernel
theorem D64_54 : decode Y4 54 = .ok (.iload_n 0, 1) := by decide +kernel
theorem D64_55 : decode Y4 55 = .ok (.bipush 95, 2) := by decide +kernel
theorem D64_57 : decode Y4 57 = .ok (.if_icmp .eq 9, 3) := by decide +kernel
theorem D64_60 : decode Y4 60 = .ok (.iload_n 0, 1) := by decide +kernel
theorem D64_61 : decode Y4 61 = .ok (.bipush 126, 2) := by decide +kernel
theorem D64_63 : decode Y4 63 = .ok (.if_icmp .ne 7, 3) := by decide +kernel
theorem D64_70 : decode Y4 70 = .ok (.iconst 0, 1) := by decide +kernel
theorem D64_34 : decode Y4 34 = .ok (.iload_n 0, 1) := by decide +kernel
theorem D64_35 : decode Y4 35 = .ok (.bipush 57, 2) := by decide +kernel
theorem D64_37 : decode Y4 37 = .ok (.if_icmp .gt 5, 3) := by decide +kernel
theorem D64_40 : decode Y4 40 = .ok (.iconst 1, 1) := by decide +kernel
theorem D64_41 : decode Y4 41 = .ok (.ireturn, 1) := by decide +kernel
theorem D64_20 : decode Y4 20 = .ok (.iload_n 0, 1) := by decide +kernel
theorem D64_21 : decode Y4 21 = .ok (.bipush 90, 2) := by decide +kernel
theorem D64_23 : decode Y4 23 = .ok (.if_icmp .gt 5, 3) := by decide +kernel
theorem D64_26 : decode Y4 26 = .ok (.iconst 1, 1) := by decide +kernel
theorem D64_27 : decode Y4 27 = .ok (.ireturn, 1) := by decide +kernel
theorem D64_6 : decode Y4 6 = .ok (.iload_n 0, 1) := by decide +kernel
theorem D64_7 : decode Y4 7 = .ok (.bipush 122, 2) := by decide +kernel
theorem D64_9 : decode Y4 9 = .ok (.if_icmp .gt 5, 3) := by decide +kernel
theorem D64_12 : decode Y4 12 = .ok (.iconst 1, 1) := by decide +kernel
theorem D64_13 : decode Y4 13 = .ok (.ireturn, 1) := by decide +kernel
theorem D68_13 : decode Y0 13 = .ok (.ifCond .eq 10, 3) := by decide +kernel
theorem D68_23 : decode Y0 23 = .ok (.aload_n 0, 1) := by decide +kernel
theorem D68_24 : decode Y0 24 = .ok (.iload_n 1, 1) := by decide +kernel
theorem D68_25 : decode Y0 25 = .ok (.iload_n 3, 1) := by decide +kernel
theorem D68_26 : decode Y0 26 = .ok (.invokestatic 58, 3) := by decide +kernel
theorem D67_0 : decode Y22 0 = .ok (.aload_n 0, 1) := by decide +kernel
theorem D67_1 : decode Y22 1 = .ok (.iload_n 1, 1) := by decide +kernel
theorem D67_2 : decode Y22 2 = .ok (.bipush 37, 2) := by decide +kernel
theorem D67_4 : decode Y22 4 = .ok (.invokestatic 47, 3) := by decide +kernel
theorem D67_7 : decode Y22 7 = .ok (.istore_n 3, 1) := by decide +kernel
theorem D67_8 : decode Y22 8 = .ok (.aload_n 0, 1) := by decide +kernel
theorem D67_9 : decode Y22 9 = .ok (.iload_n 3, 1) := by decide +kernel
theorem D67_10 : decode Y22 10 = .ok (.iload_n 2, 1) := by decide +kernel
theorem D67_11 : decode Y22 11 = .ok (.iconst 4, 1) := by decide +kernel
theorem D67_12 : decode Y22 12 = .ok (.ishr, 1) := by decide +kernel
theorem D67_13 : decode Y22 13 = .ok (.bipush 15, 2) := by decide +kernel
theorem D67_15 : decode Y22 15 = .ok (.iand, 1) := by decide +kernel
theorem D67_16 : decode Y22 16 = .ok (.invokestatic 51, 3) := by decide +kernel
theorem D65_0 : decode Y17 0 = .ok (.iload_n 0, 1) := by decide +kernel
theorem D65_1 : decode Y17 1 = .ok (.bipush 10, 2) := by decide +kernel
theorem D65_3 : decode Y17 3 = .ok (.if_icmp .ge 9, 3) := by decide +kernel
theorem D65_6 : decode Y17 6 = .ok (.bipush 48, 2) := by decide +kernel
theorem D65_8 : decode Y17 8 = .ok (.iload_n 0, 1) := by decide +kernel
theorem D65_9 : decode Y17 9 = .ok (.iadd, 1) := by decide +kernel
theorem D65_10 : decode Y17 10 = .ok (.i2c, 1) := by decide +kernel
theorem D65_11 : decode Y17 11 = .ok (.ireturn, 1) := by decide +kernel
theorem D65_12 : decode Y17 12 = .ok (.bipush 65, 2) := by decide +kernel
theorem D65_14 : decode Y17 14 = .ok (.iload_n 0, 1) := by decide +kernel
theorem D65_15 : decode Y17 15 = .ok (.bipush 10, 2) := by decide +kernel
theorem D65_17 : decode Y17 17 = .ok (.isub, 1) := by decide +kernel
theorem D65_18 : decode Y17 18 = .ok (.iadd, 1) := by decide +kernel
theorem D65_19 : decode Y17 19 = .ok (.i2c, 1) := by decide +kernel
theorem D65_20 : decode Y17 20 = .ok (.ireturn, 1) := by decide +kernel
theorem D67_19 : decode Y22 19 = .ok (.invokestatic 47, 3) := by decide +kernel
theorem D67_22 : decode Y22 22 = .ok (.istore_n 3, 1) := by decide +kernel
theorem D67_23 : decode Y22 23 = .ok (.aload_n 0, 1) := by decide +kernel
theorem D67_24 : decode Y22 24 = .ok (.iload_n 3, 1) := by decide +kernel
theorem D67_25 : decode Y22 25 = .ok (.iload_n 2, 1) := by decide +kernel
theorem D67_26 : decode Y22 26 = .ok (.bipush 15, 2) := by decide +kernel
theorem D67_28 : decode Y22 28 = .ok (.iand, 1) := by decide +kernel
theorem D67_29 : decode Y22 29 = .ok (.invokestatic 51, 3) := by decide +kernel
theorem D67_32 : decode Y22 32 = .ok (.invokestatic 47, 3) := by decide +kernel
theorem D67_35 : decode Y22 35 = .ok (.ireturn, 1) := by decide +kernel
theorem D68_29 : decode Y0 29 = .ok (.ireturn, 1) := by decide +kernel
theorem D68_16 : decode Y0 16 = .ok (.aload_n 0, 1) := by decide +kernel
theorem D68_17 : decode Y0 17 = .ok (.iload_n 1, 1) := by decide +kernel
theorem D68_18 : decode Y0 18 = .ok (.iload_n 2, 1) := by decide +kernel
theorem D68_19 : decode Y0 19 = .ok (.invokestatic 47, 3) := by decide +kernel
theorem D68_22 : decode Y0 22 = .ok (.ireturn, 1) := by decide +kernel
theorem D68_30 : decode Y0 30 = .ok (.iload_n 3, 1) := by decide +kernel
theorem D68_31 : decode Y0 31 = .ok (.sipush 2048, 3) := by decide +kernel
theorem D68_34 : decode Y0 34 = .ok (.if_icmp .ge 33, 3) := by decide +kernel
theorem D68_37 : decode Y0 37 = .ok (.aload_n 0, 1) := by decide +kernel
theorem D68_38 : decode Y0 38 = .ok (.iload_n 1, 1) := by decide +kernel
theorem D68_39 : decode Y0 39 = .ok (.sipush 192, 3) := by decide +kernel
theorem D68_42 : decode Y0 42 = .ok (.iload_n 3, 1) := by decide +kernel
theorem D68_43 : decode Y0 43 = .ok (.bipush 6, 2) := by decide +kernel
theorem D68_45 : decode Y0 45 = .ok (.ishr, 1) := by decide +kernel
theorem D68_46 : decode Y0 46 = .ok (.ior, 1) := by decide +kernel
theorem D68_47 : decode Y0 47 = .ok (.invokestatic 58, 3) := by decide +kernel
theorem D68_50 : decode Y0 50 = .ok (.istore 4, 2) := by decide +kernel
theorem D68_52 : decode Y0 52 = .ok (.aload_n 0, 1) := by decide +kernel
theorem D68_53 : decode Y0 53 = .ok (.iload 4, 2) := by decide +kernel
theorem D68_55 : decode Y0 55 = .ok (.sipush 128, 3) := by decide +kernel
theorem D68_58 : decode Y0 58 = .ok (.iload_n 3, 1) := by decide +kernel
theorem D68_59 : decode Y0 59 = .ok (.bipush 63, 2) := by decide +kernel
theorem D68_61 : decode Y0 61 = .ok (.iand, 1) := by decide +kernel
theorem D68_62 : decode Y0 62 = .ok (.ior, 1) := by decide +kernel
theorem D68_63 : decode Y0 63 = .ok (.invokestatic 58, 3) := by decide +kernel
theorem D68_66 : decode Y0 66 = .ok (.ireturn, 1) := by decide +kernel
theorem D68_67 : decode Y0 67 = .ok (.aload_n 0, 1) := by decide +kernel
theorem D68_68 : decode Y0 68 = .ok (.iload_n 1, 1) := by decide +kernel
theorem D68_69 : decode Y0 69 = .ok (.sipush 224, 3) := by decide +kernel
theorem D68_72 : decode Y0 72 = .ok (.iload_n 3, 1) := by decide +kernel
theorem D68_73 : decode Y0 73 = .ok (.bipush 12, 2) := by decide +kernel
theorem D68_75 : decode Y0 75 = .ok (.ishr, 1) := by decide +kernel
theorem D68_76 : decode Y0 76 = .ok (.ior, 1) := by decide +kernel
theorem D68_77 : decode Y0 77 = .ok (.invokestatic 58, 3) := by decide +kernel
theorem D68_80 : decode Y0 80 = .ok (.istore 4, 2) := by decide +kernel
theorem D68_82 : decode Y0 82 = .ok (.aload_n 0, 1) := by decide +kernel
theorem D68_83 : decode Y0 83 = .ok (.iload 4, 2) := by decide +kernel
theorem D68_85 : decode Y0 85 = .ok (.sipush 128, 3) := by decide +kernel
theorem D68_88 : decode Y0 88 = .ok (.iload_n 3, 1) := by decide +kernel
theorem D68_89 : decode Y0 89 = .ok (.bipush 6, 2) := by decide +kernel
theorem D68_91 : decode Y0 91 = .ok (.ishr, 1) := by decide +kernel
theorem D68_92 : decode Y0 92 = .ok (.bipush 63, 2) := by decide +kernel
theorem D68_94 : decode Y0 94 = .ok (.iand, 1) := by decide +kernel
theorem D68_95 : decode Y0 95 = .ok (.ior, 1) := by decide +kernel
theorem D68_96 : decode Y0 96 = .ok (.invokestatic 58, 3) := by decide +kernel
theorem D68_99 : decode Y0 99 = .ok (.istore 4, 2) := by decide +kernel
theorem D68_101 : decode Y0 101 = .ok (.aload_n 0, 1) := by decide +kernel
theorem D68_102 : decode Y0 102 = .ok (.iload 4, 2) := by decide +kernel
theorem D68_104 : decode Y0 104 = .ok (.sipush 128, 3) := by decide +kernel
theorem D68_107 : decode Y0 107 = .ok (.iload_n 3, 1) := by decide +kernel
theorem D68_108 : decode Y0 108 = .ok (.bipush 63, 2) := by decide +kernel
theorem D68_110 : decode Y0 110 = .ok (.iand, 1) := by decide +kernel
theorem D68_111 : decode Y0 111 = .ok (.ior, 1) := by decide +kernel
theorem D68_112 : decode Y0 112 = .ok (.invokestatic 58, 3) := by decide +kernel
theorem D68_115 : decode Y0 115 = .ok (.ireturn, 1) := by decide +kernel
theorem D61_21 : decode Y8 21 = .ok (.istore 5, 2) := by decide +kernel
theorem D61_28 : decode Y8 28 = .ok (.aload_n 0, 1) := by decide +kernel
theorem D61_29 : decode Y8 29 = .ok (.iload 5, 2) := by decide +kernel
theorem D61_31 : decode Y8 31 = .ok (.iload 4, 2) := by decide +kernel
theorem D61_33 : decode Y8 33 = .ok (.invokestatic 62, 3) := by decide +kernel
theorem D61_36 : decode Y8 36 = .ok (.istore 5, 2) := by decide +kernel
theorem own_strl {Z : State} {h : Heap} {a t : Addr} {kb : ClassId} {bs cs : List Int32} (q : bs = cs) (S : Str Z h a t kb bs) : Str Z h a t kb cs := q ▸ S
theorem own_segc {Z : State} {h : Heap} {a t : Addr} {kb : ClassId} {bs cs : List Int32} (q : bs = cs) (S : StrU Z h a t kb cs) : StrU Z h a t kb bs := q ▸ S
theorem own_iA {x k k' : Int32} (h : k < x) (q : k'.toInt ≤ k.toInt + 1) : ¬ x < k' := by rw [Int32.lt_iff_toInt_lt] at *; omega
theorem own_iB {x k k' : Int32} (h : k < x) (q : k'.toInt ≤ k.toInt) : k' < x := by rw [Int32.lt_iff_toInt_lt] at *; omega
theorem own_iE {x k k' : Int32} (h : k < x) (q : k'.toInt ≤ k.toInt) : ¬ x = k' := fun e => by subst e; rw [Int32.lt_iff_toInt_lt] at h; omega
theorem own_iG {x k k' : Int32} (h : ¬ k < x) (q : k.toInt ≤ k'.toInt) : ¬ k' < x := by rw [Int32.lt_iff_toInt_lt] at *; omega
theorem own_iH {x k k' : Int32} (h : ¬ k < x) (q : k.toInt < k'.toInt) : x < k' := by rw [Int32.lt_iff_toInt_lt] at *; omega
theorem own_iI {x k k' : Int32} (h : ¬ k < x) (q : k.toInt < k'.toInt) : ¬ x = k' := fun e => by subst e; rw [Int32.lt_iff_toInt_lt] at h; omega
theorem own_iC {x k k' : Int32} (h : x < k) (q : k.toInt ≤ k'.toInt) : x < k' := by rw [Int32.lt_iff_toInt_lt] at *; omega
theorem own_iD {x k k' : Int32} (h : x < k) (q : k.toInt ≤ k'.toInt + 1) : ¬ k' < x := by rw [Int32.lt_iff_toInt_lt] at *; omega
theorem own_iF {x k k' : Int32} (h : x < k) (q : k.toInt ≤ k'.toInt) : ¬ x = k' := fun e => by subst e; rw [Int32.lt_iff_toInt_lt] at h; omega
theorem own_iJ {x k k' : Int32} (h : ¬ x < k) (q : k'.toInt ≤ k.toInt) : ¬ x < k' := by rw [Int32.lt_iff_toInt_lt] at *; omega
theorem own_iK {x k k' : Int32} (h : ¬ x < k) (q : k'.toInt < k.toInt) : k' < x := by rw [Int32.lt_iff_toInt_lt] at *; omega
theorem own_iL {x k k' : Int32} (h : ¬ x < k) (q : k'.toInt < k.toInt) : ¬ x = k' := fun e => by subst e; rw [Int32.lt_iff_toInt_lt] at h; omega
theorem own_u8n {x : Int32} (h : ¬ x < 0 ∧ ¬ (255 : Int32) < x) : ∃ n : Fin 256, x = Int32.ofNat n := by
 obtain ⟨h1, h2⟩ := h
 rw [Int32.lt_iff_toInt_lt] at h1 h2
 have e0 : (0 : Int32).toInt = 0 := rfl
 have e1 : (255 : Int32).toInt = 255 := rfl
 refine ⟨⟨x.toInt.toNat, by omega⟩, ?_⟩
 apply Int32.toInt_inj.mp
 show x.toInt = (Int32.ofNat x.toInt.toNat).toInt
 rw [own_tiN (by omega)]; omega
theorem own_all {P : Int32 → Prop} (h : ∀ n : Fin 256, P (Int32.ofNat n)) {x : Int32} (hx : ¬ x < 0 ∧ ¬ (255 : Int32) < x) : P x := by
 obtain ⟨n, rfl⟩ := own_u8n hx; exact h n
abbrev Unr (c : Int32) : Prop := (¬ c < 97 ∧ ¬ 122 < c) ∨ (¬ c < 65 ∧ ¬ 90 < c) ∨ (¬ c < 48 ∧ ¬ 57 < c) ∨ c = 45 ∨ c = 46 ∨ c = 95 ∨ c = 126
def unrB (c : Int32) : Int32 := if Unr c then 1 else 0
def hexD (d : Int32) : Int32 := if d < 10 then 48 + d else 65 + (d - 10)
def pct (b : Int32) : List Int32 := [37, hexD ((b >>> ((4 : Int32) &&& 31)) &&& 15), hexD (b &&& 15)]
def encB (b : Int32) : List Int32 := if Unr b then [b] else pct b
def encU (c : Int32) : List Int32 := if c < 128 then encB c else if c < 2048 then pct (192 ||| (c >>> ((6 : Int32) &&& 31))) ++ pct (128 ||| (c &&& 63)) else pct (224 ||| (c >>> ((12 : Int32) &&& 31))) ++ (pct (128 ||| ((c >>> ((6 : Int32) &&& 31)) &&& 63)) ++ pct (128 ||| (c &&& 63)))
def encS (cs : List Int32) : List Int32 := cs.flatMap encU
def encBs (bs : List Int32) : List Int32 := bs.flatMap encB
def segOf (l a b : Int32) : List Int32 := if l = 0 then [] else if l = 1 then [a] else [a, b]
def tlS (l b : Int32) : List Int32 := if l = 1 then [] else encU b
theorem own_pctl (b : Int32) : (pct b).length = 3 := rfl
theorem own_andr (x m : Int32) (k : Nat) (hm : m.toBitVec.toNat = k) (hk : k < 2 ^ 31) : 0 ≤ (x &&& m).toInt ∧ (x &&& m).toInt ≤ k := by
 have h : (x &&& m).toBitVec.toNat ≤ k := by
  simp only [Int32.toBitVec_and, BitVec.toNat_and]
  exact hm ▸ Nat.and_le_right
 have h2 : (x &&& m).toInt = ((x &&& m).toBitVec.toNat : Int) := by
  show (x &&& m).toBitVec.toInt = _
  rw [BitVec.toInt_eq_toNat_of_lt (by omega)]
 omega
theorem own_and65535 (x : Int32) : ¬ (x &&& 65535) < 0 ∧ ¬ (65535 : Int32) < (x &&& 65535) := by
 have := own_andr x 65535 65535 rfl (by decide)
 rw [Int32.lt_iff_toInt_lt, Int32.lt_iff_toInt_lt]
 have e0 : (0 : Int32).toInt = 0 := rfl
 have e1 : (65535 : Int32).toInt = 65535 := rfl
 omega
theorem own_and127 (x : Int32) : ¬ (x &&& 127) < 0 ∧ ¬ (65535 : Int32) < (x &&& 127) := by
 have := own_andr x 127 127 rfl (by decide)
 rw [Int32.lt_iff_toInt_lt, Int32.lt_iff_toInt_lt]
 have e0 : (0 : Int32).toInt = 0 := rfl
 have e1 : (65535 : Int32).toInt = 65535 := rfl
 omega
theorem own_and15 (x : Int32) : ¬ (x &&& 15) < 0 ∧ ¬ (15 : Int32) < (x &&& 15) := by
 have := own_andr x 15 15 rfl (by decide)
 rw [Int32.lt_iff_toInt_lt, Int32.lt_iff_toInt_lt]
 have e0 : (0 : Int32).toInt = 0 := rfl
 have e1 : (15 : Int32).toInt = 15 := rfl
 omega
theorem own_and63 (x : Int32) : ¬ (x &&& 63) < 0 ∧ ¬ (63 : Int32) < (x &&& 63) := by
 have := own_andr x 63 63 rfl (by decide)
 rw [Int32.lt_iff_toInt_lt, Int32.lt_iff_toInt_lt]
 have e0 : (0 : Int32).toInt = 0 := rfl
 have e1 : (63 : Int32).toInt = 63 := rfl
 omega
theorem own_wide {x k : Int32} (h : ¬ x < 0 ∧ ¬ k < x) (hk : ¬ (255 : Int32) < k) : ¬ x < 0 ∧ ¬ (255 : Int32) < x := by
 obtain ⟨h1, h2⟩ := h
 refine ⟨h1, ?_⟩
 rw [Int32.lt_iff_toInt_lt] at *
 omega
theorem own_xor {x : Int32} (h1 : ¬ x < 55296) (h2 : ¬ (57343 : Int32) < x) : (¬ (x ^^^ 8192) < 0 ∧ ¬ (65535 : Int32) < (x ^^^ 8192)) ∧ ¬ (x ^^^ 8192) < 57344 := by
 rw [Int32.lt_iff_toInt_lt] at h1 h2
 have e0 : (55296 : Int32).toInt = 55296 := rfl
 have e1 : (57343 : Int32).toInt = 57343 := rfl
 have e2 : x = Int32.ofNat (55296 + (x.toInt.toNat - 55296)) := by
  apply Int32.toInt_inj.mp
  rw [own_tiN (by omega)]; omega
 have key : ∀ n : Fin 2048, (¬ (Int32.ofNat (55296 + n) ^^^ 8192) < 0 ∧ ¬ (65535 : Int32) < (Int32.ofNat (55296 + n) ^^^ 8192)) ∧ ¬ (Int32.ofNat (55296 + n) ^^^ 8192) < 57344 := by decide +kernel
 rw [e2]; exact key ⟨x.toInt.toNat - 55296, by omega⟩
theorem own_gt57 {x : Int32} (h : (57343 : Int32) < x) : ¬ x < 57344 := by
 rw [Int32.lt_iff_toInt_lt] at *
 have e0 : (57344 : Int32).toInt = 57344 := rfl
 have e1 : (57343 : Int32).toInt = 57343 := rfl
 omega
theorem own_lt12 {x : Int32} (h : x < 1) : x < 2 := by
 rw [Int32.lt_iff_toInt_lt] at *
 have e1 : (1 : Int32).toInt = 1 := rfl
 have e2 : (2 : Int32).toInt = 2 := rfl
 omega
theorem own_unr1 {x : Int32} (h : Unr x) : unrB x = 1 := if_pos h
theorem own_unr0 {x : Int32} (h : ¬ Unr x) : unrB x = 0 := if_neg h
theorem own_unrb (x : Int32) : unrB x = 0 ∨ unrB x = 1 := by
  by_cases h : Unr x
  · exact Or.inr (if_pos h)
  · exact Or.inl (if_neg h)
theorem own_unrT {x : Int32} (c : ¬ unrB x = 0) : Unr x := by
  by_cases h : Unr x
  · exact h
  · exact absurd (if_neg h) c
theorem own_unrF {x : Int32} (c : unrB x = 0) : ¬ Unr x := fun h => by rw [own_unr1 h] at c; exact absurd c (by decide)
theorem own_unri {x : Int32} (h : Unr x) : 45 ≤ x.toInt ∧ x.toInt ≤ 126 := by
  unfold Unr at h
  simp only [Int32.lt_iff_toInt_lt] at h
  have e1 : (97 : Int32).toInt = 97 := rfl
  have e2 : (122 : Int32).toInt = 122 := rfl
  have e3 : (65 : Int32).toInt = 65 := rfl
  have e4 : (90 : Int32).toInt = 90 := rfl
  have e5 : (48 : Int32).toInt = 48 := rfl
  have e6 : (57 : Int32).toInt = 57 := rfl
  rcases h with h | h | h | h | h | h | h
  · omega
  · omega
  · omega
  · rw [h]; decide
  · rw [h]; decide
  · rw [h]; decide
  · rw [h]; decide
theorem own_tl {x k : Int32} (c : x < k) : x.toInt < k.toInt := Int32.lt_iff_toInt_lt.mp c
theorem own_tn {x k : Int32} (c : ¬ x < k) : ¬ x.toInt < k.toInt := fun q => c (Int32.lt_iff_toInt_lt.mpr q)
theorem own_te {x k : Int32} (c : x = k) : x.toInt = k.toInt := congrArg Int32.toInt c
theorem own_tf {x k : Int32} (c : ¬ x = k) : ¬ x.toInt = k.toInt := fun q => c (Int32.toInt_inj.mp q)
def UnI (i : Int) : Prop := (97 ≤ i ∧ i ≤ 122) ∨ (65 ≤ i ∧ i ≤ 90) ∨ (48 ≤ i ∧ i ≤ 57) ∨ i = 45 ∨ i = 46 ∨ i = 95 ∨ i = 126
theorem own_uni {x : Int32} : Unr x ↔ UnI x.toInt := by
 have e1 : (97 : Int32).toInt = 97 := rfl
 have e2 : (122 : Int32).toInt = 122 := rfl
 have e3 : (65 : Int32).toInt = 65 := rfl
 have e4 : (90 : Int32).toInt = 90 := rfl
 have e5 : (48 : Int32).toInt = 48 := rfl
 have e6 : (57 : Int32).toInt = 57 := rfl
 have f1 : (45 : Int32).toInt = 45 := rfl
 have f2 : (46 : Int32).toInt = 46 := rfl
 have f3 : (95 : Int32).toInt = 95 := rfl
 have f4 : (126 : Int32).toInt = 126 := rfl
 unfold Unr UnI
 rw [Int32.lt_iff_toInt_lt, Int32.lt_iff_toInt_lt, Int32.lt_iff_toInt_lt, Int32.lt_iff_toInt_lt, Int32.lt_iff_toInt_lt, Int32.lt_iff_toInt_lt, ← Int32.toInt_inj, ← Int32.toInt_inj, ← Int32.toInt_inj, ← Int32.toInt_inj]
 omega
theorem own_v1 {x : Int32} (h : (97 ≤ x.toInt ∧ x.toInt ≤ 122) ∨ (65 ≤ x.toInt ∧ x.toInt ≤ 90) ∨ (48 ≤ x.toInt ∧ x.toInt ≤ 57) ∨ x.toInt = 45 ∨ x.toInt = 46 ∨ x.toInt = 95 ∨ x.toInt = 126) : unrB x = 1 := own_unr1 (own_uni.mpr h)
theorem own_v0 {x : Int32} (h : ¬ ((97 ≤ x.toInt ∧ x.toInt ≤ 122) ∨ (65 ≤ x.toInt ∧ x.toInt ≤ 90) ∨ (48 ≤ x.toInt ∧ x.toInt ≤ 57) ∨ x.toInt = 45 ∨ x.toInt = 46 ∨ x.toInt = 95 ∨ x.toInt = 126)) : unrB x = 0 := own_unr0 (fun q => h (own_uni.mp q))
theorem own_unr8 {x : Int32} (c : ¬ unrB x = 0) : ¬ x < 0 ∧ ¬ (255 : Int32) < x := by
 have := own_unri (own_unrT c)
 rw [Int32.lt_iff_toInt_lt, Int32.lt_iff_toInt_lt]
 have e0 : (0 : Int32).toInt = 0 := rfl
 have e1 : (255 : Int32).toInt = 255 := rfl
 omega
theorem own_unrhi {x : Int32} (c : (255 : Int32) < x) : unrB x = 0 := by
  by_cases h : unrB x = 0
  · exact h
  · exact absurd c (own_unr8 h).2
theorem own_or255 {x y : Int32} (o : ¬ (255 : Int32) < x → (255 : Int32) < y) (c : ¬ unrB x = 0) : unrB y = 0 := own_unrhi (o (own_unr8 c).2)
theorem own_hexr {d : Int32} (h : ¬ d < 0 ∧ ¬ (15 : Int32) < d) : ¬ hexD d < 0 ∧ ¬ (255 : Int32) < hexD d := own_all (P := fun d => ¬ (15 : Int32) < d → ¬ hexD d < 0 ∧ ¬ (255 : Int32) < hexD d) (by decide +kernel) (own_wide h (by decide)) h.2
theorem own_hexj {d : Int32} (h : ¬ d < 0 ∧ ¬ (15 : Int32) < d) : ¬ d < 0 ∧ d < 16 := by
 refine ⟨h.1, ?_⟩
 have := h.2
 rw [Int32.lt_iff_toInt_lt] at *
 have e1 : (15 : Int32).toInt = 15 := rfl
 have e2 : (16 : Int32).toInt = 16 := rfl
 omega
theorem own_pctr (b : Int32) : ∀ c ∈ pct b, ¬ c < 0 ∧ ¬ (255 : Int32) < c := fun c hc => by
  rcases List.mem_cons.mp hc with rfl | hc
  · decide
  · rcases List.mem_cons.mp hc with rfl | hc
    · exact own_hexr (own_and15 _)
    · rw [List.mem_singleton.mp hc]; exact own_hexr (own_and15 _)
theorem own_encbr (b : Int32) : ∀ c ∈ encB b, ¬ c < 0 ∧ ¬ (255 : Int32) < c := by
  unfold encB
  by_cases h : Unr b
  · rw [if_pos h]; intro c hc; rw [List.mem_singleton.mp hc]; exact own_unr8 (fun q => absurd h (own_unrF q))
  · rw [if_neg h]; exact own_pctr b
theorem own_encur (x : Int32) : ∀ c ∈ encU x, ¬ c < 0 ∧ ¬ (255 : Int32) < c := by
  unfold encU
  by_cases h : x < 128
  · rw [if_pos h]; exact own_encbr x
  · rw [if_neg h]
    by_cases h2 : x < 2048
    · rw [if_pos h2]; exact own_rapp (own_pctr _) (own_pctr _)
    · rw [if_neg h2]; exact own_rapp (own_pctr _) (own_rapp (own_pctr _) (own_pctr _))
theorem own_encsr (cs : List Int32) : ∀ c ∈ encS cs, ¬ c < 0 ∧ ¬ (255 : Int32) < c := fun c hc => by
 obtain ⟨x, -, h⟩ := List.mem_flatMap.mp hc
 exact own_encur x c h
theorem own_encl (b : Int32) : (encB b).length ≤ 3 := by
  unfold encB
  by_cases h : Unr b
  · rw [if_pos h]; exact Nat.le_of_ble_eq_true rfl
  · rw [if_neg h]; exact Nat.le_refl 3
theorem own_encul (x : Int32) : (encU x).length ≤ 9 := by
  unfold encU
  by_cases h : x < 128
  · rw [if_pos h]; exact Nat.le_trans (own_encl x) (by decide)
  · rw [if_neg h]
    by_cases h2 : x < 2048
    · rw [if_pos h2]; exact Nat.le_of_ble_eq_true rfl
    · rw [if_neg h2]; exact Nat.le_refl 9
theorem own_e0 : encS [] = [] := rfl
theorem own_e1 (x : Int32) : encS [x] = encU x := by simp [encS]
theorem own_e2 (x y : Int32) : encS [x, y] = encU x ++ encU y := by simp [encS]
theorem own_encsl {cs : List Int32} (h : cs.length ≤ 2) : (encS cs).length ≤ 18 := by
  rcases own_l2 h with rfl | ⟨x, rfl⟩ | ⟨x, y, rfl⟩
  · decide
  · rw [own_e1]; exact Nat.le_trans (own_encul x) (by decide)
  · rw [own_e2, List.length_append]; have := own_encul x; have := own_encul y; omega
theorem own_sgl (l a b : Int32) : (segOf l a b).length ≤ 2 := by
  unfold segOf
  by_cases h : l = 0
  · rw [if_pos h]; decide
  · rw [if_neg h]
    by_cases h2 : l = 1
    · rw [if_pos h2]; exact Nat.le_of_ble_eq_true rfl
    · rw [if_neg h2]; exact Nat.le_refl 2
theorem own_encsg (l a b : Int32) : (encS (segOf l a b)).length ≤ 18 := own_encsl (own_sgl l a b)
theorem own_g0 {l a b : Int32} (h : l = 0) : segOf l a b = [] := if_pos h
theorem own_g1 {l a b : Int32} (h : ¬ l = 0) (h1 : l = 1) : segOf l a b = [a] := (if_neg h).trans (if_pos h1)
theorem own_g2 {l a b : Int32} (h : ¬ l = 0) (h1 : ¬ l = 1) : segOf l a b = [a, b] := (if_neg h).trans (if_neg h1)
theorem own_t0 {l : Int32} (t : l = 0 ∨ l = 1 ∨ l = 2) (c : l < 1) : l = 0 := by
  rcases t with rfl | rfl | rfl
  · rfl
  · exact absurd c (by decide)
  · exact absurd c (by decide)
theorem own_y0 {l a b : Int32} (t : l = 0 ∨ l = 1 ∨ l = 2) (c : l < 1) : encS (segOf l a b) = [] := by rw [own_g0 (own_t0 t c)]; rfl
theorem own_y1 {l a b : Int32} (t : l = 0 ∨ l = 1 ∨ l = 2) (c : ¬ l < 1) : encS (segOf l a b) = encU a ++ tlS l b := by
  have h0 : ¬ l = 0 := fun q => c (by rw [q]; decide)
  unfold tlS
  by_cases h1 : l = 1
  · rw [own_g1 h0 h1, own_e1, if_pos h1, List.append_nil]
  · rw [own_g2 h0 h1, own_e2, if_neg h1]
theorem own_z0 {l b : Int32} (t : l = 0 ∨ l = 1 ∨ l = 2) (c1 : ¬ l < 1) (c : l < 2) : tlS l b = [] := by
  rcases t with rfl | rfl | rfl
  · exact absurd (by decide) c1
  · rfl
  · exact absurd c (by decide)
theorem own_z1 {l b : Int32} (c : ¬ l < 2) : tlS l b = encU b := if_neg (fun q => c (by rw [q]; decide))
theorem own_x1 {x : Int32} (h : x < 128) (c : ¬ unrB x = 0) : encU x = [x] := (if_pos h).trans (if_pos (own_unrT c))
theorem own_x2 {x : Int32} (h : x < 128) (c : unrB x = 0) : encU x = pct x := (if_pos h).trans (if_neg (own_unrF c))
theorem own_x3 {x : Int32} (h : ¬ x < 128) (h2 : x < 2048) : encU x = pct (192 ||| (x >>> ((6 : Int32) &&& 31))) ++ pct (128 ||| (x &&& 63)) := (if_neg h).trans (if_pos h2)
theorem own_x4 {x : Int32} (h : ¬ x < 128) (h2 : ¬ x < 2048) : encU x = (pct (224 ||| (x >>> ((12 : Int32) &&& 31))) ++ pct (128 ||| ((x >>> ((6 : Int32) &&& 31)) &&& 63))) ++ pct (128 ||| (x &&& 63)) := ((if_neg h).trans (if_neg h2)).trans (List.append_assoc _ _ _).symm
theorem own_encu {b : Int32} {X : List Int32} (c : ¬ unrB b = 0) : X ++ [b] = X ++ encB b := by unfold encB; rw [if_pos (own_unrT c)]
theorem own_encp {b : Int32} {X : List Int32} (c : unrB b = 0) : ((X ++ [37]) ++ [hexD ((b >>> ((4 : Int32) &&& 31)) &&& 15)]) ++ [hexD (b &&& 15)] = X ++ encB b := by
 unfold encB; rw [if_neg (own_unrF c)]; simp [pct]
theorem own_pct8 {x : Int32} (hx : ¬ x < 0 ∧ ¬ (255 : Int32) < x) : pct x.toInt8.toInt32 = pct x := own_all (P := fun x => pct x.toInt8.toInt32 = pct x) (by decide +kernel) hx
theorem own_hi8 {x : Int32} (hx : ¬ x < 0 ∧ ¬ (255 : Int32) < x) (h : ¬ x < 128) : ¬ Unr x.toInt8.toInt32 := own_all (P := fun x => ¬ x < 128 → ¬ Unr x.toInt8.toInt32) (by decide +kernel) hx h
theorem own_encHi {x : Int32} (hx : ¬ x < 0 ∧ ¬ (255 : Int32) < x) (h : ¬ x < 128) : encB x.toInt8.toInt32 = pct x := by
 unfold encB; rw [if_neg (own_hi8 hx h), own_pct8 hx]
theorem own_k1 {x : Int32} (c : ¬ unrB x = 0) : encU x = [x] := by
 refine own_x1 ?_ c
 have := own_unri (own_unrT c)
 rw [Int32.lt_iff_toInt_lt]
 have e1 : (128 : Int32).toInt = 128 := rfl
 omega
theorem own_k2 {x : Int32} (hx : ¬ x < 0 ∧ ¬ (255 : Int32) < x) (c : ¬ x.toInt8.toInt32 < 0) : encU x = encB x.toInt8.toInt32 := own_all (P := fun x => ¬ x.toInt8.toInt32 < 0 → encU x = encB x.toInt8.toInt32) (by decide +kernel) hx c
theorem own_k3 {x : Int32} (hx : ¬ x < 0 ∧ ¬ (255 : Int32) < x) (c : x.toInt8.toInt32 < 0) : encU x = encB ((192 ||| (x >>> ((6 : Int32) &&& 31))).toInt8.toInt32) ++ encB ((128 ||| (x.toInt8.toInt32 &&& 63)).toInt8.toInt32) := own_all (P := fun x => x.toInt8.toInt32 < 0 → encU x = encB ((192 ||| (x >>> ((6 : Int32) &&& 31))).toInt8.toInt32) ++ encB ((128 ||| (x.toInt8.toInt32 &&& 63)).toInt8.toInt32)) (by decide +kernel) hx c
theorem own_lt255 {x : Int32} (hx : ¬ x < 0 ∧ ¬ (65535 : Int32) < x) (c : x < 128) : ¬ x < 0 ∧ ¬ (255 : Int32) < x := by
 refine ⟨hx.1, ?_⟩
 rw [Int32.lt_iff_toInt_lt] at *
 have e1 : (128 : Int32).toInt = 128 := rfl
 have e2 : (255 : Int32).toInt = 255 := rfl
 omega
theorem own_k4 {x : Int32} (hx : ¬ x < 0 ∧ ¬ (65535 : Int32) < x) (c : x < 128) : encU x = encB x.toInt8.toInt32 := own_all (P := fun x => x < 128 → encU x = encB x.toInt8.toInt32) (by decide +kernel) (own_lt255 hx c) c
theorem own_or128 (y : Int32) : (¬ (128 ||| (y &&& 63)) < 0 ∧ ¬ (255 : Int32) < (128 ||| (y &&& 63))) ∧ ¬ (128 ||| (y &&& 63)) < 128 := by
 have h := own_and63 y
 generalize (y &&& 63) = z at h
 exact own_all (P := fun z => ¬ (63 : Int32) < z → (¬ (128 ||| z) < 0 ∧ ¬ (255 : Int32) < (128 ||| z)) ∧ ¬ (128 ||| z) < 128) (by decide +kernel) (own_wide h (by decide)) h.2
theorem own_shi {x : Int32} (n : Nat) (hn : n < 32) : (x >>> ((Int32.ofNat n) &&& 31)).toInt = x.toInt >>> n := by
 have key : ∀ m : Fin 32, (((Int32.ofNat m) &&& 31).toBitVec.smod 32).toNat = m := by decide +kernel
 show (x >>> ((Int32.ofNat n) &&& 31)).toBitVec.toInt = _
 rw [Int32.toBitVec_shiftRight, BitVec.sshiftRight', key ⟨n, hn⟩, BitVec.toInt_sshiftRight]; rfl
theorem own_sh6 {x : Int32} (hx : ¬ x < 0 ∧ ¬ (65535 : Int32) < x) (c : x < 2048) : ¬ (x >>> ((6 : Int32) &&& 31)) < 0 ∧ ¬ (31 : Int32) < (x >>> ((6 : Int32) &&& 31)) := by
 have h := own_shi (x := x) 6 (by decide)
 have e : (Int32.ofNat 6) = (6 : Int32) := rfl
 rw [e] at h
 obtain ⟨h1, h2⟩ := hx
 rw [Int32.lt_iff_toInt_lt] at *
 rw [Int32.lt_iff_toInt_lt, h, Int.shiftRight_eq_div_pow]
 have e0 : (0 : Int32).toInt = 0 := rfl
 have e1 : (2048 : Int32).toInt = 2048 := rfl
 have e2 : (31 : Int32).toInt = 31 := rfl
 omega
theorem own_sh12 {x : Int32} (hx : ¬ x < 0 ∧ ¬ (65535 : Int32) < x) : ¬ (x >>> ((12 : Int32) &&& 31)) < 0 ∧ ¬ (15 : Int32) < (x >>> ((12 : Int32) &&& 31)) := by
 have h := own_shi (x := x) 12 (by decide)
 have e : (Int32.ofNat 12) = (12 : Int32) := rfl
 rw [e] at h
 obtain ⟨h1, h2⟩ := hx
 rw [Int32.lt_iff_toInt_lt] at *
 rw [Int32.lt_iff_toInt_lt, h, Int.shiftRight_eq_div_pow]
 have e0 : (0 : Int32).toInt = 0 := rfl
 have e1 : (65535 : Int32).toInt = 65535 := rfl
 have e2 : (15 : Int32).toInt = 15 := rfl
 omega
theorem own_k5 {x : Int32} (hx : ¬ x < 0 ∧ ¬ (65535 : Int32) < x) (c1 : ¬ x < 128) (c : x < 2048) : encU x = encB ((192 ||| (x >>> ((6 : Int32) &&& 31))).toInt8.toInt32) ++ encB ((128 ||| (x &&& 63)).toInt8.toInt32) := by
 have h := own_sh6 hx c
 rw [own_x3 c1 c, own_encHi (own_or128 x).1 (own_or128 x).2]
 generalize (x >>> ((6 : Int32) &&& 31)) = z at h
 have k := own_all (P := fun z => ¬ (31 : Int32) < z → (¬ (192 ||| z) < 0 ∧ ¬ (255 : Int32) < (192 ||| z)) ∧ ¬ (192 ||| z) < 128) (by decide +kernel) (own_wide h (by decide)) h.2
 rw [own_encHi k.1 k.2]
theorem own_k6 {x : Int32} (hx : ¬ x < 0 ∧ ¬ (65535 : Int32) < x) (c1 : ¬ x < 128) (c : ¬ x < 2048) : encU x = encB ((224 ||| (x >>> ((12 : Int32) &&& 31))).toInt8.toInt32) ++ (encB ((128 ||| ((x >>> ((6 : Int32) &&& 31)) &&& 63)).toInt8.toInt32) ++ encB ((128 ||| (x &&& 63)).toInt8.toInt32)) := by
 have h := own_sh12 hx
 rw [own_x4 c1 c, own_encHi (own_or128 x).1 (own_or128 x).2, own_encHi (own_or128 _).1 (own_or128 _).2]
 generalize (x >>> ((12 : Int32) &&& 31)) = z at h
 have k := own_all (P := fun z => ¬ (15 : Int32) < z → (¬ (224 ||| z) < 0 ∧ ¬ (255 : Int32) < (224 ||| z)) ∧ ¬ (224 ||| z) < 128) (by decide +kernel) (own_wide h (by decide)) h.2
 rw [own_encHi k.1 k.2, List.append_assoc]
theorem own_hex0 {d : Int32} (c : d < 10) (h : ¬ d < 0 ∧ ¬ (15 : Int32) < d) : ((48 : Int32) + d).toUInt32.toUInt16.toUInt32.toInt32 = hexD d := own_all (P := fun d => ¬ (15 : Int32) < d → d < 10 → ((48 : Int32) + d).toUInt32.toUInt16.toUInt32.toInt32 = hexD d) (by decide +kernel) (own_wide h (by decide)) h.2 c
theorem own_hex1 {d : Int32} (c : ¬ d < 10) (h : ¬ d < 0 ∧ ¬ (15 : Int32) < d) : ((65 : Int32) + (d - 10)).toUInt32.toUInt16.toUInt32.toInt32 = hexD d := own_all (P := fun d => ¬ (15 : Int32) < d → ¬ d < 10 → ((65 : Int32) + (d - 10)).toUInt32.toUInt16.toUInt32.toInt32 = hexD d) (by decide +kernel) (own_wide h (by decide)) h.2 c
theorem own_t3 (y : Int32) : (y &&& 3) % 3 = 0 ∨ (y &&& 3) % 3 = 1 ∨ (y &&& 3) % 3 = 2 := by
 have h := own_andr y 3 3 rfl (by decide)
 have e2 : (y &&& 3) = Int32.ofNat (y &&& 3).toInt.toNat := by
  apply Int32.toInt_inj.mp
  rw [own_tiN (by omega)]; omega
 have key : ∀ n : Fin 4, (Int32.ofNat n) % 3 = 0 ∨ (Int32.ofNat n) % 3 = 1 ∨ (Int32.ofNat n) % 3 = 2 := by decide
 rw [e2]; exact key ⟨(y &&& 3).toInt.toNat, by omega⟩
theorem own_rec {x : Int32} (h : ¬ x < 0 ∧ ¬ (65535 : Int32) < x) : (((x.toInt8.toInt32 &&& 255) <<< ((0 : Int32) &&& 31)) ||| (((x >>> ((8 : Int32) &&& 31)).toInt8.toInt32 &&& 255) <<< ((8 : Int32) &&& 31))) = x := by
  rw [own_b255, own_b255]
  obtain ⟨h1, h2⟩ := h
  rw [Int32.lt_iff_toInt_lt] at h1 h2
  have e0 : (0 : Int32).toInt = 0 := rfl
  have e1 : (65535 : Int32).toInt = 65535 := rfl
  have hb : x.toBitVec.toNat < 65536 := by
    have := x.toBitVec.toInt_eq_toNat_cond
    have e : x.toInt = x.toBitVec.toInt := rfl
    split at this <;> omega
  apply Int32.toBitVec_inj.mp
  have z0 : ((0 : Int32) &&& 31) = 0 := by decide
  have z8 : ((8 : Int32) &&& 31) = 8 := by decide
  have a0 : (Int32.toBitVec 0).smod 32 = 0#32 := by decide
  have a8 : (Int32.toBitVec 8).smod 32 = 8#32 := by decide
  have c255 : Int32.toBitVec 255 = 255#32 := rfl
  rw [z0, z8, Int32.toBitVec_or, Int32.toBitVec_shiftLeft, Int32.toBitVec_shiftLeft, Int32.toBitVec_and, Int32.toBitVec_and, Int32.toBitVec_shiftRight, a0, a8, c255]
  generalize x.toBitVec = v at hb
  have hv : ∀ j, 16 ≤ j → v.getLsbD j = false := fun j hj => by
    rw [BitVec.getLsbD]
    exact Nat.testBit_lt_two_pow (Nat.lt_of_lt_of_le hb (Nat.pow_le_pow_right (n := 2) (by decide) hj))
  ext i hi
  have n8 : (8#32).toNat = 8 := rfl
  have n0 : (0#32).toNat = 0 := rfl
  simp only [BitVec.getElem_or, BitVec.getElem_and, BitVec.shiftLeft_eq', BitVec.getElem_shiftLeft, BitVec.sshiftRight', n8, n0, BitVec.shiftLeft_zero]
  rw [show (255#32)[i] = decide (i < 8) from own_255 ⟨i, hi⟩]
  have hm : v.msb = false := by
    rw [BitVec.msb_eq_getLsbD_last]; exact hv _ (by decide)
  by_cases q : i < 8
  · simp [q]
  · have h32 : i - 8 < 32 := by omega
    have k2 : (255#32)[i - 8] = decide (i - 8 < 8) := own_255 ⟨i - 8, h32⟩
    have k3 : (v.sshiftRight 8)[i - 8] = v.getLsbD i := by
      rw [← BitVec.getLsbD_eq_getElem, BitVec.getLsbD_sshiftRight, hm]
      have e8 : 8 + (i - 8) = i := by omega
      simp [e8, hi]
      omega
    have k4 : v[i] = v.getLsbD i := (BitVec.getLsbD_eq_getElem hi).symm
    simp only [q, k2, k3, k4, decide_false, Bool.and_false, Bool.false_or, Bool.not_false, Bool.true_and]
    by_cases q2 : i < 16
    · have : i - 8 < 8 := by omega
      simp [this]
    · rw [hv i (by omega)]; simp
theorem own_rec0 {x : Int32} (h : ¬ x < 0 ∧ ¬ (65535 : Int32) < x) : ((x.toInt8.toInt32 &&& 255) ||| (((x >>> ((8 : Int32) &&& 31)).toInt8.toInt32 &&& 255) <<< ((8 : Int32) &&& 31))) = x := by
 have := own_rec h
 rwa [own_shl0] at this
theorem own_rec1 {x : Int32} (h : ¬ x < 0 ∧ ¬ (255 : Int32) < x) : (x ||| (((x >>> ((8 : Int32) &&& 31)).toInt8.toInt32 &&& 255) <<< ((8 : Int32) &&& 31))) = x := by
 have := own_rec0 (own_u16 h)
 rwa [own_b8and h] at this
theorem own_vn {a b : Nat} (q : a = b) : some (Value.int (Int32.ofNat a)) = some (Value.int (Int32.ofNat b)) := q ▸ rfl
theorem own_getf {pre post : List Int32} {x : Int32} {d : Value} {n : Nat} (h : n = pre.length) : ((pre ++ ([x] ++ post)).map b8).getD n d = b8 x := by
 subst h; simp [List.getD_eq_getElem?_getD]
theorem own_gm (o : Option Int32) : (o.map Value.int).getD (Value.int 0) = Value.int (o.getD 0) := by cases o <;> rfl
theorem own_hexv {d : Int32} (h : ¬ d < 0 ∧ ¬ (15 : Int32) < d) : ([.int 48, .int 49, .int 50, .int 51, .int 52, .int 53, .int 54, .int 55, .int 56, .int 57, .int 65, .int 66, .int 67, .int 68, .int 69, .int 70] : List Value).getD d.toNatClampNeg (.int 0) = .int (hexD d) := by
 show (([48, 49, 50, 51, 52, 53, 54, 55, 56, 57, 65, 66, 67, 68, 69, 70] : List Int32).map Value.int).getD d.toNatClampNeg (Value.int 0) = _
 rw [List.getD_eq_getElem?_getD, List.getElem?_map, own_gm, ← List.getD_eq_getElem?_getD]
 exact congrArg Value.int (own_all (P := fun d => ¬ (15 : Int32) < d → ([48, 49, 50, 51, 52, 53, 54, 55, 56, 57, 65, 66, 67, 68, 69, 70] : List Int32).getD d.toNatClampNeg 0 = hexD d) (by decide +kernel) (own_wide h (by decide)) h.2)
theorem own_hexel {Z : State} {args : Array Value} {C n d : String} {x : Addr} {cl : Cell} (ev : (Term.static C n d).eval args Z none [] Z = some (.ref x)) (A : Arr Z Z.heap x cl .char) (sz : cl.slots.size < 2 ^ 31) (ln : cl.slots.size.toInt32 = 16) (h1 : (Cond.all (Term.static C n d) (Cond.or (Cond.le (Term.int 10) (Term.index 0)) (Cond.eq (Term.op1 Unary.i2l (Term.elem (Term.static C n d) (Term.index 0))) (Term.op2 Binary.ladd (Term.op1 Unary.i2l (Term.index 0)) (Term.long 48))))).value args Z none Z [] = some true) (h2 : (Cond.all (Term.static C n d) (Cond.or (Cond.lt (Term.index 0) (Term.int 10)) (Cond.eq (Term.op1 Unary.i2l (Term.elem (Term.static C n d) (Term.index 0))) (Term.op2 Binary.ladd (Term.op1 Unary.i2l (Term.index 0)) (Term.long 55))))).value args Z none Z [] = some true) {j : Nat} (hj : j < 16) : cl.slots[j]? = some (.int (if j < 10 then Int32.ofNat (j + 48) else Int32.ofNat (j + 55))) := by
  have ha : Z.arrayAt? x = some cl := Arr.fin (U := Z) (Vm.Alike.refl _) A
  have hs : cl.slots.size = 16 := by
    have q := congrArg Int32.toInt ln
    rw [show cl.slots.size.toInt32 = Int32.ofNat cl.slots.size from rfl, own_tiN (by omega)] at q
    have e : (16 : Int32).toInt = 16 := rfl
    omega
  have q1 := Jvm.Cond.all_elim ev ha h1 j (by omega)
  have q2 := Jvm.Cond.all_elim ev ha h2 j (by omega)
  have ev' : (Term.static C n d).eval args Z none [j] Z = some (.ref x) := ev
  have hn : ¬ (Int32.ofNat j) < 0 := own_nn (by omega)
  have hc : (Int32.ofNat j).toNatClampNeg = j := own_cl (by omega)
  have ex : cl.slots[j]? = some cl.slots[j] := Array.getElem?_eq_getElem (by omega)
  have hi : (Term.index 0).eval args Z none [j] Z = some (.int (Int32.ofNat j)) := rfl
  have he : (Term.elem (Term.static C n d) (Term.index 0)).eval args Z none [j] Z = some cl.slots[j] := by
    simp only [Term.eval] at ev' ⊢
    rw [ev']
    simp only [Option.bind_eq_bind, Option.bind_some]
    have e : (([j][0]?).map fun i => Value.int i.toInt32) = some (.int (Int32.ofNat j)) := rfl
    simp only [e, Option.bind_some, hn, if_false, ha, hc, ex]
  have key : ∀ (k : Int64), (Cond.eq (Term.op1 Unary.i2l (Term.elem (Term.static C n d) (Term.index 0))) (Term.op2 Binary.ladd (Term.op1 Unary.i2l (Term.index 0)) (Term.long k))).value args Z none Z [j] = some true → ∃ y, cl.slots[j] = .int y ∧ y.toInt64 = (Int32.ofNat j).toInt64 + k := by
    intro k hk
    have e1 : (Term.op1 Unary.i2l (Term.elem (Term.static C n d) (Term.index 0))).eval args Z none [j] Z = Unary.i2l.apply cl.slots[j] := by
      show ((Term.elem (Term.static C n d) (Term.index 0)).eval args Z none [j] Z).bind (fun v => Unary.i2l.apply v) = _
      rw [he]; rfl
    have e2 : (Term.op2 Binary.ladd (Term.op1 Unary.i2l (Term.index 0)) (Term.long k)).eval args Z none [j] Z = some (.long ((Int32.ofNat j).toInt64 + k)) := rfl
    generalize cl.slots[j] = v at e1
    cases v with
    | int y =>
      have e3 : (Term.op1 Unary.i2l (Term.elem (Term.static C n d) (Term.index 0))).eval args Z none [j] Z = some (.long y.toInt64) := e1
      simp only [Jvm.Cond.value, e3, e2] at hk
      exact ⟨y, rfl, of_decide_eq_true (Option.some.inj hk)⟩
    | _ => simp [Jvm.Cond.value, e1, e2, Unary.apply] at hk
  have fin : ∀ (y : Int32) (m : Nat), m ≤ 60 → y.toInt64 = (Int32.ofNat j).toInt64 + Int64.ofNat m → y = Int32.ofNat (j + m) := by
    intro y m hm q
    have q3 := congrArg Int64.toInt q
    rw [Int32.toInt_toInt64, Int64.toInt_add, Int32.toInt_toInt64, own_tiN (by omega), Int64.toInt_ofNat_of_lt (by omega), Int.bmod_eq_of_le (by omega) (by omega)] at q3
    apply Int32.toInt_inj.mp
    rw [own_tiN (by omega)]; omega
  by_cases hl : j < 10
  · rw [if_pos hl]
    have l1 : (Cond.le (Term.int 10) (Term.index 0)).value args Z none Z [j] = some false := by
      show some (decide ((10 : Int32) ≤ Int32.ofNat j)) = some false
      rw [decide_eq_false]
      rw [Int32.le_iff_toInt_le, own_tiN (by omega)]
      have e : (10 : Int32).toInt = 10 := rfl
      omega
    simp only [Jvm.Cond.value] at q1 l1
    rw [l1] at q1
    obtain ⟨y, e1, e2⟩ := key 48 q1
    rw [ex, e1, fin y 48 (by omega) e2]
  · rw [if_neg hl]
    have l1 : (Cond.lt (Term.index 0) (Term.int 10)).value args Z none Z [j] = some false := by
      show some (decide (Int32.ofNat j < (10 : Int32))) = some false
      rw [decide_eq_false]
      exact own_ltF (b := 10) (by omega) (by omega) hl
    simp only [Jvm.Cond.value] at q2 l1
    rw [l1] at q2
    obtain ⟨y, e1, e2⟩ := key 55 q2
    rw [ex, e1, fin y 55 (by omega) e2]
theorem m1 (V : Env1 Z a0 n0 uu0 uu1 uu2 uu3 uu4) (p0 : Addr) (j0 : Nat) (p1 : Addr) (d0 : ClassId) (j1 : Nat) (cs0 : List Int32) (h0 : Heap) (hO : Old Z n0 h0) (ln0 : j0 ≤ 4000) (ln1 : j0 ≤ 60) (f2 : Fld Z h0 p0 "java/lang/AbstractStringBuilder" "value" "[B" (.ref p1)) (ln3 : j1 ≤ 4000) (cp4 : j1 = 16 ∨ j1 = 34 ∨ j1 = 70) (ln5 : cs0.length ≤ 4000) (f3 : Arv Z h0 p1 d0 .byte (Int32.ofNat j1) (cs0.map b8) (.int 0)) (f7 : Fld Z h0 p0 "java/lang/AbstractStringBuilder" "coder" "B" (.int 0)) (ln8 : ¬ j1 < j0) :
  Met Z a0 ELs True n0 l ⟨"java/lang/AbstractStringBuilder", "ensureCapacityInternal", "(I)V"⟩ Y18 3 none ⟨0, 0, 0, 0⟩ #[.ref p0, (.int (Int32.ofNat j0))] h0 [] (fun v h so => (v = none ∧ so = [] ∧ h0 = h)) := by
 refine Met.of (EWl V) (by first | decide +kernel | rfl) hO (L0 := #[.val (.ref p0), .val (.int (Int32.ofNat j0)), .unset]) rfl ?_
 intro p e s m below meth c T H
 refine G.aN H D59_0 (J := 1) rfl rfl rfl ?_
 refine G.getF H (wd50 V) Via.refl f2 D59_1 (J := 4) rfl ?_
 intro T1 H2
 refine G.aR H2 f3 D59_4 (J := 5) rfl ?_
 refine G.aN H2 D59_5 (J := 6) rfl rfl rfl ?_
 refine G.getF H2 (wd52 V) Via.refl f7 D59_6 (J := 9) rfl ?_
 intro T3 H4
 refine G.ishr H4 D59_9 (J := 10) rfl ?_
 rw [own_shr0]
 refine G.sN H4 (L' := #[.val (.ref p0), .val (.int (Int32.ofNat j0)), .val (.int (Int32.ofNat j1))]) D59_10 (J := 11) rfl rfl ?_
 refine G.iN H4 D59_11 (J := 12) rfl rfl ?_
 refine G.iN H4 D59_12 (J := 13) rfl rfl ?_
 refine G.isub H4 D59_13 (J := 14) rfl ?_
 refine G.ifYes H4 D59_14 (XT.i0_le_t (own_subF (a := j0) (b := j1) (by omega) (by omega))) (by decide) (J := 38) rfl ?_
 exact G.retV H4 rfl D59_38 (so := []) all0 (by decide) (by decide) ⟨rfl, rfl, rfl⟩
theorem m2 (V : Env1 Z a0 n0 uu0 uu1 uu2 uu3 uu4) (p0 : Addr) (h0 : Heap) (hO : Old Z n0 h0) (f0 : Fld Z h0 p0 "java/lang/AbstractStringBuilder" "coder" "B" (.int 0)) :
  Met Z a0 ELs True n0 l ⟨"java/lang/AbstractStringBuilder", "isLatin1", "()Z"⟩ Y59 1 (some .boolean) ⟨0, 0, 0, 0⟩ #[.ref p0] h0 [] (fun v h so => (v = some (.int 1) ∧ so = [] ∧ h0 = h)) := by
 refine Met.of (EWl V) (by first | decide +kernel | rfl) hO (L0 := #[.val (.ref p0)]) rfl ?_
 intro p e s m below meth c T H
 refine G.getS H (wq V 49 rfl) Via.refl (Sta.ext H.old.2 (hv8 V)) D55_0 (J := 3) rfl ?_
 intro T1 H2
 refine G.ifNo H2 D55_3 (J := 6) rfl (XT.i0_eq_f (hv9 V)) ?_
 refine G.aN H2 D55_6 (J := 7) rfl rfl rfl ?_
 refine G.getF H2 (wd52 V) Via.refl f0 D55_7 (J := 10) rfl ?_
 intro T3 H4
 refine G.ifNo H4 D55_10 (J := 13) rfl (by decide) ?_
 refine G.iC H4 D55_13 (J := 14) rfl (v := 1) rfl ?_
 refine G.go H4 D55_14 (by decide) (J := 18) rfl ?_
 exact G.retN H4 (t := .boolean) rfl (by decide) D55_18 (so := []) all0 (by decide) (by decide) ⟨rfl, rfl, rfl⟩
theorem m3 (V : Env1 Z a0 n0 uu0 uu1 uu2 uu3 uu4) (x0 : Int32) (h0 : Heap) (hO : Old Z n0 h0) (r0 : ¬ x0 < 0 ∧ ¬ 255 < x0) :
  Met Z a0 ELs True n0 l ⟨"java/lang/StringLatin1", "canEncode", "(C)Z"⟩ Y56 1 (some .boolean) ⟨0, 0, 0, 0⟩ #[.int x0] h0 [] (fun v h so => (v = some (.int 1) ∧ so = [] ∧ h0 = h)) := by
 refine Met.of (EWl V) (by first | decide +kernel | rfl) hO (L0 := #[.val (.int x0)]) rfl ?_
 intro p e s m below meth c T H
 refine G.iN H D25_0 (J := 1) rfl rfl ?_
 refine G.sP H D25_1 (J := 4) rfl (v := 255) rfl ?_
 refine G.cN H D25_4 (J := 7) rfl (XT.ii_gt_f r0.2) ?_
 refine G.iC H D25_7 (J := 8) rfl (v := 1) rfl ?_
 refine G.go H D25_8 (by decide) (J := 12) rfl ?_
 exact G.retN H (t := .boolean) rfl (by decide) D25_12 (so := []) all0 (by decide) (by decide) ⟨rfl, rfl, rfl⟩
theorem m4 (V : Env1 Z a0 n0 uu0 uu1 uu2 uu3 uu4) (p0 : Addr) (x0 : Int32) (j0 : Nat) (p1 : Addr) (d0 : ClassId) (j1 : Nat) (cs0 : List Int32) (h0 : Heap) (hO : Old Z n0 h0) (ln0 : j0 ≤ 4000) (f0 : Fld Z h0 p0 "java/lang/AbstractStringBuilder" "count" "I" (.int (Int32.ofNat j0))) (f2 : Exa Z h0 p0 "java/lang/StringBuilder") (ln3 : j0 ≤ 3999) (ln4 : j0 ≤ 59) (f5 : Fld Z h0 p0 "java/lang/AbstractStringBuilder" "value" "[B" (.ref p1)) (ln6 : j1 ≤ 4000) (cp7 : j1 = 16 ∨ j1 = 34 ∨ j1 = 70) (ln8 : cs0.length ≤ 4000) (f6 : Arv Z h0 p1 d0 .byte (Int32.ofNat j1) (cs0.map b8) (.int 0)) (f10 : Fld Z h0 p0 "java/lang/AbstractStringBuilder" "coder" "B" (.int 0)) (ln11 : ¬ j1 < j0 + 1) (r12 : ¬ x0 < 0 ∧ ¬ 255 < x0) (g13 : n0 ≤ p0) (ln14 : j0 = cs0.length) (g15 : n0 ≤ p1) :
  Met Z a0 ELs True n0 l ⟨"java/lang/AbstractStringBuilder", "append", "(C)Ljava/lang/AbstractStringBuilder;"⟩ Y13 2 (some (.object "java/lang/AbstractStringBuilder")) ⟨1, 0, 0, 14⟩ #[.ref p0, .int x0] h0 [p1] (fun v h so => (v = some (.ref p0) ∧ so = [] ∧ Keep h0 h [p0, p1] ∧ (∀ (O n d : String) (w : Value), Fld Z h0 p0 O n d w → RoadKit.slotOf Z O n d ≠ RoadKit.slotOf Z "java/lang/AbstractStringBuilder" "count" "I" → Fld Z h p0 O n d w) ∧ Fld Z h p0 "java/lang/AbstractStringBuilder" "count" "I" (.int (Int32.ofNat (j0 + 1))) ∧ Exa Z h p0 "java/lang/StringBuilder" ∧ Fld Z h p0 "java/lang/AbstractStringBuilder" "value" "[B" (.ref p1) ∧ Fld Z h p0 "java/lang/AbstractStringBuilder" "coder" "B" (.int 0) ∧ Arv Z h p1 d0 .byte (Int32.ofNat j1) ((cs0 ++ [x0]).map b8) (.int 0))) := by
 refine Met.of (EWl V) (by first | decide +kernel | rfl) hO (L0 := #[.val (.ref p0), .val (.int x0)]) rfl ?_
 intro p e s m below meth c T H
 refine G.aN H D53_0 (J := 1) rfl rfl rfl ?_
 refine G.aN H D53_1 (J := 2) rfl rfl rfl ?_
 refine G.getF H (wd80 V) Via.refl f0 D53_2 (J := 5) rfl ?_
 intro T1 H2
 refine G.iC H2 D53_5 (J := 6) rfl (v := 1) rfl ?_
 refine G.iadd H2 D53_6 (J := 7) rfl ?_
 rw [show ((Int32.ofNat j0) + 1 : Int32) = (Int32.ofNat (j0 + 1)) from own_addN j0 1]
 refine G.callV H2 (m1 V p0 (j0 + 1) p1 d0 j1 cs0 h0 H2.old (by omega) (by omega) f5 (by omega) cp7 (by omega) f6 f10 (by omega)) (wq V 139 rfl) (decl_of (wq V 140 rfl) (wq V 143 rfl)) (nf_sel (wq V 142 rfl)) (wq V 142 rfl) (wq V 140 rfl) (wd46 V) (wq V 143 rfl) (by decide) f2 (argsL := [(.int (Int32.ofNat (j0 + 1)))]) (rest := []) (W := 0) rfl rfl (lenOf (pd_0) rfl) rfl rfl D53_7 (J := 10) rfl (by decide) (by decide) (by decide) (by decide) all0 ?_
 rintro T3 h3_ _ _ H3 ⟨rfl, rfl, rfl⟩
 show Go _ _ _ _ (T3.setTop (mkF m 10 _ []))
 refine G.aN H3 D53_10 (J := 11) rfl rfl rfl ?_
 refine G.cV H3 (m2 V p0 h0 H3.old f10) (wq V 144 rfl) (wq V 83 rfl) (nf_sel (wq V 85 rfl)) (wq V 85 rfl) (wq V 84 rfl) (wd46 V) (wq V 86 rfl) f2 [] [] 0 14 (lenOf (pd_1) rfl) D53_11 all0 (by decide) ?_
 rintro T7 h7_ _ _ H7 ⟨rfl, rfl, rfl⟩
 show Go _ _ _ _ (T7.setTop (mkF m 14 _ [.int 1]))
 refine G.ifNo H7 D53_14 (J := 17) rfl (by decide) ?_
 refine G.iN H7 D53_17 (J := 18) rfl rfl ?_
 refine G.cS H7 (m3 V x0 h0 H7.old r12) (wq V 145 rfl) (wq V 120 rfl) (wd121 V) (wq V 122 rfl) [.int x0] [] 0 21 (lenOf (pd_2) rfl) D53_18 all0 (by decide) ?_
 rintro T11 h11_ _ _ H11 ⟨rfl, rfl, rfl⟩
 show Go _ _ _ _ (T11.setTop (mkF m 21 _ [.int 1]))
 refine G.ifNo H11 D53_21 (J := 24) rfl (by decide) ?_
 refine G.aN H11 D53_24 (J := 25) rfl rfl rfl ?_
 refine G.getF H11 (wd50 V) Via.refl f5 D53_25 (J := 28) rfl ?_
 intro T15 H16
 refine G.aN H16 D53_28 (J := 29) rfl rfl rfl ?_
 refine G.dup H16 D53_29 (J := 30) rfl rfl ?_
 refine G.getF H16 (wd80 V) Via.refl f0 D53_30 (J := 33) rfl ?_
 intro T17 H18
 refine G.dupX1 H18 D53_33 (J := 34) rfl rfl rfl ?_
 refine G.iC H18 D53_34 (J := 35) rfl (v := 1) rfl ?_
 refine G.iadd H18 D53_35 (J := 36) rfl ?_
 rw [show ((Int32.ofNat j0) + 1 : Int32) = (Int32.ofNat (j0 + 1)) from own_addN j0 1]
 refine G.putF H18 (wd80 V) Via.refl f0 f2 (Or.inl (wd81 V)) (wd37 V) (ty := .int) (by decide) rfl rfl g13 (Sf.exa f2) D53_36 (J := 39) rfl ?_
 intro T19 h19_ H19 W20
 have F21 : Fld Z h19_ p0 "java/lang/AbstractStringBuilder" "count" "I" (.int (Int32.ofNat (j0 + 1))) := Fld.same W20 f0
 refine G.iN H19 D53_39 (J := 40) rfl rfl ?_
 refine G.i2b H19 D53_40 (J := 41) rfl ?_
 have N22 : p1 ≠ p0 := Ne.symm (Exa.neArv f2 f6 (wd37 V))
 have F23 := (Arv.other f6 W20 N22)
 refine G.stBn H19 F23 ⟨own_nn (a := j0) (by omega), (own_ltT (a := j0) (b := j1) (by omega) (by omega) (by omega))⟩ ((own_cl (a := j0) (by omega)).trans (by omega)) g15 (Sf.mem (mG (i := 0) rfl)) (x := x0) D53_41 (J := 42) rfl ?_
 intro T24 h24_ H24 W25 A26
 refine G.go H24 D53_42 (by decide) (J := 75) rfl ?_
 refine G.aN H24 D53_75 (J := 76) rfl rfl rfl ?_
 have F27 := (Fld.other W25 F21 (Or.inl (Ne.symm N22)))
 have K28 : Keep h0 h24_ [p0, p1] := (Keep.wr (Keep.wr (Keep.refl h0 [p0, p1]) W20 (Or.inl (mG (i := 0) rfl))) W25 (Or.inl (mG (i := 1) rfl)))
 have F29 := (Exa.keep f2 K28)
 have F30 := (Fld.other W25 (Fld.other W20 f5 (Or.inr (slot_ne (Or.inl (wd51 V)) (Or.inl (wd81 V)) (by decide) (t := (.array .byte)) (t' := .int) (by decide) (by decide)))) (Or.inl (Ne.symm N22)))
 have F31 := (Fld.other W25 (Fld.other W20 f10 (Or.inr (slot_ne (Or.inl (wd53 V)) (Or.inl (wd81 V)) (by decide) (t := .byte) (t' := .int) (by decide) (by decide)))) (Or.inl (Ne.symm N22)))
 exact G.retA H24 (t := (.object "java/lang/AbstractStringBuilder")) rfl rfl rfl D53_76 (so := []) all0 (by decide) (by decide) ⟨rfl, rfl, K28, (fun O n d w F hn0 => (Fld.other W25 (Fld.other W20 F (Or.inr hn0)) (Or.inl (Ne.symm N22)))), F27, F29, F30, F31, A26⟩
theorem m5 (V : Env1 Z a0 n0 uu0 uu1 uu2 uu3 uu4) (p0 : Addr) (x0 : Int32) (j0 : Nat) (p1 : Addr) (d0 : ClassId) (j1 : Nat) (cs0 : List Int32) (h0 : Heap) (hO : Old Z n0 h0) (ln0 : j0 ≤ 4000) (f0 : Fld Z h0 p0 "java/lang/AbstractStringBuilder" "count" "I" (.int (Int32.ofNat j0))) (f2 : Exa Z h0 p0 "java/lang/StringBuilder") (ln3 : j0 ≤ 3999) (ln4 : j0 ≤ 59) (f5 : Fld Z h0 p0 "java/lang/AbstractStringBuilder" "value" "[B" (.ref p1)) (ln6 : j1 ≤ 4000) (cp7 : j1 = 16 ∨ j1 = 34 ∨ j1 = 70) (ln8 : cs0.length ≤ 4000) (f6 : Arv Z h0 p1 d0 .byte (Int32.ofNat j1) (cs0.map b8) (.int 0)) (f10 : Fld Z h0 p0 "java/lang/AbstractStringBuilder" "coder" "B" (.int 0)) (ln11 : ¬ j1 < j0 + 1) (r12 : ¬ x0 < 0 ∧ ¬ 255 < x0) (g13 : n0 ≤ p0) (ln14 : j0 = cs0.length) (g15 : n0 ≤ p1) :
  Met Z a0 ELs True n0 l ⟨"java/lang/StringBuilder", "append", "(C)Ljava/lang/StringBuilder;"⟩ Y60 2 (some (.object "java/lang/StringBuilder")) ⟨2, 0, 0, 27⟩ #[.ref p0, .int x0] h0 [p1] (fun v h so => (v = some (.ref p0) ∧ so = [] ∧ Keep h0 h [p0, p1] ∧ (∀ (O n d : String) (w : Value), Fld Z h0 p0 O n d w → RoadKit.slotOf Z O n d ≠ RoadKit.slotOf Z "java/lang/AbstractStringBuilder" "count" "I" → Fld Z h p0 O n d w) ∧ Fld Z h p0 "java/lang/AbstractStringBuilder" "count" "I" (.int (Int32.ofNat (j0 + 1))) ∧ Exa Z h p0 "java/lang/StringBuilder" ∧ Fld Z h p0 "java/lang/AbstractStringBuilder" "value" "[B" (.ref p1) ∧ Fld Z h p0 "java/lang/AbstractStringBuilder" "coder" "B" (.int 0) ∧ Arv Z h p1 d0 .byte (Int32.ofNat j1) ((cs0 ++ [x0]).map b8) (.int 0))) := by
 refine Met.of (EWl V) (by first | decide +kernel | rfl) hO (L0 := #[.val (.ref p0), .val (.int x0)]) rfl ?_
 intro p e s m below meth c T H
 refine G.aN H D45_0 (J := 1) rfl rfl rfl ?_
 refine G.iN H D45_1 (J := 2) rfl rfl ?_
 refine G.callSup H (m4 V p0 x0 j0 p1 d0 j1 cs0 h0 H.old (by omega) f0 f2 (by omega) (by omega) f5 (by omega) cp7 (by omega) f6 f10 (by omega) r12 g13 (by omega) g15) (wq V 135 rfl) (same_of (wq V 137 rfl) (wq V 69 rfl) rfl (by decide)) (wq V 136 rfl) (wq V 78 rfl) (by decide) (wd46 V) (wq V 138 rfl) (a := p0) (Ins.self f2) (argsL := [.int x0]) (rest := []) (W := 0) rfl rfl (lenOf (pd_3) rfl) rfl rfl D45_2 (J := 5) rfl (by decide) (by decide) (by decide) (by decide) (allS (mG (i := 0) rfl) all0) ?_
 rintro T1 h1_ _ _ H1 ⟨rfl, rfl, K5, U6, F7, F8, F9, F10, F11⟩
 show Go _ _ _ _ (T1.setTop (mkF m 5 _ [.ref p0]))
 refine G.pop H1 D45_5 (J := 6) rfl rfl ?_
 refine G.aN H1 D45_6 (J := 7) rfl rfl rfl ?_
 have K12 : Keep h0 h1_ [p0, p1] := (Keep.trans (Keep.refl h0 [p0, p1]) K5 (allS (Or.inl (mG (i := 0) rfl)) (allS (Or.inl (mG (i := 1) rfl)) all0)))
 exact G.retA H1 (t := (.object "java/lang/StringBuilder")) rfl rfl rfl D45_7 (so := []) all0 (by decide) (by decide) ⟨rfl, rfl, K12, (fun O n d w F hn0 => (U6 O n d w F hn0)), F7, F8, F9, F10, F11⟩
theorem m6 (V : Env1 Z a0 n0 uu0 uu1 uu2 uu3 uu4) (j0 : Nat) (j1 : Nat) (h0 : Heap) (hO : Old Z n0 h0) (ln0 : j0 ≤ 4000) (ln1 : j1 ≤ 4000) (ln2 : j0 < j1) :
  Met Z a0 ELs True n0 l ⟨"java/lang/Math", "max", "(II)I"⟩ Y58 2 (some .int) ⟨0, 0, 0, 0⟩ #[(.int (Int32.ofNat j0)), (.int (Int32.ofNat j1))] h0 [] (fun v h so => (v = some (.int (Int32.ofNat j1)) ∧ so = [] ∧ h0 = h)) := by
 refine Met.of (EWl V) (by first | decide +kernel | rfl) hO (L0 := #[.val (.int (Int32.ofNat j0)), .val (.int (Int32.ofNat j1))]) rfl ?_
 intro p e s m below meth c T H
 refine G.iN H D2_0 (J := 1) rfl rfl ?_
 refine G.iN H D2_1 (J := 2) rfl rfl ?_
 refine G.cY H D2_2 (XT.ii_lt_t (own_ltT (a := j0) (b := j1) (by omega) (by omega) (by omega))) (by decide) (J := 9) rfl ?_
 refine G.iN H D2_9 (J := 10) rfl rfl ?_
 exact G.retI H rfl D2_10 (so := []) all0 (by decide) (by decide) ⟨rfl, rfl, rfl⟩
theorem m7 (V : Env1 Z a0 n0 uu0 uu1 uu2 uu3 uu4) (j0 : Nat) (j1 : Nat) (j2 : Nat) (h0 : Heap) (hO : Old Z n0 h0) (ln0 : j0 ≤ 4000) (cp1 : j0 = 16 ∨ j0 = 34 ∨ j0 = 70) (ln2 : j1 ≤ 4000) (ln3 : j2 ≤ 4000) (ln4 : j1 < j2) :
  Met Z a0 ELs True n0 l ⟨"jdk/internal/util/ArraysSupport", "newLength", "(III)I"⟩ Y33 4 (some .int) ⟨1, 0, 0, 14⟩ #[(.int (Int32.ofNat j0)), (.int (Int32.ofNat j1)), (.int (Int32.ofNat j2))] h0 [] (fun v h so => (v = some (.int (Int32.ofNat (j0 + j2))) ∧ so = [] ∧ h0 = h)) := by
 refine Met.of (EWl V) (by first | decide +kernel | rfl) hO (L0 := #[.val (.int (Int32.ofNat j0)), .val (.int (Int32.ofNat j1)), .val (.int (Int32.ofNat j2)), .unset]) rfl ?_
 intro p e s m below meth c T H
 refine G.iN H D28_0 (J := 1) rfl rfl ?_
 refine G.iN H D28_1 (J := 2) rfl rfl ?_
 refine G.iN H D28_2 (J := 3) rfl rfl ?_
 refine G.cS H (m6 V j1 j2 h0 H.old (by omega) (by omega) (by omega)) (wq V 324 rfl) (wq V 223 rfl) (wq V 99 rfl) (wq V 224 rfl) [(.int (Int32.ofNat j1)), (.int (Int32.ofNat j2))] [(.int (Int32.ofNat j0))] 1 6 (lenOf (pd_4) rfl) D28_3 all0 (by decide) ?_
 rintro T1 h1_ _ _ H1 ⟨rfl, rfl, rfl⟩
 show Go _ _ _ _ (T1.setTop (mkF m 6 _ [(.int (Int32.ofNat j2)), (.int (Int32.ofNat j0))]))
 refine G.iadd H1 D28_6 (J := 7) rfl ?_
 rw [show ((Int32.ofNat j0) + (Int32.ofNat j2) : Int32) = (Int32.ofNat (j0 + j2)) from own_addN j0 j2]
 refine G.sN H1 (L' := #[.val (.int (Int32.ofNat j0)), .val (.int (Int32.ofNat j1)), .val (.int (Int32.ofNat j2)), .val (.int (Int32.ofNat (j0 + j2)))]) D28_7 (J := 8) rfl rfl ?_
 refine G.iC H1 D28_8 (J := 9) rfl (v := 0) rfl ?_
 refine G.iN H1 D28_9 (J := 10) rfl rfl ?_
 refine G.cN H1 D28_10 (J := 13) rfl (XT.ii_ge_f (own_ltT (a := 0) (b := j0 + j2) (by omega) (by omega) (by omega))) ?_
 refine G.iN H1 D28_13 (J := 14) rfl rfl ?_
 refine G.ldcI H1 (wq V 325 rfl) D28_14 (J := 16) rfl ?_
 refine G.cN H1 D28_16 (J := 19) rfl (XT.ii_gt_f (own_ltF (a := 2147483639) (b := j0 + j2) (by omega) (by omega) (by omega))) ?_
 refine G.iN H1 D28_19 (J := 20) rfl rfl ?_
 exact G.retI H1 rfl D28_20 (so := []) all0 (by decide) (by decide) ⟨rfl, rfl, rfl⟩
theorem m8 (V : Env1 Z a0 n0 uu0 uu1 uu2 uu3 uu4) (p0 : Addr) (j0 : Nat) (p1 : Addr) (d0 : ClassId) (j1 : Nat) (cs0 : List Int32) (h0 : Heap) (hO : Old Z n0 h0) (ln0 : j0 ≤ 4000) (f1 : Fld Z h0 p0 "java/lang/AbstractStringBuilder" "value" "[B" (.ref p1)) (ln2 : j1 ≤ 4000) (cp3 : j1 = 16 ∨ j1 = 34 ∨ j1 = 70) (ln4 : cs0.length ≤ 4000) (f2 : Arv Z h0 p1 d0 .byte (Int32.ofNat j1) (cs0.map b8) (.int 0)) (f6 : Fld Z h0 p0 "java/lang/AbstractStringBuilder" "coder" "B" (.int 0)) (ln7 : j1 ≤ j0) (ln8 : j0 < j1 + j1 + 2) :
  Met Z a0 ELs True n0 l ⟨"java/lang/AbstractStringBuilder", "newCapacity", "(I)I"⟩ Y11 6 (some .int) ⟨2, 0, 0, 29⟩ #[.ref p0, (.int (Int32.ofNat j0))] h0 [] (fun v h so => (v = some (.int (Int32.ofNat (j1 + (j1 + 2)))) ∧ so = [] ∧ h0 = h)) := by
 refine Met.of (EWl V) (by first | decide +kernel | rfl) hO (L0 := #[.val (.ref p0), .val (.int (Int32.ofNat j0)), .unset, .unset, .unset, .unset]) rfl ?_
 intro p e s m below meth c T H
 refine G.aN H D50_0 (J := 1) rfl rfl rfl ?_
 refine G.getF H (wd50 V) Via.refl f1 D50_1 (J := 4) rfl ?_
 intro T1 H2
 refine G.aR H2 f2 D50_4 (J := 5) rfl ?_
 refine G.sN H2 (L' := #[.val (.ref p0), .val (.int (Int32.ofNat j0)), .val (.int (Int32.ofNat j1)), .unset, .unset, .unset]) D50_5 (J := 6) rfl rfl ?_
 refine G.iN H2 D50_6 (J := 7) rfl rfl ?_
 refine G.aN H2 D50_7 (J := 8) rfl rfl rfl ?_
 refine G.getF H2 (wd52 V) Via.refl f6 D50_8 (J := 11) rfl ?_
 intro T3 H4
 refine G.ishl H4 D50_11 (J := 12) rfl ?_
 rw [own_shl0]
 refine G.sN H4 (L' := #[.val (.ref p0), .val (.int (Int32.ofNat j0)), .val (.int (Int32.ofNat j1)), .val (.int (Int32.ofNat j0)), .unset, .unset]) D50_12 (J := 13) rfl rfl ?_
 refine G.iN H4 D50_13 (J := 14) rfl rfl ?_
 refine G.iN H4 D50_14 (J := 15) rfl rfl ?_
 refine G.isub H4 D50_15 (J := 16) rfl ?_
 rw [show ((Int32.ofNat j0) - (Int32.ofNat j1) : Int32) = (Int32.ofNat (j0 - j1)) from own_subN (a := j0) (b := j1) (by omega)]
 refine G.sI H4 (L' := #[.val (.ref p0), .val (.int (Int32.ofNat j0)), .val (.int (Int32.ofNat j1)), .val (.int (Int32.ofNat j0)), .val (.int (Int32.ofNat (j0 - j1))), .unset]) D50_16 (J := 18) rfl rfl ?_
 refine G.iN H4 D50_18 (J := 19) rfl rfl ?_
 refine G.iL H4 D50_19 (J := 21) rfl rfl ?_
 refine G.iN H4 D50_21 (J := 22) rfl rfl ?_
 refine G.iC H4 D50_22 (J := 23) rfl (v := 2) rfl ?_
 refine G.aN H4 D50_23 (J := 24) rfl rfl rfl ?_
 refine G.getF H4 (wd52 V) Via.refl f6 D50_24 (J := 27) rfl ?_
 intro T5 H6
 refine G.ishl H6 D50_27 (J := 28) rfl ?_
 show Go _ _ _ _ (T5.setTop (mkF m 28 _ [.int 2, (.int (Int32.ofNat j1)), (.int (Int32.ofNat (j0 - j1))), (.int (Int32.ofNat j1))]))
 refine G.iadd H6 D50_28 (J := 29) rfl ?_
 rw [show ((Int32.ofNat j1) + 2 : Int32) = (Int32.ofNat (j1 + 2)) from own_addN j1 2]
 refine G.cS H6 (m7 V j1 (j0 - j1) (j1 + 2) h0 H6.old (by omega) cp3 (by omega) (by omega) (by omega)) (wq V 320 rfl) (wq V 321 rfl) (wq V 322 rfl) (wq V 323 rfl) [(.int (Int32.ofNat j1)), (.int (Int32.ofNat (j0 - j1))), (.int (Int32.ofNat (j1 + 2)))] [] 0 32 (lenOf (pd_5) rfl) D50_29 all0 (by decide) ?_
 rintro T7 h7_ _ _ H7 ⟨rfl, rfl, rfl⟩
 show Go _ _ _ _ (T7.setTop (mkF m 32 _ [(.int (Int32.ofNat (j1 + (j1 + 2))))]))
 refine G.sI H7 (L' := #[.val (.ref p0), .val (.int (Int32.ofNat j0)), .val (.int (Int32.ofNat j1)), .val (.int (Int32.ofNat j0)), .val (.int (Int32.ofNat (j0 - j1))), .val (.int (Int32.ofNat (j1 + (j1 + 2))))]) D50_32 (J := 34) rfl rfl ?_
 refine G.iL H7 D50_34 (J := 36) rfl rfl ?_
 refine G.ldcI H7 (wq V 326 rfl) D50_36 (J := 38) rfl ?_
 refine G.cY H7 D50_38 (XT.ii_ne_t (own_eqF (a := j1 + (j1 + 2)) (b := 2147483647) (by omega) (by omega) (by omega))) (by decide) (J := 51) rfl ?_
 refine G.iL H7 D50_51 (J := 53) rfl rfl ?_
 refine G.aN H7 D50_53 (J := 54) rfl rfl rfl ?_
 refine G.getF H7 (wd52 V) Via.refl f6 D50_54 (J := 57) rfl ?_
 intro T11 H12
 refine G.ishr H12 D50_57 (J := 58) rfl ?_
 rw [own_shr0]
 exact G.retI H12 rfl D50_58 (so := []) all0 (by decide) (by decide) ⟨rfl, rfl, rfl⟩
theorem m9 (V : Env1 Z a0 n0 uu0 uu1 uu2 uu3 uu4) (j0 : Nat) (j1 : Nat) (h0 : Heap) (hO : Old Z n0 h0) (ln0 : j0 ≤ 4000) (cp1 : j0 = 16 ∨ j0 = 34 ∨ j0 = 70) (ln2 : j1 ≤ 4000) (ln3 : ¬ j1 < j0) :
  Met Z a0 ELs True n0 l ⟨"java/lang/Math", "min", "(II)I"⟩ Y43 2 (some .int) ⟨0, 0, 0, 0⟩ #[(.int (Int32.ofNat j0)), (.int (Int32.ofNat j1))] h0 [] (fun v h so => (v = some (.int (Int32.ofNat j0)) ∧ so = [] ∧ h0 = h)) := by
 refine Met.of (EWl V) (by first | decide +kernel | rfl) hO (L0 := #[.val (.int (Int32.ofNat j0)), .val (.int (Int32.ofNat j1))]) rfl ?_
 intro p e s m below meth c T H
 refine G.iN H D3_0 (J := 1) rfl rfl ?_
 refine G.iN H D3_1 (J := 2) rfl rfl ?_
 refine G.cN H D3_2 (J := 5) rfl (XT.ii_gt_f (own_ltF (a := j1) (b := j0) (by omega) (by omega) (by omega))) ?_
 refine G.iN H D3_5 (J := 6) rfl rfl ?_
 refine G.go H D3_6 (by decide) (J := 10) rfl ?_
 exact G.retI H rfl D3_10 (so := []) all0 (by decide) (by decide) ⟨rfl, rfl, rfl⟩
theorem m10 (V : Env1 Z a0 n0 uu0 uu1 uu2 uu3 uu4) (p0 : Addr) (j0 : Nat) (d0 : ClassId) (j1 : Nat) (cs0 : List Int32) (h0 : Heap) (hO : Old Z n0 h0) (ln0 : j0 ≤ 4000) (ln1 : j1 ≤ 4000) (cp2 : j1 = 16 ∨ j1 = 34 ∨ j1 = 70) (ln3 : cs0.length ≤ 4000) (f1 : Arv Z h0 p0 d0 .byte (Int32.ofNat j1) (cs0.map b8) (.int 0)) (ln5 : ¬ j0 = j1) (ln6 : j0 ≤ 70) (ln7 : ¬ j0 < j1) (ln8 : cs0.length ≤ j1) :
  Met Z a0 ELs True n0 l ⟨"java/util/Arrays", "copyOf", "([BI)[B"⟩ Y26 3 (some (.array .byte)) ⟨1, 1, 70, 40⟩ #[.ref p0, (.int (Int32.ofNat j0))] h0 [] (fun v h so => (∃ a2 : Addr, ∃ k5 : ClassId, v = some (.ref a2) ∧ so = [a2] ∧ Keep h0 h [] ∧ h0.size ≤ a2 ∧ Arv Z h a2 k5 .byte (Int32.ofNat j0) ((([] : List Int32) ++ cs0).map b8) (.int 0) ∧ Exa Z h a2 "[B")) := by
 refine Met.of (EWl V) (by first | decide +kernel | rfl) hO (L0 := #[.val (.ref p0), .val (.int (Int32.ofNat j0)), .unset]) rfl ?_
 intro p e s m below meth c T H
 refine G.iN H D41_0 (J := 1) rfl rfl ?_
 refine G.aN H D41_1 (J := 2) rfl rfl rfl ?_
 refine G.aR H f1 D41_2 (J := 3) rfl ?_
 refine G.cY H D41_3 (XT.ii_ne_t (own_eqF (a := j0) (b := j1) (by omega) (by omega) (by omega))) (by decide) (J := 14) rfl ?_
 refine G.iN H D41_14 (J := 15) rfl rfl ?_
 refine G.newPn H (aty := .byte) (wd24 V) D41_15 (J := 17) rfl (own_nn (a := j0) (by omega)) (cap := 70) (own_clc (a := j0) (by omega) (by omega)) (by decide) (by decide) (by decide) (ad := "[B") rfl ?_
 intro T1 h1_ a2 k5 ga2 H1 E3 A4 X6
 have na2 := H.nle ga2
 replace A4 : Arv Z h1_ a2 k5 .byte (Int32.ofNat j0) (([] : List Int32).map b8) (.int 0) := A4
 refine G.astoreN H1 (L' := #[.val (.ref p0), .val (.int (Int32.ofNat j0)), .val (.ref a2)]) D41_17 (J := 18) rfl rfl rfl ?_
 refine G.aN H1 D41_18 (J := 19) rfl rfl rfl ?_
 refine G.iC H1 D41_19 (J := 20) rfl (v := 0) rfl ?_
 refine G.aN H1 D41_20 (J := 21) rfl rfl rfl ?_
 refine G.iC H1 D41_21 (J := 22) rfl (v := 0) rfl ?_
 refine G.aN H1 D41_22 (J := 23) rfl rfl rfl ?_
 have F7 := (Arv.ext f1 E3)
 refine G.aR H1 F7 D41_23 (J := 24) rfl ?_
 refine G.iN H1 D41_24 (J := 25) rfl rfl ?_
 refine G.cS H1 (m9 V j1 j0 h1_ H1.old (by omega) cp2 (by omega) (by omega)) (wq V 97 rfl) (wq V 98 rfl) (wq V 99 rfl) (wq V 100 rfl) [(.int (Int32.ofNat j1)), (.int (Int32.ofNat j0))] [.int 0, .ref a2, .int 0, .ref p0] 4 28 (lenOf (pd_4) rfl) D41_25 all0 (by decide) ?_
 rintro T8 h8_ _ _ H8 ⟨rfl, rfl, rfl⟩
 show Go _ _ _ _ (T8.setTop (mkF m 28 _ [(.int (Int32.ofNat j1)), .int 0, .ref a2, .int 0, .ref p0]))
 refine G.copyN H8 (wq V 101 rfl) (wq V 104 rfl) (wq V 102 rfl) (wq V 103 rfl) F7 A4 (nN := j1) (dN := 0) rfl rfl (by omega) (by omega) (own_clg (a := j1) (by omega) (by omega)) (own_clg (a := j0) (by omega) (by omega)) (by omega) (by simp only [qa, qc, qn] <;> omega) na2 (Sf.mem (mG (i := 0) rfl)) (st := []) (W := 0) rfl rfl D41_28 (J := 31) rfl (by decide) (by decide) ?_
 intro T12 h12_ H12 K13 A14
 refine G.aN H12 D41_31 (J := 32) rfl rfl rfl ?_
 have F15 := (Exa.keep X6 K13)
 have K16 : Keep h0 h12_ [] := (Keep.trans (Keep.ext (Keep.refl h0 []) E3) K13 (allS (Or.inr (Nat.le_of_eq ga2.symm)) all0))
 exact G.retA H12 (t := (.array .byte)) rfl rfl rfl D41_32 (so := [a2]) (allS (mG (i := 0) rfl) all0) (by decide) (by decide) ⟨a2, k5, rfl, rfl, K16, (Nat.le_of_eq ga2.symm), A14, F15⟩
theorem m11 (V : Env1 Z a0 n0 uu0 uu1 uu2 uu3 uu4) (p0 : Addr) (j0 : Nat) (p1 : Addr) (d0 : ClassId) (j1 : Nat) (cs0 : List Int32) (h0 : Heap) (hO : Old Z n0 h0) (ln0 : j0 ≤ 4000) (ln1 : j0 ≤ 60) (f2 : Fld Z h0 p0 "java/lang/AbstractStringBuilder" "value" "[B" (.ref p1)) (ln3 : j1 ≤ 4000) (cp4 : j1 = 16 ∨ j1 = 34 ∨ j1 = 70) (ln5 : cs0.length ≤ 4000) (f3 : Arv Z h0 p1 d0 .byte (Int32.ofNat j1) (cs0.map b8) (.int 0)) (f7 : Fld Z h0 p0 "java/lang/AbstractStringBuilder" "coder" "B" (.int 0)) (ln8 : j1 ≤ j0) (ln9 : j1 < j0) (f10 : Exa Z h0 p0 "java/lang/StringBuilder") (ln11 : j0 < j1 + j1 + 2) (ln12 : cs0.length ≤ j1) (g13 : n0 ≤ p0) :
  Met Z a0 ELs True n0 l ⟨"java/lang/AbstractStringBuilder", "ensureCapacityInternal", "(I)V"⟩ Y18 3 none ⟨3, 1, 70, 55⟩ #[.ref p0, (.int (Int32.ofNat j0))] h0 [] (fun v h so => (∃ a17 : Addr, ∃ k18 : ClassId, v = none ∧ so = [a17] ∧ Keep h0 h [p0] ∧ h0.size ≤ a17 ∧ (∀ (O n d : String) (w : Value), Fld Z h0 p0 O n d w → RoadKit.slotOf Z O n d ≠ RoadKit.slotOf Z "java/lang/AbstractStringBuilder" "value" "[B" → Fld Z h p0 O n d w) ∧ Fld Z h p0 "java/lang/AbstractStringBuilder" "value" "[B" (.ref a17) ∧ Fld Z h p0 "java/lang/AbstractStringBuilder" "coder" "B" (.int 0) ∧ Exa Z h p0 "java/lang/StringBuilder" ∧ Arv Z h a17 k18 .byte (Int32.ofNat (j1 + (j1 + 2))) ((([] : List Int32) ++ cs0).map b8) (.int 0) ∧ Exa Z h a17 "[B")) := by
 refine Met.of (EWl V) (by first | decide +kernel | rfl) hO (L0 := #[.val (.ref p0), .val (.int (Int32.ofNat j0)), .unset]) rfl ?_
 intro p e s m below meth c T H
 refine G.aN H D59_0 (J := 1) rfl rfl rfl ?_
 refine G.getF H (wd50 V) Via.refl f2 D59_1 (J := 4) rfl ?_
 intro T1 H2
 refine G.aR H2 f3 D59_4 (J := 5) rfl ?_
 refine G.aN H2 D59_5 (J := 6) rfl rfl rfl ?_
 refine G.getF H2 (wd52 V) Via.refl f7 D59_6 (J := 9) rfl ?_
 intro T3 H4
 refine G.ishr H4 D59_9 (J := 10) rfl ?_
 rw [own_shr0]
 refine G.sN H4 (L' := #[.val (.ref p0), .val (.int (Int32.ofNat j0)), .val (.int (Int32.ofNat j1))]) D59_10 (J := 11) rfl rfl ?_
 refine G.iN H4 D59_11 (J := 12) rfl rfl ?_
 refine G.iN H4 D59_12 (J := 13) rfl rfl ?_
 refine G.isub H4 D59_13 (J := 14) rfl ?_
 rw [show ((Int32.ofNat j0) - (Int32.ofNat j1) : Int32) = (Int32.ofNat (j0 - j1)) from own_subN (a := j0) (b := j1) (by omega)]
 refine G.ifNo H4 D59_14 (J := 17) rfl (XT.i0_le_f (own_ltT (a := 0) (b := j0 - j1) (by omega) (by omega) (by omega))) ?_
 refine G.aN H4 D59_17 (J := 18) rfl rfl rfl ?_
 refine G.aN H4 D59_18 (J := 19) rfl rfl rfl ?_
 refine G.getF H4 (wd50 V) Via.refl f2 D59_19 (J := 22) rfl ?_
 intro T5 H6
 refine G.aN H6 D59_22 (J := 23) rfl rfl rfl ?_
 refine G.iN H6 D59_23 (J := 24) rfl rfl ?_
 refine G.callV H6 (m8 V p0 j0 p1 d0 j1 cs0 h0 H6.old (by omega) f2 (by omega) cp4 (by omega) f3 f7 (by omega) (by omega)) (wq V 315 rfl) (decl_of (wq V 316 rfl) (wq V 319 rfl)) (nf_sel (wq V 318 rfl)) (wq V 318 rfl) (wq V 316 rfl) (wd46 V) (wq V 319 rfl) (by decide) f10 (argsL := [(.int (Int32.ofNat j0))]) (rest := [.ref p1, .ref p0]) (W := 2) rfl rfl (lenOf (pd_6) rfl) rfl rfl D59_24 (J := 27) rfl (by decide) (by decide) (by decide) (by decide) all0 ?_
 rintro T7 h7_ _ _ H7 ⟨rfl, rfl, rfl⟩
 show Go _ _ _ _ (T7.setTop (mkF m 27 _ [(.int (Int32.ofNat (j1 + (j1 + 2)))), .ref p1, .ref p0]))
 refine G.aN H7 D59_27 (J := 28) rfl rfl rfl ?_
 refine G.getF H7 (wd52 V) Via.refl f7 D59_28 (J := 31) rfl ?_
 intro T11 H12
 refine G.ishl H12 D59_31 (J := 32) rfl ?_
 rw [own_shl0]
 refine G.cS H12 (m10 V p1 (j1 + (j1 + 2)) d0 j1 cs0 h0 H12.old (by omega) (by omega) cp4 (by omega) f3 (by omega) (by omega) (by omega) (by omega)) (wq V 327 rfl) (wd328 V) (wd89 V) (wd329 V) [.ref p1, (.int (Int32.ofNat (j1 + (j1 + 2))))] [.ref p0] 1 35 (lenOf (pd_7) rfl) D59_32 all0 (by decide) ?_
 rintro T13 h13_ _ _ H13 ⟨a17, k18, rfl, rfl, K19, g20, F21, F22⟩
 have na17 := Nat.le_trans H7.le g20
 show Go _ _ _ _ (T13.setTop (mkF m 35 _ [.ref a17, .ref p0]))
 have F23 := (Exa.keep f10 K19)
 have F24 := (Fld.keep f2 K19 nin0)
 refine G.putF H13 (wd50 V) Via.refl F24 F23 (Or.inl (wd51 V)) (wd37 V) (ty := (.array .byte)) (by decide) rfl rfl g13 (Sf.exa F23) D59_35 (J := 38) rfl ?_
 intro T25 h25_ H25 W26
 have F27 : Fld Z h25_ p0 "java/lang/AbstractStringBuilder" "value" "[B" (.ref a17) := Fld.same W26 F24
 have F28 := (Fld.other W26 (Fld.keep f7 K19 nin0) (Or.inr (slot_ne (Or.inl (wd53 V)) (Or.inl (wd51 V)) (by decide) (t := .byte) (t' := (.array .byte)) (by decide) (by decide))))
 have F29 := (Exa.wr W26 F23)
 have N30 : a17 ≠ p0 := Ne.symm (Exa.neArv (Exa.keep f10 K19) F21 (wd37 V))
 have F31 := (Arv.other F21 W26 N30)
 have F32 := (Exa.wr W26 F22)
 have K33 : Keep h0 h25_ [p0] := (Keep.wr (Keep.trans (Keep.refl h0 [p0]) K19 all0) W26 (Or.inl (mG (i := 0) rfl)))
 exact G.retV H25 rfl D59_38 (so := [a17]) (allS (mG (i := 0) rfl) all0) (by decide) (by decide) ⟨a17, k18, rfl, rfl, K33, g20, (fun O n d w F hn0 => (Fld.other W26 (Fld.keep F K19 nin0) (Or.inr hn0))), F27, F28, F29, F31, F32⟩
theorem m12 (V : Env1 Z a0 n0 uu0 uu1 uu2 uu3 uu4) (p0 : Addr) (x0 : Int32) (j0 : Nat) (p1 : Addr) (d0 : ClassId) (j1 : Nat) (cs0 : List Int32) (h0 : Heap) (hO : Old Z n0 h0) (ln0 : j0 ≤ 4000) (f0 : Fld Z h0 p0 "java/lang/AbstractStringBuilder" "count" "I" (.int (Int32.ofNat j0))) (f2 : Exa Z h0 p0 "java/lang/StringBuilder") (ln3 : j0 ≤ 3999) (ln4 : j0 ≤ 59) (f5 : Fld Z h0 p0 "java/lang/AbstractStringBuilder" "value" "[B" (.ref p1)) (ln6 : j1 ≤ 4000) (cp7 : j1 = 16 ∨ j1 = 34 ∨ j1 = 70) (ln8 : cs0.length ≤ 4000) (f6 : Arv Z h0 p1 d0 .byte (Int32.ofNat j1) (cs0.map b8) (.int 0)) (f10 : Fld Z h0 p0 "java/lang/AbstractStringBuilder" "coder" "B" (.int 0)) (ln11 : j1 ≤ j0 + 1) (ln12 : j1 < j0 + 1) (ln13 : j0 < j1 + j1 + 1) (ln14 : cs0.length ≤ j1) (g15 : n0 ≤ p0) (r16 : ¬ x0 < 0 ∧ ¬ 255 < x0) (ln17 : j0 = cs0.length) :
  Met Z a0 ELs True n0 l ⟨"java/lang/AbstractStringBuilder", "append", "(C)Ljava/lang/AbstractStringBuilder;"⟩ Y13 2 (some (.object "java/lang/AbstractStringBuilder")) ⟨4, 1, 70, 69⟩ #[.ref p0, .int x0] h0 [] (fun v h so => (∃ a7 : Addr, ∃ k8 : ClassId, v = some (.ref p0) ∧ so = [a7] ∧ Keep h0 h [p0] ∧ h0.size ≤ a7 ∧ (∀ (O n d : String) (w : Value), Fld Z h0 p0 O n d w → RoadKit.slotOf Z O n d ≠ RoadKit.slotOf Z "java/lang/AbstractStringBuilder" "value" "[B" → RoadKit.slotOf Z O n d ≠ RoadKit.slotOf Z "java/lang/AbstractStringBuilder" "count" "I" → Fld Z h p0 O n d w) ∧ Fld Z h p0 "java/lang/AbstractStringBuilder" "count" "I" (.int (Int32.ofNat (j0 + 1))) ∧ Exa Z h p0 "java/lang/StringBuilder" ∧ Fld Z h p0 "java/lang/AbstractStringBuilder" "value" "[B" (.ref a7) ∧ Fld Z h p0 "java/lang/AbstractStringBuilder" "coder" "B" (.int 0) ∧ Arv Z h a7 k8 .byte (Int32.ofNat (j1 + (j1 + 2))) (((([] : List Int32) ++ cs0) ++ [x0]).map b8) (.int 0) ∧ Exa Z h a7 "[B")) := by
 refine Met.of (EWl V) (by first | decide +kernel | rfl) hO (L0 := #[.val (.ref p0), .val (.int x0)]) rfl ?_
 intro p e s m below meth c T H
 refine G.aN H D53_0 (J := 1) rfl rfl rfl ?_
 refine G.aN H D53_1 (J := 2) rfl rfl rfl ?_
 refine G.getF H (wd80 V) Via.refl f0 D53_2 (J := 5) rfl ?_
 intro T1 H2
 refine G.iC H2 D53_5 (J := 6) rfl (v := 1) rfl ?_
 refine G.iadd H2 D53_6 (J := 7) rfl ?_
 rw [show ((Int32.ofNat j0) + 1 : Int32) = (Int32.ofNat (j0 + 1)) from own_addN j0 1]
 refine G.callV H2 (m11 V p0 (j0 + 1) p1 d0 j1 cs0 h0 H2.old (by omega) (by omega) f5 (by omega) cp7 (by omega) f6 f10 (by omega) (by omega) f2 (by omega) (by omega) g15) (wq V 139 rfl) (decl_of (wq V 140 rfl) (wq V 143 rfl)) (nf_sel (wq V 142 rfl)) (wq V 142 rfl) (wq V 140 rfl) (wd46 V) (wq V 143 rfl) (by decide) f2 (argsL := [(.int (Int32.ofNat (j0 + 1)))]) (rest := []) (W := 0) rfl rfl (lenOf (pd_0) rfl) rfl rfl D53_7 (J := 10) rfl (by decide) (by decide) (by decide) (by decide) all0 ?_
 rintro T3 h3_ _ _ H3 ⟨a7, k8, rfl, rfl, K9, g10, U11, F12, F13, F14, F15, F16⟩
 have na7 := Nat.le_trans H.le g10
 show Go _ _ _ _ (T3.setTop (mkF m 10 _ []))
 refine G.aN H3 D53_10 (J := 11) rfl rfl rfl ?_
 refine G.cV H3 (m2 V p0 h3_ H3.old F13) (wq V 144 rfl) (wq V 83 rfl) (nf_sel (wq V 85 rfl)) (wq V 85 rfl) (wq V 84 rfl) (wd46 V) (wq V 86 rfl) F14 [] [] 0 14 (lenOf (pd_1) rfl) D53_11 all0 (by decide) ?_
 rintro T17 h17_ _ _ H17 ⟨rfl, rfl, rfl⟩
 show Go _ _ _ _ (T17.setTop (mkF m 14 _ [.int 1]))
 refine G.ifNo H17 D53_14 (J := 17) rfl (by decide) ?_
 refine G.iN H17 D53_17 (J := 18) rfl rfl ?_
 refine G.cS H17 (m3 V x0 h3_ H17.old r16) (wq V 145 rfl) (wq V 120 rfl) (wd121 V) (wq V 122 rfl) [.int x0] [] 0 21 (lenOf (pd_2) rfl) D53_18 all0 (by decide) ?_
 rintro T21 h21_ _ _ H21 ⟨rfl, rfl, rfl⟩
 show Go _ _ _ _ (T21.setTop (mkF m 21 _ [.int 1]))
 refine G.ifNo H21 D53_21 (J := 24) rfl (by decide) ?_
 refine G.aN H21 D53_24 (J := 25) rfl rfl rfl ?_
 refine G.getF H21 (wd50 V) Via.refl F12 D53_25 (J := 28) rfl ?_
 intro T25 H26
 refine G.aN H26 D53_28 (J := 29) rfl rfl rfl ?_
 refine G.dup H26 D53_29 (J := 30) rfl rfl ?_
 have F27 := (U11 "java/lang/AbstractStringBuilder" "count" "I" (.int (Int32.ofNat j0)) f0 (slot_ne (Or.inl (wd81 V)) (Or.inl (wd51 V)) (by decide) (t := .int) (t' := (.array .byte)) (by decide) (by decide)))
 refine G.getF H26 (wd80 V) Via.refl F27 D53_30 (J := 33) rfl ?_
 intro T28 H29
 refine G.dupX1 H29 D53_33 (J := 34) rfl rfl rfl ?_
 refine G.iC H29 D53_34 (J := 35) rfl (v := 1) rfl ?_
 refine G.iadd H29 D53_35 (J := 36) rfl ?_
 rw [show ((Int32.ofNat j0) + 1 : Int32) = (Int32.ofNat (j0 + 1)) from own_addN j0 1]
 refine G.putF H29 (wd80 V) Via.refl F27 F14 (Or.inl (wd81 V)) (wd37 V) (ty := .int) (by decide) rfl rfl g15 (Sf.exa F14) D53_36 (J := 39) rfl ?_
 intro T30 h30_ H30 W31
 have F32 : Fld Z h30_ p0 "java/lang/AbstractStringBuilder" "count" "I" (.int (Int32.ofNat (j0 + 1))) := Fld.same W31 F27
 refine G.iN H30 D53_39 (J := 40) rfl rfl ?_
 refine G.i2b H30 D53_40 (J := 41) rfl ?_
 have N33 : a7 ≠ p0 := Ne.symm (Exa.neArv F14 F15 (wd37 V))
 have F34 := (Arv.other F15 W31 N33)
 refine G.stBn H30 F34 ⟨own_nn (a := j0) (by omega), (own_ltT (a := j0) (b := j1 + (j1 + 2)) (by omega) (by omega) (by omega))⟩ ((own_cl (a := j0) (by omega)).trans (by simp only [qa, qc, qn] <;> omega)) na7 (Sf.mem (mG (i := 0) rfl)) (x := x0) D53_41 (J := 42) rfl ?_
 intro T35 h35_ H35 W36 A37
 refine G.go H35 D53_42 (by decide) (J := 75) rfl ?_
 refine G.aN H35 D53_75 (J := 76) rfl rfl rfl ?_
 have F38 := (Fld.other W36 F32 (Or.inl (Ne.symm N33)))
 have K39 : Keep h3_ h35_ [p0, a7] := (Keep.wr (Keep.wr (Keep.refl h3_ [p0, a7]) W31 (Or.inl (mG (i := 0) rfl))) W36 (Or.inl (mG (i := 1) rfl)))
 have F40 := (Exa.keep F14 K39)
 have F41 := (Fld.other W36 (Fld.other W31 F12 (Or.inr (slot_ne (Or.inl (wd51 V)) (Or.inl (wd81 V)) (by decide) (t := (.array .byte)) (t' := .int) (by decide) (by decide)))) (Or.inl (Ne.symm N33)))
 have F42 := (Fld.other W36 (Fld.other W31 F13 (Or.inr (slot_ne (Or.inl (wd53 V)) (Or.inl (wd81 V)) (by decide) (t := .byte) (t' := .int) (by decide) (by decide)))) (Or.inl (Ne.symm N33)))
 have F43 := (Exa.keep F16 K39)
 have K44 : Keep h0 h35_ [p0] := (Keep.wr (Keep.wr (Keep.trans (Keep.refl h0 [p0]) K9 (allS (Or.inl (mG (i := 0) rfl)) all0)) W31 (Or.inl (mG (i := 0) rfl))) W36 (Or.inr g10))
 exact G.retA H35 (t := (.object "java/lang/AbstractStringBuilder")) rfl rfl rfl D53_76 (so := [a7]) (allS (mG (i := 0) rfl) all0) (by decide) (by decide) ⟨a7, k8, rfl, rfl, K44, g10, (fun O n d w F hn0 hn1 => (Fld.other W36 (Fld.other W31 (U11 O n d w F hn0) (Or.inr hn1)) (Or.inl (Ne.symm N33)))), F38, F40, F41, F42, A37, F43⟩
theorem m13 (V : Env1 Z a0 n0 uu0 uu1 uu2 uu3 uu4) (p0 : Addr) (x0 : Int32) (j0 : Nat) (p1 : Addr) (d0 : ClassId) (j1 : Nat) (cs0 : List Int32) (h0 : Heap) (hO : Old Z n0 h0) (ln0 : j0 ≤ 4000) (f0 : Fld Z h0 p0 "java/lang/AbstractStringBuilder" "count" "I" (.int (Int32.ofNat j0))) (f2 : Exa Z h0 p0 "java/lang/StringBuilder") (ln3 : j0 ≤ 3999) (ln4 : j0 ≤ 59) (f5 : Fld Z h0 p0 "java/lang/AbstractStringBuilder" "value" "[B" (.ref p1)) (ln6 : j1 ≤ 4000) (cp7 : j1 = 16 ∨ j1 = 34 ∨ j1 = 70) (ln8 : cs0.length ≤ 4000) (f6 : Arv Z h0 p1 d0 .byte (Int32.ofNat j1) (cs0.map b8) (.int 0)) (f10 : Fld Z h0 p0 "java/lang/AbstractStringBuilder" "coder" "B" (.int 0)) (ln11 : j1 ≤ j0 + 1) (ln12 : j1 < j0 + 1) (ln13 : j0 < j1 + j1 + 1) (ln14 : cs0.length ≤ j1) (g15 : n0 ≤ p0) (r16 : ¬ x0 < 0 ∧ ¬ 255 < x0) (ln17 : j0 = cs0.length) :
  Met Z a0 ELs True n0 l ⟨"java/lang/StringBuilder", "append", "(C)Ljava/lang/StringBuilder;"⟩ Y60 2 (some (.object "java/lang/StringBuilder")) ⟨5, 1, 70, 82⟩ #[.ref p0, .int x0] h0 [] (fun v h so => (∃ a5 : Addr, ∃ k6 : ClassId, v = some (.ref p0) ∧ so = [a5] ∧ Keep h0 h [p0] ∧ h0.size ≤ a5 ∧ (∀ (O n d : String) (w : Value), Fld Z h0 p0 O n d w → RoadKit.slotOf Z O n d ≠ RoadKit.slotOf Z "java/lang/AbstractStringBuilder" "value" "[B" → RoadKit.slotOf Z O n d ≠ RoadKit.slotOf Z "java/lang/AbstractStringBuilder" "count" "I" → Fld Z h p0 O n d w) ∧ Fld Z h p0 "java/lang/AbstractStringBuilder" "count" "I" (.int (Int32.ofNat (j0 + 1))) ∧ Exa Z h p0 "java/lang/StringBuilder" ∧ Fld Z h p0 "java/lang/AbstractStringBuilder" "value" "[B" (.ref a5) ∧ Fld Z h p0 "java/lang/AbstractStringBuilder" "coder" "B" (.int 0) ∧ Arv Z h a5 k6 .byte (Int32.ofNat (j1 + (j1 + 2))) (((([] : List Int32) ++ cs0) ++ [x0]).map b8) (.int 0) ∧ Exa Z h a5 "[B")) := by
 refine Met.of (EWl V) (by first | decide +kernel | rfl) hO (L0 := #[.val (.ref p0), .val (.int x0)]) rfl ?_
 intro p e s m below meth c T H
 refine G.aN H D45_0 (J := 1) rfl rfl rfl ?_
 refine G.iN H D45_1 (J := 2) rfl rfl ?_
 refine G.callSup H (m12 V p0 x0 j0 p1 d0 j1 cs0 h0 H.old (by omega) f0 f2 (by omega) (by omega) f5 (by omega) cp7 (by omega) f6 f10 (by omega) (by omega) (by omega) (by omega) g15 r16 (by omega)) (wq V 135 rfl) (same_of (wq V 137 rfl) (wq V 69 rfl) rfl (by decide)) (wq V 136 rfl) (wq V 78 rfl) (by decide) (wd46 V) (wq V 138 rfl) (a := p0) (Ins.self f2) (argsL := [.int x0]) (rest := []) (W := 0) rfl rfl (lenOf (pd_3) rfl) rfl rfl D45_2 (J := 5) rfl (by decide) (by decide) (by decide) (by decide) all0 ?_
 rintro T1 h1_ _ _ H1 ⟨a5, k6, rfl, rfl, K7, g8, U9, F10, F11, F12, F13, F14, F15⟩
 have na5 := Nat.le_trans H.le g8
 show Go _ _ _ _ (T1.setTop (mkF m 5 _ [.ref p0]))
 refine G.pop H1 D45_5 (J := 6) rfl rfl ?_
 refine G.aN H1 D45_6 (J := 7) rfl rfl rfl ?_
 have K16 : Keep h0 h1_ [p0] := (Keep.trans (Keep.refl h0 [p0]) K7 (allS (Or.inl (mG (i := 0) rfl)) all0))
 exact G.retA H1 (t := (.object "java/lang/StringBuilder")) rfl rfl rfl D45_7 (so := [a5]) (allS (mG (i := 0) rfl) all0) (by decide) (by decide) ⟨a5, k6, rfl, rfl, K16, g8, (fun O n d w F hn0 hn1 => (U9 O n d w F hn0 hn1)), F10, F11, F12, F13, F14, F15⟩
theorem own_appC (V : Env1 Z a0 n0 uu0 uu1 uu2 uu3 uu4) {own nm_ : String} {mx_ : Nat} {bs_ : ByteArray} {rt_ : Option FieldType} {R : Room} {P : State → Outcome → Prop} {sf : List Addr} (H : Hs p l e R s m as' below meth c Z a0 ELs True own n0 bs_ mx_ rt_ nm_ T h C S sf) {index : Nat} (w1 : (Cond.methodLink own index ⟨"java/lang/StringBuilder", "append", "(C)Ljava/lang/StringBuilder;"⟩).before a0 Z = true)
    {a p1 : Addr} {k1 : ClassId} {w Cm Sm : Nat} {X : List Int32} {x : Int32} (B : Bld Z h a p1 k1 w X) (g0 : n0 ≤ a) (g1 : n0 ≤ p1) (m1 : p1 ∈ sf) (hx : ¬ x < 0 ∧ ¬ 255 < x) (hX : X.length ≤ 56) (hb : Bud w C S Cm Sm) (hc : Cm ≤ R.cells) (hs : Sm ≤ R.slots) {W : Nat} (hf : 6 ≤ R.frames) (hl : W + 95 ≤ R.locals)
    {rest : List Value} {pc J : Nat} {L : Array Slot} (hL : L.size = mx_) (hW : (rest.map fun v => v.category).sum = W) (hd : decode bs_ pc = .ok (.invokevirtual index, 3)) (hp : pc + 3 = J)
    (k : ∀ T' h' p' k' w' C' S', Hs p l e R s m as' below meth c Z a0 ELs True own n0 bs_ mx_ rt_ nm_ T' h' C' S' (p' :: sf) → Keep h h' [a, p1] → n0 ≤ p' → (p' = p1 ∨ h.size ≤ p') → Bld Z h' a p' k' w' (X ++ [x]) → Bud w' C' S' Cm Sm → Go p e below P (T'.setTop (mkF m J L (.ref a :: rest)))) :
    Go p e below P (T.setTop (mkF m pc L (.int x :: .ref a :: rest))) := by
  have hle := B.2.2.2.2.2.1
  have hcp := hb.cap
  have hbu := id hb
  unfold Cap at hcp
  unfold Bud at hbu
  by_cases hg : X.length + 1 ≤ w
  · refine G.callV H (m5 V a x X.length p1 k1 w X h H.old (by omega) B.2.2.2.1 B.1 (by omega) (by omega) B.2.1 (by omega) hcp (by omega) B.2.2.2.2.1 B.2.2.1 (by omega) hx g0 (by omega) g1) w1 (wq V 131 rfl) (nf_sel (wq V 133 rfl)) (wq V 133 rfl) (wq V 132 rfl) (wd38 V) (wq V 134 rfl) (by decide) B.1 (argsL := [.int x]) (rest := rest) (W := W) hL rfl (lenOf (pd_8) rfl) rfl hW hd hp (by show 3 ≤ _; omega) (by show W + (2 + 11) + 27 ≤ _; omega) (by show C + 0 ≤ _; omega) (by show S + 0 ≤ _; omega) (allS m1 all0) ?_
    rintro T1 h1 _ _ H1 ⟨rfl, rfl, K51, U52, F53, F54, F55, F56, F57⟩
    exact k T1 h1 p1 k1 w _ _ (H1.less (fun y hy => (List.mem_cons.mp hy).elim (fun u => u ▸ List.mem_append_right _ m1) (fun u => List.mem_append_right _ u))) K51 g1 (Or.inl rfl) ⟨F54, F55, F56, own_cnt F53 (by simp), own_arl (own_arz F57 (by omega)) (by simp), by simp; omega, (Exa.keep B.2.2.2.2.2.2 K51)⟩ hb
  · have hg2 : X.length = w := by omega
    refine G.callV H (m13 V a x X.length p1 k1 w X h H.old (by omega) B.2.2.2.1 B.1 (by omega) (by omega) B.2.1 (by omega) hcp (by omega) B.2.2.2.2.1 B.2.2.1 (by omega) (by omega) (by omega) (by omega) g0 hx (by omega)) w1 (wq V 131 rfl) (nf_sel (wq V 133 rfl)) (wq V 133 rfl) (wq V 132 rfl) (wd38 V) (wq V 134 rfl) (by decide) B.1 (argsL := [.int x]) (rest := rest) (W := W) hL rfl (lenOf (pd_8) rfl) rfl hW hd hp (by show 6 ≤ _; omega) (by show W + (2 + 11) + 82 ≤ _; omega) (by show C + 1 ≤ _; omega) (by show S + 70 ≤ _; omega) all0 ?_
    rintro T1 h1 _ _ H1 ⟨a51, k52, rfl, rfl, K53, g54, U55, F56, F57, F58, F59, F60, F61⟩
    have na51 := Nat.le_trans H.le g54
    exact k T1 h1 a51 k52 (w + (w + 2)) _ _ (H1.less (fun y hy => (List.mem_cons.mp hy).elim (fun u => u ▸ List.mem_append_left _ (mG (i := 0) rfl)) (fun u => List.mem_append_right _ u))) (Keep.trans (Keep.refl h [a, p1]) K53 (allS (Or.inl (mG (i := 0) rfl)) all0)) (Nat.le_trans H.le g54) (Or.inr g54) ⟨F57, F58, F59, own_cnt F56 (by simp), own_arl (own_arz F60 (by omega)) (by simp), by simp; omega, F61⟩ (by show Bud _ (C + 1) (S + 70) _ _; unfold Bud; omega)

theorem m14 (V : Env1 Z a0 n0 uu0 uu1 uu2 uu3 uu4) (x0 : Int32) (h0 : Heap) (hO : Old Z n0 h0)  :
  Met Z a0 ELs True n0 l ⟨"com/example/schema_to_form/schematoform/server/PathSegments", "isUnreserved", "(I)Z"⟩ Y9 1 (some .boolean) ⟨0, 0, 0, 0⟩ #[.int x0] h0 [] (fun v h so => (v = some (.int (unrB x0)) ∧ so = [] ∧ ((unrB x0) = 0 ∨ (unrB x0) = 1) ∧ h0 = h)) := by
 refine Met.of (EWl V) (by first | decide +kernel | rfl) hO (L0 := #[.val (.int x0)]) rfl ?_
 intro p e s m below meth c T H
 refine G.iN H D70_0 (J := 1) rfl rfl ?_
 refine G.bP H D70_1 (J := 3) rfl (v := 97) rfl ?_
 by_cases c1 : x0 < 97
 ·
  refine G.cY H D70_3 (XT.ii_lt_t c1) (by decide) (J := 12) rfl ?_
  refine G.iN H D70_12 (J := 13) rfl rfl ?_
  refine G.bP H D70_13 (J := 15) rfl (v := 65) rfl ?_
  by_cases c2 : x0 < 65
  ·
   refine G.cY H D70_15 (XT.ii_lt_t c2) (by decide) (J := 24) rfl ?_
   refine G.iN H D70_24 (J := 25) rfl rfl ?_
   refine G.bP H D70_25 (J := 27) rfl (v := 48) rfl ?_
   by_cases c3 : x0 < 48
   ·
    refine G.cY H D70_27 (XT.ii_lt_t c3) (by decide) (J := 36) rfl ?_
    refine G.iN H D70_36 (J := 37) rfl rfl ?_
    refine G.bP H D70_37 (J := 39) rfl (v := 45) rfl ?_
    by_cases c4 : x0 = 45
    ·
     refine G.cY H D70_39 (XT.ii_eq_t c4) (by decide) (J := 60) rfl ?_
     refine G.iC H D70_60 (J := 61) rfl (v := 1) rfl ?_
     refine G.go H D70_61 (by decide) (J := 65) rfl ?_
     exact G.retN H (t := .boolean) rfl (by decide) D70_65 (so := []) all0 (by decide) (by decide) ⟨congrArg (fun q => some (Value.int q)) (Eq.symm (own_v1 (by have h0 : x0.toInt < 97 := own_tl c1; have h1 : x0.toInt < 65 := own_tl c2; have h2 : x0.toInt < 48 := own_tl c3; have h3 : x0.toInt = 45 := own_te c4; omega))), rfl, own_unrb _, rfl⟩
    ·
     refine G.cN H D70_39 (J := 42) rfl (XT.ii_eq_f c4) ?_
     refine G.iN H D70_42 (J := 43) rfl rfl ?_
     refine G.bP H D70_43 (J := 45) rfl (v := 46) rfl ?_
     by_cases c5 : x0 = 46
     ·
      refine G.cY H D70_45 (XT.ii_eq_t c5) (by decide) (J := 60) rfl ?_
      refine G.iC H D70_60 (J := 61) rfl (v := 1) rfl ?_
      refine G.go H D70_61 (by decide) (J := 65) rfl ?_
      exact G.retN H (t := .boolean) rfl (by decide) D70_65 (so := []) all0 (by decide) (by decide) ⟨congrArg (fun q => some (Value.int q)) (Eq.symm (own_v1 (by have h0 : x0.toInt < 97 := own_tl c1; have h1 : x0.toInt < 65 := own_tl c2; have h2 : x0.toInt < 48 := own_tl c3; have h3 : ¬ x0.toInt = 45 := own_tf c4; have h4 : x0.toInt = 46 := own_te c5; omega))), rfl, own_unrb _, rfl⟩
     ·
      refine G.cN H D70_45 (J := 48) rfl (XT.ii_eq_f c5) ?_
      refine G.iN H D70_48 (J := 49) rfl rfl ?_
      refine G.bP H D70_49 (J := 51) rfl (v := 95) rfl ?_
      refine G.cN H D70_51 (J := 54) rfl (XT.ii_eq_f (own_iF c2 (by decide))) ?_
      refine G.iN H D70_54 (J := 55) rfl rfl ?_
      refine G.bP H D70_55 (J := 57) rfl (v := 126) rfl ?_
      refine G.cY H D70_57 (XT.ii_ne_t (own_iF c1 (by decide))) (by decide) (J := 64) rfl ?_
      refine G.iC H D70_64 (J := 65) rfl (v := 0) rfl ?_
      exact G.retN H (t := .boolean) rfl (by decide) D70_65 (so := []) all0 (by decide) (by decide) ⟨congrArg (fun q => some (Value.int q)) (Eq.symm (own_v0 (by have h0 : x0.toInt < 97 := own_tl c1; have h1 : x0.toInt < 65 := own_tl c2; have h2 : x0.toInt < 48 := own_tl c3; have h3 : ¬ x0.toInt = 45 := own_tf c4; have h4 : ¬ x0.toInt = 46 := own_tf c5; omega))), rfl, own_unrb _, rfl⟩
   ·
    refine G.cN H D70_27 (J := 30) rfl (XT.ii_lt_f c3) ?_
    refine G.iN H D70_30 (J := 31) rfl rfl ?_
    refine G.bP H D70_31 (J := 33) rfl (v := 57) rfl ?_
    by_cases c6 : 57 < x0
    ·
     refine G.cN H D70_33 (J := 36) rfl (XT.ii_le_f c6) ?_
     refine G.iN H D70_36 (J := 37) rfl rfl ?_
     refine G.bP H D70_37 (J := 39) rfl (v := 45) rfl ?_
     refine G.cN H D70_39 (J := 42) rfl (XT.ii_eq_f (own_iL c3 (by decide))) ?_
     refine G.iN H D70_42 (J := 43) rfl rfl ?_
     refine G.bP H D70_43 (J := 45) rfl (v := 46) rfl ?_
     refine G.cN H D70_45 (J := 48) rfl (XT.ii_eq_f (own_iL c3 (by decide))) ?_
     refine G.iN H D70_48 (J := 49) rfl rfl ?_
     refine G.bP H D70_49 (J := 51) rfl (v := 95) rfl ?_
     refine G.cN H D70_51 (J := 54) rfl (XT.ii_eq_f (own_iF c2 (by decide))) ?_
     refine G.iN H D70_54 (J := 55) rfl rfl ?_
     refine G.bP H D70_55 (J := 57) rfl (v := 126) rfl ?_
     refine G.cY H D70_57 (XT.ii_ne_t (own_iF c1 (by decide))) (by decide) (J := 64) rfl ?_
     refine G.iC H D70_64 (J := 65) rfl (v := 0) rfl ?_
     exact G.retN H (t := .boolean) rfl (by decide) D70_65 (so := []) all0 (by decide) (by decide) ⟨congrArg (fun q => some (Value.int q)) (Eq.symm (own_v0 (by have h0 : x0.toInt < 97 := own_tl c1; have h1 : x0.toInt < 65 := own_tl c2; have h2 : ¬ x0.toInt < 48 := own_tn c3; have h3 : 57 < x0.toInt := own_tl c6; omega))), rfl, own_unrb _, rfl⟩
    ·
     refine G.cY H D70_33 (XT.ii_le_t c6) (by decide) (J := 60) rfl ?_
     refine G.iC H D70_60 (J := 61) rfl (v := 1) rfl ?_
     refine G.go H D70_61 (by decide) (J := 65) rfl ?_
     exact G.retN H (t := .boolean) rfl (by decide) D70_65 (so := []) all0 (by decide) (by decide) ⟨congrArg (fun q => some (Value.int q)) (Eq.symm (own_v1 (by have h0 : x0.toInt < 97 := own_tl c1; have h1 : x0.toInt < 65 := own_tl c2; have h2 : ¬ x0.toInt < 48 := own_tn c3; have h3 : ¬ 57 < x0.toInt := own_tn c6; omega))), rfl, own_unrb _, rfl⟩
  ·
   refine G.cN H D70_15 (J := 18) rfl (XT.ii_lt_f c2) ?_
   refine G.iN H D70_18 (J := 19) rfl rfl ?_
   refine G.bP H D70_19 (J := 21) rfl (v := 90) rfl ?_
   by_cases c7 : 90 < x0
   ·
    refine G.cN H D70_21 (J := 24) rfl (XT.ii_le_f c7) ?_
    refine G.iN H D70_24 (J := 25) rfl rfl ?_
    refine G.bP H D70_25 (J := 27) rfl (v := 48) rfl ?_
    refine G.cN H D70_27 (J := 30) rfl (XT.ii_lt_f (own_iJ c2 (by decide))) ?_
    refine G.iN H D70_30 (J := 31) rfl rfl ?_
    refine G.bP H D70_31 (J := 33) rfl (v := 57) rfl ?_
    refine G.cN H D70_33 (J := 36) rfl (XT.ii_le_f (own_iK c2 (by decide))) ?_
    refine G.iN H D70_36 (J := 37) rfl rfl ?_
    refine G.bP H D70_37 (J := 39) rfl (v := 45) rfl ?_
    refine G.cN H D70_39 (J := 42) rfl (XT.ii_eq_f (own_iL c2 (by decide))) ?_
    refine G.iN H D70_42 (J := 43) rfl rfl ?_
    refine G.bP H D70_43 (J := 45) rfl (v := 46) rfl ?_
    refine G.cN H D70_45 (J := 48) rfl (XT.ii_eq_f (own_iL c2 (by decide))) ?_
    refine G.iN H D70_48 (J := 49) rfl rfl ?_
    refine G.bP H D70_49 (J := 51) rfl (v := 95) rfl ?_
    by_cases c8 : x0 = 95
    ·
     refine G.cY H D70_51 (XT.ii_eq_t c8) (by decide) (J := 60) rfl ?_
     refine G.iC H D70_60 (J := 61) rfl (v := 1) rfl ?_
     refine G.go H D70_61 (by decide) (J := 65) rfl ?_
     exact G.retN H (t := .boolean) rfl (by decide) D70_65 (so := []) all0 (by decide) (by decide) ⟨congrArg (fun q => some (Value.int q)) (Eq.symm (own_v1 (by have h0 : x0.toInt < 97 := own_tl c1; have h1 : ¬ x0.toInt < 65 := own_tn c2; have h2 : 90 < x0.toInt := own_tl c7; have h3 : x0.toInt = 95 := own_te c8; omega))), rfl, own_unrb _, rfl⟩
    ·
     refine G.cN H D70_51 (J := 54) rfl (XT.ii_eq_f c8) ?_
     refine G.iN H D70_54 (J := 55) rfl rfl ?_
     refine G.bP H D70_55 (J := 57) rfl (v := 126) rfl ?_
     refine G.cY H D70_57 (XT.ii_ne_t (own_iF c1 (by decide))) (by decide) (J := 64) rfl ?_
     refine G.iC H D70_64 (J := 65) rfl (v := 0) rfl ?_
     exact G.retN H (t := .boolean) rfl (by decide) D70_65 (so := []) all0 (by decide) (by decide) ⟨congrArg (fun q => some (Value.int q)) (Eq.symm (own_v0 (by have h0 : x0.toInt < 97 := own_tl c1; have h1 : ¬ x0.toInt < 65 := own_tn c2; have h2 : 90 < x0.toInt := own_tl c7; have h3 : ¬ x0.toInt = 95 := own_tf c8; omega))), rfl, own_unrb _, rfl⟩
   ·
    refine G.cY H D70_21 (XT.ii_le_t c7) (by decide) (J := 60) rfl ?_
    refine G.iC H D70_60 (J := 61) rfl (v := 1) rfl ?_
    refine G.go H D70_61 (by decide) (J := 65) rfl ?_
    exact G.retN H (t := .boolean) rfl (by decide) D70_65 (so := []) all0 (by decide) (by decide) ⟨congrArg (fun q => some (Value.int q)) (Eq.symm (own_v1 (by have h0 : x0.toInt < 97 := own_tl c1; have h1 : ¬ x0.toInt < 65 := own_tn c2; have h2 : ¬ 90 < x0.toInt := own_tn c7; omega))), rfl, own_unrb _, rfl⟩
 ·
  refine G.cN H D70_3 (J := 6) rfl (XT.ii_lt_f c1) ?_
  refine G.iN H D70_6 (J := 7) rfl rfl ?_
  refine G.bP H D70_7 (J := 9) rfl (v := 122) rfl ?_
  by_cases c9 : 122 < x0
  ·
   refine G.cN H D70_9 (J := 12) rfl (XT.ii_le_f c9) ?_
   refine G.iN H D70_12 (J := 13) rfl rfl ?_
   refine G.bP H D70_13 (J := 15) rfl (v := 65) rfl ?_
   refine G.cN H D70_15 (J := 18) rfl (XT.ii_lt_f (own_iJ c1 (by decide))) ?_
   refine G.iN H D70_18 (J := 19) rfl rfl ?_
   refine G.bP H D70_19 (J := 21) rfl (v := 90) rfl ?_
   refine G.cN H D70_21 (J := 24) rfl (XT.ii_le_f (own_iK c1 (by decide))) ?_
   refine G.iN H D70_24 (J := 25) rfl rfl ?_
   refine G.bP H D70_25 (J := 27) rfl (v := 48) rfl ?_
   refine G.cN H D70_27 (J := 30) rfl (XT.ii_lt_f (own_iJ c1 (by decide))) ?_
   refine G.iN H D70_30 (J := 31) rfl rfl ?_
   refine G.bP H D70_31 (J := 33) rfl (v := 57) rfl ?_
   refine G.cN H D70_33 (J := 36) rfl (XT.ii_le_f (own_iK c1 (by decide))) ?_
   refine G.iN H D70_36 (J := 37) rfl rfl ?_
   refine G.bP H D70_37 (J := 39) rfl (v := 45) rfl ?_
   refine G.cN H D70_39 (J := 42) rfl (XT.ii_eq_f (own_iL c1 (by decide))) ?_
   refine G.iN H D70_42 (J := 43) rfl rfl ?_
   refine G.bP H D70_43 (J := 45) rfl (v := 46) rfl ?_
   refine G.cN H D70_45 (J := 48) rfl (XT.ii_eq_f (own_iL c1 (by decide))) ?_
   refine G.iN H D70_48 (J := 49) rfl rfl ?_
   refine G.bP H D70_49 (J := 51) rfl (v := 95) rfl ?_
   refine G.cN H D70_51 (J := 54) rfl (XT.ii_eq_f (own_iL c1 (by decide))) ?_
   refine G.iN H D70_54 (J := 55) rfl rfl ?_
   refine G.bP H D70_55 (J := 57) rfl (v := 126) rfl ?_
   by_cases c10 : x0 = 126
   ·
    refine G.cN H D70_57 (J := 60) rfl (XT.ii_ne_f c10) ?_
    refine G.iC H D70_60 (J := 61) rfl (v := 1) rfl ?_
    refine G.go H D70_61 (by decide) (J := 65) rfl ?_
    exact G.retN H (t := .boolean) rfl (by decide) D70_65 (so := []) all0 (by decide) (by decide) ⟨congrArg (fun q => some (Value.int q)) (Eq.symm (own_v1 (by have h0 : ¬ x0.toInt < 97 := own_tn c1; have h1 : 122 < x0.toInt := own_tl c9; have h2 : x0.toInt = 126 := own_te c10; omega))), rfl, own_unrb _, rfl⟩
   ·
    refine G.cY H D70_57 (XT.ii_ne_t c10) (by decide) (J := 64) rfl ?_
    refine G.iC H D70_64 (J := 65) rfl (v := 0) rfl ?_
    exact G.retN H (t := .boolean) rfl (by decide) D70_65 (so := []) all0 (by decide) (by decide) ⟨congrArg (fun q => some (Value.int q)) (Eq.symm (own_v0 (by have h0 : ¬ x0.toInt < 97 := own_tn c1; have h1 : 122 < x0.toInt := own_tl c9; have h2 : ¬ x0.toInt = 126 := own_tf c10; omega))), rfl, own_unrb _, rfl⟩
  ·
   refine G.cY H D70_9 (XT.ii_le_t c9) (by decide) (J := 60) rfl ?_
   refine G.iC H D70_60 (J := 61) rfl (v := 1) rfl ?_
   refine G.go H D70_61 (by decide) (J := 65) rfl ?_
   exact G.retN H (t := .boolean) rfl (by decide) D70_65 (so := []) all0 (by decide) (by decide) ⟨congrArg (fun q => some (Value.int q)) (Eq.symm (own_v1 (by have h0 : ¬ x0.toInt < 97 := own_tn c1; have h1 : ¬ 122 < x0.toInt := own_tn c9; omega))), rfl, own_unrb _, rfl⟩
theorem m15 (V : Env1 Z a0 n0 uu0 uu1 uu2 uu3 uu4) (p0 : Addr) (p1 : Addr) (d0 : ClassId) (h0 : Heap) (hO : Old Z n0 h0) (f0 : Str Z h0 p0 p1 d0 []) :
  Met Z a0 ELs True n0 l ⟨"java/lang/String", "isLatin1", "()Z"⟩ Y35 1 (some .boolean) ⟨0, 0, 0, 0⟩ #[.ref p0] h0 [] (fun v h so => (v = some (.int 1) ∧ so = [] ∧ h0 = h)) := by
 refine Met.of (EWl V) (by first | decide +kernel | rfl) hO (L0 := #[.val (.ref p0)]) rfl ?_
 intro p e s m below meth c T H
 refine G.getS H (wd115 V) Via.refl (Sta.ext H.old.2 (hv8 V)) D11_0 (J := 3) rfl ?_
 intro T1 H2
 refine G.ifNo H2 D11_3 (J := 6) rfl (XT.i0_eq_f (hv9 V)) ?_
 refine G.aN H2 D11_6 (J := 7) rfl rfl rfl ?_
 refine G.getF H2 (wd30 V) Via.refl f0.2.1 D11_7 (J := 10) rfl ?_
 intro T3 H4
 refine G.ifNo H4 D11_10 (J := 13) rfl (by decide) ?_
 refine G.iC H4 D11_13 (J := 14) rfl (v := 1) rfl ?_
 refine G.go H4 D11_14 (by decide) (J := 18) rfl ?_
 exact G.retN H4 (t := .boolean) rfl (by decide) D11_18 (so := []) all0 (by decide) (by decide) ⟨rfl, rfl, rfl⟩
theorem m16 (V : Env1 Z a0 n0 uu0 uu1 uu2 uu3 uu4) (p0 : Addr) (p1 : Addr) (d0 : ClassId) (h0 : Heap) (hO : Old Z n0 h0) (f0 : Str Z h0 p0 p1 d0 []) :
  Met Z a0 ELs True n0 l ⟨"java/lang/String", "coder", "()B"⟩ Y44 1 (some .byte) ⟨0, 0, 0, 0⟩ #[.ref p0] h0 [] (fun v h so => (v = some (.int 0) ∧ so = [] ∧ h0 = h)) := by
 refine Met.of (EWl V) (by first | decide +kernel | rfl) hO (L0 := #[.val (.ref p0)]) rfl ?_
 intro p e s m below meth c T H
 refine G.getS H (wd115 V) Via.refl (Sta.ext H.old.2 (hv8 V)) D10_0 (J := 3) rfl ?_
 intro T1 H2
 refine G.ifNo H2 D10_3 (J := 6) rfl (XT.i0_eq_f (hv9 V)) ?_
 refine G.aN H2 D10_6 (J := 7) rfl rfl rfl ?_
 refine G.getF H2 (wd30 V) Via.refl f0.2.1 D10_7 (J := 10) rfl ?_
 intro T3 H4
 refine G.go H4 D10_10 (by decide) (J := 14) rfl ?_
 exact G.retN H4 (t := .byte) rfl (by decide) D10_14 (so := []) all0 (by decide) (by decide) ⟨rfl, rfl, rfl⟩
theorem m17 (V : Env1 Z a0 n0 uu0 uu1 uu2 uu3 uu4) (p0 : Addr) (p1 : Addr) (d0 : ClassId) (h0 : Heap) (hO : Old Z n0 h0) (f0 : Str Z h0 p0 p1 d0 []) :
  Met Z a0 ELs True n0 l ⟨"java/lang/String", "length", "()I"⟩ Y40 1 (some .int) ⟨1, 0, 0, 13⟩ #[.ref p0] h0 [] (fun v h so => (v = some (.int 0) ∧ so = [] ∧ h0 = h)) := by
 refine Met.of (EWl V) (by first | decide +kernel | rfl) hO (L0 := #[.val (.ref p0)]) rfl ?_
 intro p e s m below meth c T H
 refine G.aN H D18_0 (J := 1) rfl rfl rfl ?_
 refine G.getF H (wd29 V) Via.refl f0.2.2.1 D18_1 (J := 4) rfl ?_
 intro T1 H2
 have A3 : Arv Z h0 p1 d0 .byte 0 [] (.int 0) := f0.2.2.2.1
 refine G.aR H2 A3 D18_4 (J := 5) rfl ?_
 refine G.aN H2 D18_5 (J := 6) rfl rfl rfl ?_
 refine G.cV H2 (m16 V p0 p1 d0 h0 H2.old f0) (wd110 V) (wd111 V) (nf_sel (wd113 V)) (wd113 V) (wd112 V) (wd11 V) (wd114 V) f0.1 [] [.int 0] 1 9 (lenOf (pd_10) rfl) D18_6 all0 (by decide) ?_
 rintro T4 h4_ _ _ H4 ⟨rfl, rfl, rfl⟩
 show Go _ _ _ _ (T4.setTop (mkF m 9 _ [.int 0, .int 0]))
 refine G.ishr H4 D18_9 (J := 10) rfl ?_
 show Go _ _ _ _ (T4.setTop (mkF m 10 _ [.int 0]))
 exact G.retI H4 rfl D18_10 (so := []) all0 (by decide) (by decide) ⟨rfl, rfl, rfl⟩
theorem m18 (V : Env1 Z a0 n0 uu0 uu1 uu2 uu3 uu4) (x0 : Int32) (h0 : Heap) (hO : Old Z n0 h0)  :
  Met Z a0 ELs True n0 l ⟨"java/lang/StringLatin1", "canEncode", "(I)Z"⟩ Y49 1 (some .boolean) ⟨0, 0, 0, 0⟩ #[.int x0] h0 [] (fun v h so => (x0 < 0 ∧ v = some (.int 0) ∧ so = [] ∧ h0 = h) ∨ (¬ x0 < 0 ∧ 255 < x0 ∧ v = some (.int 0) ∧ so = [] ∧ h0 = h) ∨ (¬ x0 < 0 ∧ ¬ 255 < x0 ∧ v = some (.int 1) ∧ so = [] ∧ h0 = h)) := by
 refine Met.of (EWl V) (by first | decide +kernel | rfl) hO (L0 := #[.val (.int x0)]) rfl ?_
 intro p e s m below meth c T H
 refine G.iN H D27_0 (J := 1) rfl rfl ?_
 by_cases c1 : x0 < 0
 ·
  refine G.ifYes H D27_1 (XT.i0_lt_t c1) (by decide) (J := 15) rfl ?_
  refine G.iC H D27_15 (J := 16) rfl (v := 0) rfl ?_
  exact G.retN H (t := .boolean) rfl (by decide) D27_16 (so := []) all0 (by decide) (by decide) (Or.inl ⟨c1, rfl, rfl, rfl⟩)
 ·
  refine G.ifNo H D27_1 (J := 4) rfl (XT.i0_lt_f c1) ?_
  refine G.iN H D27_4 (J := 5) rfl rfl ?_
  refine G.sP H D27_5 (J := 8) rfl (v := 255) rfl ?_
  by_cases c2 : 255 < x0
  ·
   refine G.cY H D27_8 (XT.ii_gt_t c2) (by decide) (J := 15) rfl ?_
   refine G.iC H D27_15 (J := 16) rfl (v := 0) rfl ?_
   exact G.retN H (t := .boolean) rfl (by decide) D27_16 (so := []) all0 (by decide) (by decide) (Or.inr (Or.inl ⟨c1, c2, rfl, rfl, rfl⟩))
  ·
   refine G.cN H D27_8 (J := 11) rfl (XT.ii_gt_f c2) ?_
   refine G.iC H D27_11 (J := 12) rfl (v := 1) rfl ?_
   refine G.go H D27_12 (by decide) (J := 16) rfl ?_
   exact G.retN H (t := .boolean) rfl (by decide) D27_16 (so := []) all0 (by decide) (by decide) (Or.inr (Or.inr ⟨c1, c2, rfl, rfl, rfl⟩))
theorem m19 (V : Env1 Z a0 n0 uu0 uu1 uu2 uu3 uu4)  (h0 : Heap) (hO : Old Z n0 h0)  :
  Met Z a0 ELs True n0 l ⟨"java/lang/Math", "max", "(II)I"⟩ Y58 2 (some .int) ⟨0, 0, 0, 0⟩ #[.int 0, .int 0] h0 [] (fun v h so => (v = some (.int 0) ∧ so = [] ∧ h0 = h)) := by
 refine Met.of (EWl V) (by first | decide +kernel | rfl) hO (L0 := #[.val (.int 0), .val (.int 0)]) rfl ?_
 intro p e s m below meth c T H
 refine G.iN H D2_0 (J := 1) rfl rfl ?_
 refine G.iN H D2_1 (J := 2) rfl rfl ?_
 refine G.cN H D2_2 (J := 5) rfl (by decide) ?_
 refine G.iN H D2_5 (J := 6) rfl rfl ?_
 refine G.go H D2_6 (by decide) (J := 10) rfl ?_
 exact G.retI H rfl D2_10 (so := []) all0 (by decide) (by decide) ⟨rfl, rfl, rfl⟩
theorem m20 (V : Env1 Z a0 n0 uu0 uu1 uu2 uu3 uu4)  (h0 : Heap) (hO : Old Z n0 h0)  :
  Met Z a0 ELs True n0 l ⟨"java/lang/Math", "min", "(II)I"⟩ Y43 2 (some .int) ⟨0, 0, 0, 0⟩ #[.int 0, .int 0] h0 [] (fun v h so => (v = some (.int 0) ∧ so = [] ∧ h0 = h)) := by
 refine Met.of (EWl V) (by first | decide +kernel | rfl) hO (L0 := #[.val (.int 0), .val (.int 0)]) rfl ?_
 intro p e s m below meth c T H
 refine G.iN H D3_0 (J := 1) rfl rfl ?_
 refine G.iN H D3_1 (J := 2) rfl rfl ?_
 refine G.cN H D3_2 (J := 5) rfl (by decide) ?_
 refine G.iN H D3_5 (J := 6) rfl rfl ?_
 refine G.go H D3_6 (by decide) (J := 10) rfl ?_
 exact G.retI H rfl D3_10 (so := []) all0 (by decide) (by decide) ⟨rfl, rfl, rfl⟩
theorem m21 (V : Env1 Z a0 n0 uu0 uu1 uu2 uu3 uu4) (p0 : Addr) (x0 : Int32) (d0 : ClassId) (h0 : Heap) (hO : Old Z n0 h0) (f0 : Arv Z h0 p0 d0 .byte 0 [] (.int 0)) :
  Met Z a0 ELs True n0 l ⟨"java/lang/StringLatin1", "indexOf", "([BIII)I"⟩ Y27 4 (some .int) ⟨1, 0, 0, 13⟩ #[.ref p0, .int x0, .int 0, .int 0] h0 [] (fun v h so => (x0 < 0 ∧ v = some (.int (-1 : Int32)) ∧ so = [] ∧ h0 = h) ∨ (¬ x0 < 0 ∧ 255 < x0 ∧ v = some (.int (-1 : Int32)) ∧ so = [] ∧ h0 = h) ∨ (¬ x0 < 0 ∧ ¬ 255 < x0 ∧ v = some (.int (-1 : Int32)) ∧ so = [] ∧ h0 = h)) := by
 refine Met.of (EWl V) (by first | decide +kernel | rfl) hO (L0 := #[.val (.ref p0), .val (.int x0), .val (.int 0), .val (.int 0)]) rfl ?_
 intro p e s m below meth c T H
 refine G.iN H D23_0 (J := 1) rfl rfl ?_
 refine G.cS H (m18 V x0 h0 H.old) (wq V 219 rfl) (wq V 220 rfl) (wd121 V) (wq V 221 rfl) [.int x0] [] 0 4 (lenOf (pd_9) rfl) D23_1 all0 (by decide) ?_
 intro T1 h1_ v2 s3 H1 Q4
 rcases Q4 with ⟨c5, rfl, rfl, rfl⟩ | ⟨c6, c7, rfl, rfl, rfl⟩ | ⟨c8, c9, rfl, rfl, rfl⟩
 ·
  show Go _ _ _ _ (T1.setTop (mkF m 4 _ [.int 0]))
  refine G.ifNo H1 D23_4 (J := 7) rfl (by decide) ?_
  refine G.iC H1 D23_7 (J := 8) rfl (v := (-1 : Int32)) rfl ?_
  exact G.retI H1 rfl D23_8 (so := []) all0 (by decide) (by decide) (Or.inl ⟨c5, rfl, rfl, rfl⟩)
 ·
  show Go _ _ _ _ (T1.setTop (mkF m 4 _ [.int 0]))
  refine G.ifNo H1 D23_4 (J := 7) rfl (by decide) ?_
  refine G.iC H1 D23_7 (J := 8) rfl (v := (-1 : Int32)) rfl ?_
  exact G.retI H1 rfl D23_8 (so := []) all0 (by decide) (by decide) (Or.inr (Or.inl ⟨c6, c7, rfl, rfl, rfl⟩))
 ·
  show Go _ _ _ _ (T1.setTop (mkF m 4 _ [.int 1]))
  refine G.ifYes H1 D23_4 (by decide) (by decide) (J := 9) rfl ?_
  refine G.iN H1 D23_9 (J := 10) rfl rfl ?_
  refine G.iC H1 D23_10 (J := 11) rfl (v := 0) rfl ?_
  refine G.cS H1 (m19 V h0 H1.old) (wq V 222 rfl) (wq V 223 rfl) (wq V 99 rfl) (wq V 224 rfl) [.int 0, .int 0] [] 0 14 (lenOf (pd_4) rfl) D23_11 all0 (by decide) ?_
  rintro T10 h10_ _ _ H10 ⟨rfl, rfl, rfl⟩
  show Go _ _ _ _ (T10.setTop (mkF m 14 _ [.int 0]))
  refine G.sN H10 (L' := #[.val (.ref p0), .val (.int x0), .val (.int 0), .val (.int 0)]) D23_14 (J := 15) rfl rfl ?_
  refine G.iN H10 D23_15 (J := 16) rfl rfl ?_
  refine G.aN H10 D23_16 (J := 17) rfl rfl rfl ?_
  refine G.aR H10 f0 D23_17 (J := 18) rfl ?_
  refine G.cS H10 (m20 V h0 H10.old) (wq V 225 rfl) (wq V 98 rfl) (wq V 99 rfl) (wq V 100 rfl) [.int 0, .int 0] [] 0 21 (lenOf (pd_4) rfl) D23_18 all0 (by decide) ?_
  rintro T14 h14_ _ _ H14 ⟨rfl, rfl, rfl⟩
  show Go _ _ _ _ (T14.setTop (mkF m 21 _ [.int 0]))
  refine G.sN H14 (L' := #[.val (.ref p0), .val (.int x0), .val (.int 0), .val (.int 0)]) D23_21 (J := 22) rfl rfl ?_
  refine G.iN H14 D23_22 (J := 23) rfl rfl ?_
  refine G.iN H14 D23_23 (J := 24) rfl rfl ?_
  refine G.cN H14 D23_24 (J := 27) rfl (by decide) ?_
  refine G.iC H14 D23_27 (J := 28) rfl (v := (-1 : Int32)) rfl ?_
  exact G.retI H14 rfl D23_28 (so := []) all0 (by decide) (by decide) (Or.inr (Or.inr ⟨c8, c9, rfl, rfl, rfl⟩))
theorem m22 (V : Env1 Z a0 n0 uu0 uu1 uu2 uu3 uu4) (p0 : Addr) (x0 : Int32) (p1 : Addr) (d0 : ClassId) (h0 : Heap) (hO : Old Z n0 h0) (f0 : Exa Z h0 p0 "java/lang/String") (f1 : Str Z h0 p0 p1 d0 []) :
  Met Z a0 ELs True n0 l ⟨"java/lang/String", "indexOf", "(II)I"⟩ Y39 3 (some .int) ⟨2, 0, 0, 28⟩ #[.ref p0, .int x0, .int 0] h0 [] (fun v h so => (x0 < 0 ∧ v = some (.int (-1 : Int32)) ∧ so = [] ∧ h0 = h) ∨ (¬ x0 < 0 ∧ 255 < x0 ∧ v = some (.int (-1 : Int32)) ∧ so = [] ∧ h0 = h) ∨ (¬ x0 < 0 ∧ ¬ 255 < x0 ∧ v = some (.int (-1 : Int32)) ∧ so = [] ∧ h0 = h)) := by
 refine Met.of (EWl V) (by first | decide +kernel | rfl) hO (L0 := #[.val (.ref p0), .val (.int x0), .val (.int 0)]) rfl ?_
 intro p e s m below meth c T H
 refine G.aN H D22_0 (J := 1) rfl rfl rfl ?_
 refine G.cV H (m15 V p0 p1 d0 h0 H.old f1) (wq V 186 rfl) (wq V 187 rfl) (nf_sel (wd189 V)) (wd189 V) (wq V 188 rfl) (wd11 V) (wq V 190 rfl) f0 [] [] 0 4 (lenOf (pd_1) rfl) D22_1 all0 (by decide) ?_
 rintro T1 h1_ _ _ H1 ⟨rfl, rfl, rfl⟩
 show Go _ _ _ _ (T1.setTop (mkF m 4 _ [.int 1]))
 refine G.ifNo H1 D22_4 (J := 7) rfl (by decide) ?_
 refine G.aN H1 D22_7 (J := 8) rfl rfl rfl ?_
 refine G.getF H1 (wd29 V) Via.refl f1.2.2.1 D22_8 (J := 11) rfl ?_
 intro T5 H6
 refine G.iN H6 D22_11 (J := 12) rfl rfl ?_
 refine G.iN H6 D22_12 (J := 13) rfl rfl ?_
 refine G.aN H6 D22_13 (J := 14) rfl rfl rfl ?_
 refine G.cV H6 (m17 V p0 p1 d0 h0 H6.old f1) (wq V 215 rfl) (wd106 V) (nf_sel (wd108 V)) (wd108 V) (wd107 V) (wd11 V) (wd109 V) f0 [] [.int 0, .int x0, .ref p1] 3 17 (lenOf (pd_11) rfl) D22_14 all0 (by decide) ?_
 rintro T7 h7_ _ _ H7 ⟨rfl, rfl, rfl⟩
 show Go _ _ _ _ (T7.setTop (mkF m 17 _ [.int 0, .int 0, .int x0, .ref p1]))
 have A11 : Arv Z h0 p1 d0 .byte 0 [] (.int 0) := f1.2.2.2.1
 refine G.cS H7 (m21 V p1 x0 d0 h0 H7.old A11) (wq V 216 rfl) (wq V 217 rfl) (wd121 V) (wq V 218 rfl) [.ref p1, .int x0, .int 0, .int 0] [] 0 20 (lenOf (pd_12) rfl) D22_17 all0 (by decide) ?_
 intro T12 h12_ v13 s14 H12 Q15
 rcases Q15 with ⟨c16, rfl, rfl, rfl⟩ | ⟨c17, c18, rfl, rfl, rfl⟩ | ⟨c19, c20, rfl, rfl, rfl⟩
 ·
  show Go _ _ _ _ (T12.setTop (mkF m 20 _ [(.int (-1 : Int32))]))
  refine G.go H12 D22_20 (by decide) (J := 36) rfl ?_
  exact G.retI H12 rfl D22_36 (so := []) all0 (by decide) (by decide) (Or.inl ⟨c16, rfl, rfl, rfl⟩)
 ·
  show Go _ _ _ _ (T12.setTop (mkF m 20 _ [(.int (-1 : Int32))]))
  refine G.go H12 D22_20 (by decide) (J := 36) rfl ?_
  exact G.retI H12 rfl D22_36 (so := []) all0 (by decide) (by decide) (Or.inr (Or.inl ⟨c17, c18, rfl, rfl, rfl⟩))
 ·
  show Go _ _ _ _ (T12.setTop (mkF m 20 _ [(.int (-1 : Int32))]))
  refine G.go H12 D22_20 (by decide) (J := 36) rfl ?_
  exact G.retI H12 rfl D22_36 (so := []) all0 (by decide) (by decide) (Or.inr (Or.inr ⟨c19, c20, rfl, rfl, rfl⟩))
theorem m23 (V : Env1 Z a0 n0 uu0 uu1 uu2 uu3 uu4) (p0 : Addr) (x0 : Int32) (p1 : Addr) (d0 : ClassId) (h0 : Heap) (hO : Old Z n0 h0) (f0 : Exa Z h0 p0 "java/lang/String") (f1 : Str Z h0 p0 p1 d0 []) :
  Met Z a0 ELs True n0 l ⟨"java/lang/String", "indexOf", "(I)I"⟩ Y65 2 (some .int) ⟨3, 0, 0, 42⟩ #[.ref p0, .int x0] h0 [] (fun v h so => (v = some (.int (-1 : Int32)) ∧ so = [] ∧ h0 = h)) := by
 refine Met.of (EWl V) (by first | decide +kernel | rfl) hO (L0 := #[.val (.ref p0), .val (.int x0)]) rfl ?_
 intro p e s m below meth c T H
 refine G.aN H D21_0 (J := 1) rfl rfl rfl ?_
 refine G.iN H D21_1 (J := 2) rfl rfl ?_
 refine G.iC H D21_2 (J := 3) rfl (v := 0) rfl ?_
 refine G.cV H (m22 V p0 x0 p1 d0 h0 H.old f0 f1) (wq V 210 rfl) (wq V 211 rfl) (nf_sel (wq V 213 rfl)) (wq V 213 rfl) (wq V 212 rfl) (wd11 V) (wq V 214 rfl) f0 [.int x0, .int 0] [] 0 6 (lenOf (pd_4) rfl) D21_3 all0 (by decide) ?_
 intro T1 h1_ v2 s3 H1 Q4
 rcases Q4 with ⟨c5, rfl, rfl, rfl⟩ | ⟨c6, c7, rfl, rfl, rfl⟩ | ⟨c8, c9, rfl, rfl, rfl⟩
 ·
  show Go _ _ _ _ (T1.setTop (mkF m 6 _ [(.int (-1 : Int32))]))
  exact G.retI H1 rfl D21_6 (so := []) all0 (by decide) (by decide) ⟨rfl, rfl, rfl⟩
 ·
  show Go _ _ _ _ (T1.setTop (mkF m 6 _ [(.int (-1 : Int32))]))
  exact G.retI H1 rfl D21_6 (so := []) all0 (by decide) (by decide) ⟨rfl, rfl, rfl⟩
 ·
  show Go _ _ _ _ (T1.setTop (mkF m 6 _ [(.int (-1 : Int32))]))
  exact G.retI H1 rfl D21_6 (so := []) all0 (by decide) (by decide) ⟨rfl, rfl, rfl⟩
theorem own_iter (V : Env1 Z a0 n0 uu0 uu1 uu2 uu3 uu4) {P : State → Outcome → Prop} {sf : List Addr} {s6 : Slot} (a tx p1 p2 p3 t2 : Addr) (k1 k2 k3 : ClassId) (w n i : Nat) (X : List Int32) (vs : List Value) (b : Int32) (H : Hs p l e ⟨8, 6, 240, 150⟩ s m as' below meth c Z a0 ELs True "com/example/schema_to_form/schematoform/server/PathSegments" n0 Y5 7 none "appendEncoded" T h0 C S (p1 :: sf))
  (B : Bld Z h0 a p1 k1 w X) (g0 : n0 ≤ a) (g1 : n0 ≤ p1) (hb : Bud w C S 6 240) (hX : X.length ≤ 54) (A3 : Arv Z h0 p3 k3 .byte (Int32.ofNat n) vs (.int 0)) (hv : vs.getD (Int32.ofNat i).toNatClampNeg (.int 0) = .int b) (hi : i < n) (hn : n ≤ 6) (S2 : Str Z h0 p2 t2 k2 []) (q31 : p3 ≠ p1) (q21 : t2 ≠ p1) (hs6 : s6 = .unset ∨ ∃ y, s6 = .val (.int y))
  (k : ∀ T' h' p' k' w' C' S', Hs p l e ⟨8, 6, 240, 150⟩ s m as' below meth c Z a0 ELs True "com/example/schema_to_form/schematoform/server/PathSegments" n0 Y5 7 none "appendEncoded" T' h' C' S' (p' :: sf) → Keep h0 h' [a, p1] → n0 ≤ p' → (p' = p1 ∨ h0.size ≤ p') → Bld Z h' a p' k' w' (X ++ encB b) → Bud w' C' S' 6 240 → Go p e below P (T'.setTop (mkF m 32 #[.val (.ref a), .val (.ref tx), .val (.ref p2), .val (.ref p3), .val (.int (Int32.ofNat n)), .val (.int (Int32.ofNat (i + 1))), .val (.int b)] []))) :
  Go p e below P (T.setTop (mkF m 32 #[.val (.ref a), .val (.ref tx), .val (.ref p2), .val (.ref p3), .val (.int (Int32.ofNat n)), .val (.int (Int32.ofNat i)), s6] [])) := by
 have hle := B.2.2.2.2.2.1
 have hcp := hb.cap
 unfold Cap at hcp
 refine G.iL H D72_32 (J := 34) rfl rfl ?_
 refine G.iL H D72_34 (J := 36) rfl rfl ?_
 refine G.cN H D72_36 (J := 39) rfl (XT.ii_ge_f (own_ltT (a := i) (b := n) (by omega) (by omega) (by omega))) ?_
 refine G.aN H D72_39 (J := 40) rfl rfl rfl ?_
 refine G.iL H D72_40 (J := 42) rfl rfl ?_
 refine G.baloadG H A3 (j := (Int32.ofNat i)) (v := (.int b)) ⟨own_nn (a := i) (by omega), own_ltT (a := i) (b := n) (by omega) (by omega) (by omega)⟩ hv D72_42 (J := 43) rfl ?_
 refine G.sI H (L' := #[.val (.ref a), .val (.ref tx), .val (.ref p2), .val (.ref p3), .val (.int (Int32.ofNat n)), .val (.int (Int32.ofNat i)), .val (.int b)]) D72_43 (J := 45) rfl (by rcases hs6 with rfl | ⟨y, rfl⟩ <;> rfl) ?_
 refine G.iL H D72_45 (J := 47) rfl rfl ?_
 refine G.callS H (m14 V b h0 H.old) (wq V 202 rfl) (wq V 203 rfl) (wd34 V) (wq V 204 rfl) (by decide) (argsL := [.int b]) (rest := []) (W := 0) rfl rfl (lenOf (pd_9) rfl) rfl rfl D72_47 (J := 50) rfl (by decide) (by decide) (own_bC (Bud.cc hb) (by decide)) (own_bC (Bud.ss hb) (by decide)) all0 ?_
 rintro T1 h1_ _ _ H1 ⟨rfl, rfl, r5, rfl⟩
 show Go _ _ _ _ (T1.setTop (mkF m 50 _ [(.int (unrB b))]))
 by_cases c6 : (unrB b) = 0
 ·
  refine G.ifNo H1 D72_50 (J := 53) rfl (XT.i0_ne_f c6) ?_
  refine G.aN H1 D72_53 (J := 54) rfl rfl rfl ?_
  refine G.iL H1 D72_54 (J := 56) rfl rfl ?_
  refine G.callV H1 (m23 V p2 b t2 k2 h0 H1.old S2.1 S2) (wq V 205 rfl) (wq V 206 rfl) (nf_sel (wd208 V)) (wd208 V) (wq V 207 rfl) (wd11 V) (wq V 209 rfl) (by decide) S2.1 (argsL := [.int b]) (rest := []) (W := 0) rfl rfl (lenOf (pd_6) rfl) rfl rfl D72_56 (J := 59) rfl (by decide) (by decide) (own_bC (Bud.cc hb) (by decide)) (own_bC (Bud.ss hb) (by decide)) all0 ?_
  rintro T7 h7_ _ _ H7 ⟨rfl, rfl, rfl⟩
  show Go _ _ _ _ (T7.setTop (mkF m 59 _ [(.int (-1 : Int32))]))
  refine G.ifYes H7 D72_59 (by decide) (by decide) (J := 73) rfl ?_
  refine G.aN H7 D72_73 (J := 74) rfl rfl rfl ?_
  refine G.bP H7 D72_74 (J := 76) rfl (v := 37) rfl ?_
  refine own_appC V H7 (wd130 V) (k1 := k1) (w := w) (X := X) (x := 37) ⟨B.1, B.2.1, B.2.2.1, B.2.2.2.1, B.2.2.2.2.1, (by omega), B.2.2.2.2.2.2⟩ g0 g1 (mG (i := 0) rfl) (by decide) (by omega) hb (by decide) (by decide) (W := 0) (by decide) (by decide) (rest := []) rfl rfl D72_76 (J := 79) rfl ?_
  intro T11 h11_ b12 k13 w14 C15 S16 H11 K17 g18 N19 B20 hb21
  have cp22 := Bud.cap hb21; unfold Cap at cp22; have le23 := B20.2.2.2.2.2.1
  simp only [qa, qc, qn] at le23
  show Go _ _ _ _ (T11.setTop (mkF m 79 _ [.ref a]))
  refine G.getS H11 (wq V 256 rfl) Via.refl (Sta.ext H11.old.2 (hv0 V)) D72_79 (J := 82) rfl ?_
  intro T24 H25
  refine G.iL H25 D72_82 (J := 84) rfl rfl ?_
  refine G.iC H25 D72_84 (J := 85) rfl (v := 4) rfl ?_
  refine G.ishr H25 D72_85 (J := 86) rfl ?_
  refine G.bP H25 D72_86 (J := 88) rfl (v := 15) rfl ?_
  refine G.iand H25 D72_88 (J := 89) rfl ?_
  have B26 := Arv.ext (hv12 V) H25.old.2
  refine G.caloadG H25 B26 (j := ((b >>> ((4 : Int32) &&& 31)) &&& 15)) (v := (.int (hexD ((b >>> ((4 : Int32) &&& 31)) &&& 15)))) (own_hexj (own_and15 _)) (own_hexv (own_and15 _)) D72_89 (J := 90) rfl ?_
  refine own_appC V H25 (wd130 V) (k1 := k13) (w := w14) (X := (X ++ [37])) (x := (hexD ((b >>> ((4 : Int32) &&& 31)) &&& 15))) ⟨B20.1, B20.2.1, B20.2.2.1, B20.2.2.2.1, B20.2.2.2.2.1, (by simp only [qa, qc, qn] <;> omega), B20.2.2.2.2.2.2⟩ g0 g18 (mG (i := 0) rfl) (own_hexr (own_and15 _)) (by simp only [qa, qc, qn] <;> omega) hb21 (by decide) (by decide) (W := 0) (by decide) (by decide) (rest := []) rfl rfl D72_90 (J := 93) rfl ?_
  intro T27 h27_ b28 k29 w30 C31 S32 H27 K33 g34 N35 B36 hb37
  have cp38 := Bud.cap hb37; unfold Cap at cp38; have le39 := B36.2.2.2.2.2.1
  simp only [qa, qc, qn] at le39
  show Go _ _ _ _ (T27.setTop (mkF m 93 _ [.ref a]))
  refine G.getS H27 (wq V 256 rfl) Via.refl (Sta.ext H27.old.2 (hv0 V)) D72_93 (J := 96) rfl ?_
  intro T40 H41
  refine G.iL H41 D72_96 (J := 98) rfl rfl ?_
  refine G.bP H41 D72_98 (J := 100) rfl (v := 15) rfl ?_
  refine G.iand H41 D72_100 (J := 101) rfl ?_
  have F42 := (Arv.keep B26 K33 (ninS (OwnKit.ne_old H41.old (hv12 V).lt g0) (ninS (OwnKit.ne_old H41.old (hv12 V).lt g18) nin0)))
  refine G.caloadG H41 F42 (j := (b &&& 15)) (v := (.int (hexD (b &&& 15)))) (own_hexj (own_and15 _)) (own_hexv (own_and15 _)) D72_101 (J := 102) rfl ?_
  refine own_appC V H41 (wd130 V) (k1 := k29) (w := w30) (X := ((X ++ [37]) ++ [(hexD ((b >>> ((4 : Int32) &&& 31)) &&& 15))])) (x := (hexD (b &&& 15))) ⟨B36.1, B36.2.1, B36.2.2.1, B36.2.2.2.1, B36.2.2.2.2.1, (by simp only [qa, qc, qn] <;> omega), B36.2.2.2.2.2.2⟩ g0 g34 (mG (i := 0) rfl) (own_hexr (own_and15 _)) (by simp only [qa, qc, qn] <;> omega) hb37 (by decide) (by decide) (W := 0) (by decide) (by decide) (rest := []) rfl rfl D72_102 (J := 105) rfl ?_
  intro T43 h43_ b44 k45 w46 C47 S48 H43 K49 g50 N51 B52 hb53
  have cp54 := Bud.cap hb53; unfold Cap at cp54; have le55 := B52.2.2.2.2.2.1
  simp only [qa, qc, qn] at le55
  show Go _ _ _ _ (T43.setTop (mkF m 105 _ [.ref a]))
  refine G.pop H43 D72_105 (J := 106) rfl rfl ?_
  refine G.iI H43 (v := (Int32.ofNat (i + 1))) (L' := #[.val (.ref a), .val (.ref tx), .val (.ref p2), .val (.ref p3), .val (.int (Int32.ofNat n)), .val (.int (Int32.ofNat (i + 1))), .val (.int b)]) D72_106 (J := 109) rfl rfl (own_inc _) rfl ?_
  refine G.go H43 D72_109 (by decide) (J := 32) rfl ?_
  show Go _ _ _ _ (T43.setTop (mkF m 32 _ []))
  have K56 : Keep h0 h11_ [a, p1] := (Keep.trans (Keep.refl h0 [a, p1]) K17 (allS (Or.inl (mG (i := 0) rfl)) (allS (Or.inl (mG (i := 1) rfl)) all0)))
  have K57 : Keep h0 h43_ [a, p1] := (Keep.trans (Keep.trans (Keep.trans (Keep.refl h0 [a, p1]) K17 (allS (Or.inl (mG (i := 0) rfl)) (allS (Or.inl (mG (i := 1) rfl)) all0))) K33 (allS (Or.inl (mG (i := 0) rfl)) (allS (own_nw N19 (Or.inl (mG (i := 1) rfl)) (Nat.le_refl _)) all0))) K49 (allS (Or.inl (mG (i := 0) rfl)) (allS (own_nw N35 (own_nw N19 (Or.inl (mG (i := 1) rfl)) (Nat.le_refl _)) K56.1) all0)))
  have K58 : Keep h0 h27_ [a, p1] := (Keep.trans K56 K33 (allS (Or.inl (mG (i := 0) rfl)) (allS (own_nw N19 (Or.inl (mG (i := 1) rfl)) (Nat.le_refl _)) all0)))
  exact k T43 h43_ b44 k45 w46 _ _ (H43.less (fun y hy => (List.mem_cons.mp hy).elim (fun u => u ▸ List.mem_of_getElem? (i := 0) rfl) (fun u => List.mem_of_mem_drop (i := 4) u))) K57 g50 (own_nw2 N51 (own_nw2 N35 N19 K56.1) K58.1) (own_bl B52 (own_encp c6)) hb53
 ·
  refine G.ifYes H1 D72_50 (XT.i0_ne_t c6) (by decide) (J := 62) rfl ?_
  refine G.aN H1 D72_62 (J := 63) rfl rfl rfl ?_
  refine G.iL H1 D72_63 (J := 65) rfl rfl ?_
  refine G.i2c H1 (y := b) D72_65 (J := 66) rfl (own_c16 (own_u16 (own_unr8 c6))) ?_
  refine own_appC V H1 (wd130 V) (k1 := k1) (w := w) (X := X) (x := b) ⟨B.1, B.2.1, B.2.2.1, B.2.2.2.1, B.2.2.2.2.1, (by omega), B.2.2.2.2.2.2⟩ g0 g1 (mG (i := 0) rfl) (own_unr8 c6) (by omega) hb (by decide) (by decide) (W := 0) (by decide) (by decide) (rest := []) rfl rfl D72_66 (J := 69) rfl ?_
  intro T59 h59_ b60 k61 w62 C63 S64 H59 K65 g66 N67 B68 hb69
  have cp70 := Bud.cap hb69; unfold Cap at cp70; have le71 := B68.2.2.2.2.2.1
  simp only [qa, qc, qn] at le71
  show Go _ _ _ _ (T59.setTop (mkF m 69 _ [.ref a]))
  refine G.pop H59 D72_69 (J := 70) rfl rfl ?_
  refine G.go H59 D72_70 (by decide) (J := 106) rfl ?_
  refine G.iI H59 (v := (Int32.ofNat (i + 1))) (L' := #[.val (.ref a), .val (.ref tx), .val (.ref p2), .val (.ref p3), .val (.int (Int32.ofNat n)), .val (.int (Int32.ofNat (i + 1))), .val (.int b)]) D72_106 (J := 109) rfl rfl (own_inc _) rfl ?_
  refine G.go H59 D72_109 (by decide) (J := 32) rfl ?_
  show Go _ _ _ _ (T59.setTop (mkF m 32 _ []))
  have K72 : Keep h0 h59_ [a, p1] := (Keep.trans (Keep.refl h0 [a, p1]) K65 (allS (Or.inl (mG (i := 0) rfl)) (allS (Or.inl (mG (i := 1) rfl)) all0)))
  exact k T59 h59_ b60 k61 w62 _ _ (H59.less (fun y hy => (List.mem_cons.mp hy).elim (fun u => u ▸ List.mem_of_getElem? (i := 0) rfl) (fun u => List.mem_of_mem_drop (i := 2) u))) K72 g66 N67 (own_bl B68 (own_encu c6)) hb69

theorem own_loop (V : Env1 Z a0 n0 uu0 uu1 uu2 uu3 uu4) {P : State → Outcome → Prop} (a tx p2 p3 t2 : Addr) (k2 k3 : ClassId) (n : Nat) (bs : List Int32) (hn : n = bs.length) (h6 : n ≤ 6) : ∀ (r : Nat) {T : State} {h0 : Heap} {C S : Nat} {sf : List Addr} {s6 : Slot} (p1 : Addr) (k1 : ClassId) (w i : Nat) (X : List Int32) (_ : i + r = n) (_ : Hs p l e ⟨8, 6, 240, 150⟩ s m as' below meth c Z a0 ELs True "com/example/schema_to_form/schematoform/server/PathSegments" n0 Y5 7 none "appendEncoded" T h0 C S (p1 :: sf)) (_ : Bld Z h0 a p1 k1 w X) (_ : n0 ≤ a) (_ : n0 ≤ p1) (_ : Bud w C S 6 240) (_ : X.length + 3 * r ≤ 57) (_ : Arv Z h0 p3 k3 .byte (Int32.ofNat n) (bs.map Value.int) (.int 0)) (_ : Str Z h0 p2 t2 k2 []) (_ : p3 ≠ p1) (_ : t2 ≠ p1) (_ : s6 = .unset ∨ ∃ y, s6 = .val (.int y))
    (_ : ∀ T' h' p' k' w' C' S' s6', Hs p l e ⟨8, 6, 240, 150⟩ s m as' below meth c Z a0 ELs True "com/example/schema_to_form/schematoform/server/PathSegments" n0 Y5 7 none "appendEncoded" T' h' C' S' (p' :: sf) → Keep h0 h' [a, p1] → n0 ≤ p' → (p' = p1 ∨ h0.size ≤ p') → Bld Z h' a p' k' w' (X ++ encBs (bs.drop i)) → Bud w' C' S' 6 240 → Go p e below P (T'.setTop (mkF m 32 #[.val (.ref a), .val (.ref tx), .val (.ref p2), .val (.ref p3), .val (.int (Int32.ofNat n)), .val (.int (Int32.ofNat n)), s6'] []))),
    Go p e below P (T.setTop (mkF m 32 #[.val (.ref a), .val (.ref tx), .val (.ref p2), .val (.ref p3), .val (.int (Int32.ofNat n)), .val (.int (Int32.ofNat i)), s6] [])) := by
  intro r
  induction r with
  | zero =>
    intro T h0 C S sf s6 p1 k1 w i X hr H B g0 g1 hb hX A3 S2 q31 q21 hs6 k
    have hi : i = n := by omega
    subst hi
    refine k T h0 p1 k1 w C S s6 H (Keep.refl h0 _) g1 (Or.inl rfl) (own_bl B ?_) hb
    rw [List.drop_of_length_le (by omega)]; exact (List.append_nil X).symm
  | succ r ih =>
    intro T h0 C S sf s6 p1 k1 w i X hr H B g0 g1 hb hX A3 S2 q31 q21 hs6 k
    have hi : i < n := by omega
    have hi2 : i < bs.length := by omega
    refine own_iter V a tx p1 p2 p3 t2 k1 k2 k3 w n i X (bs.map Value.int) (bs.getD i 0) H B g0 g1 hb (by omega) A3 ?_ hi h6 S2 q31 q21 hs6 ?_
    · rw [own_cl (by omega), List.getD_eq_getElem?_getD, List.getElem?_map, List.getD_eq_getElem?_getD]; exact own_gm _
    intro T1 h1 p' k' w' C' S' H1 K g N B1 hb1
    have na : p3 ≠ a := Ne.symm (Exa.neArv B.1 A3 (wd37 V))
    have ta : t2 ≠ a := Ne.symm (Exa.neArv B.1 S2.2.2.2.1 (wd37 V))
    have pa : p2 ≠ a := Exa.ne S2.1 B.1 (by decide)
    have pp : p2 ≠ p1 := Exa.neArv S2.1 B.2.2.2.2.1 (wd10 V)
    have lb := own_encl (bs.getD i 0)
    refine ih p' k' w' (i + 1) (X ++ encB (bs.getD i 0)) (by omega) H1 B1 g0 g hb1 (by rw [List.length_append]; omega) (Arv.keep A3 K (ninS na (ninS q31 nin0))) (Str.keep S2 K (ninS pa (ninS pp nin0)) (ninS ta (ninS q21 nin0))) (own_nef N A3.lt q31) (own_nef N S2.2.2.2.1.lt q21) (Or.inr ⟨_, rfl⟩) ?_
    intro T2 h2 p'' k'' w'' C'' S'' s6'' H2 K2 g2 N2 B2 hb2
    refine k T2 h2 p'' k'' w'' C'' S'' s6'' H2 (Keep.trans K K2 (allS (Or.inl (mG (i := 0) rfl)) (allS (own_nw N (Or.inl (mG (i := 1) rfl)) (Nat.le_refl _)) all0))) g2 (own_nw2 N2 N K.1) (own_bl B2 ?_) hb2
    rw [List.append_assoc, List.drop_eq_getElem_cons hi2]
    have e : bs.getD i 0 = bs[i] := by simp [List.getD_eq_getElem?_getD, hi2]
    rw [e]; rfl

theorem m24 (V : Env1 Z a0 n0 uu0 uu1 uu2 uu3 uu4) (x0 : Int32) (x1 : Int32) (h0 : Heap) (hO : Old Z n0 h0)  :
  Met Z a0 ELs True n0 l ⟨"com/example/schema_to_form/schematoform/server/PathSegmentsPathPinLaw", "unit", "(II)C"⟩ Y3 3 (some .char) ⟨0, 0, 0, 0⟩ #[.int x0, .int x1] h0 [] (fun v h so => (∃ y : Int32, v = some (.int y) ∧ so = [] ∧ (¬ y < 0 ∧ ¬ 65535 < y) ∧ h0 = h ∧ (y < 55296 ∨ ¬ y < 57344))) := by
 refine Met.of (EWl V) (by first | decide +kernel | rfl) hO (L0 := #[.val (.int x0), .val (.int x1), .unset]) rfl ?_
 intro p e s m below meth c T H
 refine G.iN H D62_0 (J := 1) rfl rfl ?_
 refine G.ldcI H (wq V 4 rfl) D62_1 (J := 3) rfl ?_
 refine G.iand H D62_3 (J := 4) rfl ?_
 refine G.sN H (L' := #[.val (.int x0), .val (.int x1), .val (.int (x0 &&& 65535))]) D62_4 (J := 5) rfl rfl ?_
 refine G.iN H D62_5 (J := 6) rfl rfl ?_
 by_cases c1 : x1 = 0
 ·
  refine G.ifYes H D62_6 (XT.i0_eq_t c1) (by decide) (J := 14) rfl ?_
  refine G.iN H D62_14 (J := 15) rfl rfl ?_
  refine G.ldcI H (wq V 5 rfl) D62_15 (J := 17) rfl ?_
  by_cases c2 : (x0 &&& 65535) < 55296
  ·
   refine G.cY H D62_17 (XT.ii_lt_t c2) (by decide) (J := 32) rfl ?_
   refine G.iN H D62_32 (J := 33) rfl rfl ?_
   refine G.i2c H (y := (x0 &&& 65535)) D62_33 (J := 34) rfl (own_c16 (own_and65535 _)) ?_
   exact G.retN H (t := .char) rfl (by decide) D62_34 (so := []) all0 (by decide) (by decide) ⟨(x0 &&& 65535), (congrArg (fun q => some (Value.int q)) (own_narC (own_and65535 _))), rfl, (own_and65535 _), rfl, (Or.inl c2)⟩
  ·
   refine G.cN H D62_17 (J := 20) rfl (XT.ii_lt_f c2) ?_
   refine G.iN H D62_20 (J := 21) rfl rfl ?_
   refine G.ldcI H (wq V 330 rfl) D62_21 (J := 23) rfl ?_
   by_cases c3 : 57343 < (x0 &&& 65535)
   ·
    refine G.cY H D62_23 (XT.ii_gt_t c3) (by decide) (J := 32) rfl ?_
    refine G.iN H D62_32 (J := 33) rfl rfl ?_
    refine G.i2c H (y := (x0 &&& 65535)) D62_33 (J := 34) rfl (own_c16 (own_and65535 _)) ?_
    exact G.retN H (t := .char) rfl (by decide) D62_34 (so := []) all0 (by decide) (by decide) ⟨(x0 &&& 65535), (congrArg (fun q => some (Value.int q)) (own_narC (own_and65535 _))), rfl, (own_and65535 _), rfl, (Or.inr (own_gt57 c3))⟩
   ·
    refine G.cN H D62_23 (J := 26) rfl (XT.ii_gt_f c3) ?_
    refine G.iN H D62_26 (J := 27) rfl rfl ?_
    refine G.sP H D62_27 (J := 30) rfl (v := 8192) rfl ?_
    refine G.ixor H D62_30 (J := 31) rfl ?_
    refine G.sN H (L' := #[.val (.int x0), .val (.int x1), .val (.int ((x0 &&& 65535) ^^^ 8192))]) D62_31 (J := 32) rfl rfl ?_
    refine G.iN H D62_32 (J := 33) rfl rfl ?_
    refine G.i2c H (y := ((x0 &&& 65535) ^^^ 8192)) D62_33 (J := 34) rfl (own_c16 (own_xor c2 c3).1) ?_
    exact G.retN H (t := .char) rfl (by decide) D62_34 (so := []) all0 (by decide) (by decide) ⟨((x0 &&& 65535) ^^^ 8192), (congrArg (fun q => some (Value.int q)) (own_narC (own_xor c2 c3).1)), rfl, (own_xor c2 c3).1, rfl, (Or.inr (own_xor c2 c3).2)⟩
 ·
  refine G.ifNo H D62_6 (J := 9) rfl (XT.i0_eq_f c1) ?_
  refine G.iN H D62_9 (J := 10) rfl rfl ?_
  refine G.bP H D62_10 (J := 12) rfl (v := 127) rfl ?_
  refine G.iand H D62_12 (J := 13) rfl ?_
  refine G.sN H (L' := #[.val (.int x0), .val (.int x1), .val (.int ((x0 &&& 65535) &&& 127))]) D62_13 (J := 14) rfl rfl ?_
  refine G.iN H D62_14 (J := 15) rfl rfl ?_
  refine G.ldcI H (wq V 5 rfl) D62_15 (J := 17) rfl ?_
  by_cases c4 : ((x0 &&& 65535) &&& 127) < 55296
  ·
   refine G.cY H D62_17 (XT.ii_lt_t c4) (by decide) (J := 32) rfl ?_
   refine G.iN H D62_32 (J := 33) rfl rfl ?_
   refine G.i2c H (y := ((x0 &&& 65535) &&& 127)) D62_33 (J := 34) rfl (own_c16 (own_and127 _)) ?_
   exact G.retN H (t := .char) rfl (by decide) D62_34 (so := []) all0 (by decide) (by decide) ⟨((x0 &&& 65535) &&& 127), (congrArg (fun q => some (Value.int q)) (own_narC (own_and127 _))), rfl, (own_and127 _), rfl, (Or.inl c4)⟩
  ·
   refine G.cN H D62_17 (J := 20) rfl (XT.ii_lt_f c4) ?_
   refine G.iN H D62_20 (J := 21) rfl rfl ?_
   refine G.ldcI H (wq V 330 rfl) D62_21 (J := 23) rfl ?_
   by_cases c5 : 57343 < ((x0 &&& 65535) &&& 127)
   ·
    refine G.cY H D62_23 (XT.ii_gt_t c5) (by decide) (J := 32) rfl ?_
    refine G.iN H D62_32 (J := 33) rfl rfl ?_
    refine G.i2c H (y := ((x0 &&& 65535) &&& 127)) D62_33 (J := 34) rfl (own_c16 (own_and127 _)) ?_
    exact G.retN H (t := .char) rfl (by decide) D62_34 (so := []) all0 (by decide) (by decide) ⟨((x0 &&& 65535) &&& 127), (congrArg (fun q => some (Value.int q)) (own_narC (own_and127 _))), rfl, (own_and127 _), rfl, (Or.inr (own_gt57 c5))⟩
   ·
    refine G.cN H D62_23 (J := 26) rfl (XT.ii_gt_f c5) ?_
    refine G.iN H D62_26 (J := 27) rfl rfl ?_
    refine G.sP H D62_27 (J := 30) rfl (v := 8192) rfl ?_
    refine G.ixor H D62_30 (J := 31) rfl ?_
    refine G.sN H (L' := #[.val (.int x0), .val (.int x1), .val (.int (((x0 &&& 65535) &&& 127) ^^^ 8192))]) D62_31 (J := 32) rfl rfl ?_
    refine G.iN H D62_32 (J := 33) rfl rfl ?_
    refine G.i2c H (y := (((x0 &&& 65535) &&& 127) ^^^ 8192)) D62_33 (J := 34) rfl (own_c16 (own_xor c4 c5).1) ?_
    exact G.retN H (t := .char) rfl (by decide) D62_34 (so := []) all0 (by decide) (by decide) ⟨(((x0 &&& 65535) &&& 127) ^^^ 8192), (congrArg (fun q => some (Value.int q)) (own_narC (own_xor c4 c5).1)), rfl, (own_xor c4 c5).1, rfl, (Or.inr (own_xor c4 c5).2)⟩
theorem m25 (V : Env1 Z a0 n0 uu0 uu1 uu2 uu3 uu4) (p0 : Addr) (p1 : Addr) (h0 : Heap) (hO : Old Z n0 h0) (f0 : Exa Z h0 p0 "java/lang/String") (f1 : Fld Z h0 p0 "java/lang/String" "value" "[B" .null) (g2 : n0 ≤ p0) (f3 : Fld Z h0 p0 "java/lang/String" "coder" "B" (.int 0)) :
  Met Z a0 ELs True n0 l ⟨"java/lang/String", "<init>", "([CIILjava/lang/Void;)V"⟩ Y12 6 none ⟨1, 4, 8, 12⟩ #[.ref p0, .ref p1, .int 0, .int 0, .null] h0 [p0] (fun v h so => (∃ b6 : Addr, ∃ k7 : ClassId, v = none ∧ so = [] ∧ Keep h0 h [p0] ∧ (∀ (O n d : String) (w : Value), Fld Z h0 p0 O n d w → RoadKit.slotOf Z O n d ≠ RoadKit.slotOf Z "java/lang/String" "value" "[B" → RoadKit.slotOf Z O n d ≠ RoadKit.slotOf Z "java/lang/String" "coder" "B" → Fld Z h p0 O n d w) ∧ Exa Z h p0 "java/lang/String" ∧ Fld Z h p0 "java/lang/String" "value" "[B" (.ref b6) ∧ Fld Z h p0 "java/lang/String" "coder" "B" (.int 0) ∧ Arv Z h b6 k7 .byte 0 [] (.int 0))) := by
 refine Met.of (EWl V) (by first | decide +kernel | rfl) hO (L0 := #[.val (.ref p0), .val (.ref p1), .val (.int 0), .val (.int 0), .val .null, .unset]) rfl ?_
 intro p e s m below meth c T H
 refine G.aN H D7_0 (J := 1) rfl rfl rfl ?_
 refine G.initO H (wq V 20 rfl) (wq V 21 rfl) (wq V 22 rfl) rfl D7_1 (J := 4) rfl (by decide) (W := 0) rfl (by decide) ?_
 intro T1 H2
 refine G.iN H2 D7_4 (J := 5) rfl rfl ?_
 refine G.ifNo H2 D7_5 (J := 8) rfl (by decide) ?_
 refine G.aN H2 D7_8 (J := 9) rfl rfl rfl ?_
 refine G.ldcS H2 trivial (wS V) (wq V 23 rfl) (by decide) (vs := []) (z := 0) (by decide) (by decide) rfl (n := 0) (by decide) (by decide) (by decide) (by decide) D7_9 (J := 11) rfl ?_
 intro T3 h3_ a4 b6 k7 H3 E5 X8 F9 F10 A11 Q12
 have S13 : Str Z h3_ a4 b6 k7 [] := ⟨X8, F9, F10, A11, by decide, by decide⟩
 refine G.getF H3 (wd29 V) Via.refl F10 D7_11 (J := 14) rfl ?_
 intro T14 H15
 have F16 := (Exa.ext E5 f0)
 have F17 := (Fld.ext E5 f1)
 refine G.putF H15 (wd29 V) Via.refl F17 F16 (Or.inr ⟨(wd25 V), rfl, rfl⟩) (wd10 V) (ty := (.array .byte)) (by decide) rfl rfl g2 (Sf.mem (mG (i := 0) rfl)) D7_14 (J := 17) rfl ?_
 intro T18 h18_ H18 W19
 have F20 : Fld Z h18_ p0 "java/lang/String" "value" "[B" (.ref b6) := Fld.same W19 F17
 refine G.aN H18 D7_17 (J := 18) rfl rfl rfl ?_
 refine G.ldcS H18 trivial (wS V) (wq V 23 rfl) (by decide) (vs := []) (z := 0) (by decide) (by decide) rfl (n := 0) (by decide) (by decide) (by decide) (by decide) D7_18 (J := 20) rfl ?_
 intro T21 h21_ a22 b24 k25 H21 E23 X26 F27 F28 A29 Q30
 have S31 : Str Z h21_ a22 b24 k25 [] := ⟨X26, F27, F28, A29, by decide, by decide⟩
 refine G.getF H21 (wd30 V) Via.refl F27 D7_20 (J := 23) rfl ?_
 intro T32 H33
 have K34 : Keep h3_ h21_ [p0] := (Keep.ext (Keep.wr (Keep.refl h3_ [p0]) W19 (Or.inl (mG (i := 0) rfl))) E23)
 have F35 := (Exa.keep F16 K34)
 have F36 := (Fld.ext E23 (Fld.other W19 (Fld.ext E5 f3) (Or.inr (slot_ne (Or.inr (wd26 V)) (Or.inr (wd25 V)) (by decide) (t := .byte) (t' := (.array .byte)) (by decide) (by decide)))))
 refine G.putF H33 (wd30 V) Via.refl F36 F35 (Or.inr ⟨(wd26 V), rfl, rfl⟩) (wd10 V) (ty := .byte) (by decide) rfl rfl g2 (Sf.mem (mG (i := 0) rfl)) D7_23 (J := 26) rfl ?_
 intro T37 h37_ H37 W38
 have F39 : Fld Z h37_ p0 "java/lang/String" "coder" "B" (.int 0) := Fld.same W38 F36
 have F40 := (Exa.wr W38 F35)
 have F41 := (Fld.other W38 (Fld.ext E23 F20) (Or.inr (slot_ne (Or.inr (wd25 V)) (Or.inr (wd26 V)) (by decide) (t := (.array .byte)) (t' := .byte) (by decide) (by decide))))
 have K42 : Keep h3_ h37_ [p0] := (Keep.wr K34 W38 (Or.inl (mG (i := 0) rfl)))
 have F43 := (Arv.keep A11 K42 (ninS (Ne.symm (Q12 _ (mG (i := 0) rfl)).2) nin0))
 have K44 : Keep h0 h37_ [p0] := (Keep.wr (Keep.ext (Keep.wr (Keep.ext (Keep.refl h0 [p0]) E5) W19 (Or.inl (mG (i := 0) rfl))) E23) W38 (Or.inl (mG (i := 0) rfl)))
 exact G.retV H37 rfl D7_26 (so := []) all0 (by decide) (by decide) ⟨b6, k7, rfl, rfl, K44, (fun O n d w F hn0 hn1 => (Fld.other W38 (Fld.ext E23 (Fld.other W19 (Fld.ext E5 F) (Or.inr hn0))) (Or.inr hn1))), F40, F41, F39, F43⟩
theorem m26 (V : Env1 Z a0 n0 uu0 uu1 uu2 uu3 uu4) (p0 : Addr) (p1 : Addr) (d0 : ClassId) (h0 : Heap) (hO : Old Z n0 h0) (f0 : Arv Z h0 p1 d0 .char 0 [] (.int 0)) (f1 : Exa Z h0 p0 "java/lang/String") (f2 : Fld Z h0 p0 "java/lang/String" "value" "[B" .null) (g3 : n0 ≤ p0) (f4 : Fld Z h0 p0 "java/lang/String" "coder" "B" (.int 0)) :
  Met Z a0 ELs True n0 l ⟨"java/lang/String", "<init>", "([C)V"⟩ Y51 2 none ⟨2, 4, 8, 29⟩ #[.ref p0, .ref p1] h0 [p0] (fun v h so => (∃ a5 : Addr, ∃ k6 : ClassId, v = none ∧ so = [] ∧ Keep h0 h [p0] ∧ (∀ (O n d : String) (w : Value), Fld Z h0 p0 O n d w → RoadKit.slotOf Z O n d ≠ RoadKit.slotOf Z "java/lang/String" "value" "[B" → RoadKit.slotOf Z O n d ≠ RoadKit.slotOf Z "java/lang/String" "coder" "B" → Fld Z h p0 O n d w) ∧ Exa Z h p0 "java/lang/String" ∧ Fld Z h p0 "java/lang/String" "value" "[B" (.ref a5) ∧ Fld Z h p0 "java/lang/String" "coder" "B" (.int 0) ∧ Arv Z h a5 k6 .byte 0 [] (.int 0))) := by
 refine Met.of (EWl V) (by first | decide +kernel | rfl) hO (L0 := #[.val (.ref p0), .val (.ref p1)]) rfl ?_
 intro p e s m below meth c T H
 refine G.aN H D14_0 (J := 1) rfl rfl rfl ?_
 refine G.aN H D14_1 (J := 2) rfl rfl rfl ?_
 refine G.iC H D14_2 (J := 3) rfl (v := 0) rfl ?_
 refine G.aN H D14_3 (J := 4) rfl rfl rfl ?_
 refine G.aR H f0 D14_4 (J := 5) rfl ?_
 refine G.aconstNull H D14_5 (J := 6) rfl ?_
 refine G.callI H (m25 V p0 p1 h0 H.old f1 f2 g3 f4) rfl (wq V 16 rfl) (wq V 17 rfl) (wd11 V) (wq V 19 rfl) (by decide) (a := p0) (argsL := [.ref p1, .int 0, .int 0, .null]) (rest := []) (W := 0) rfl rfl (lenOf (pd_14) rfl) rfl rfl D14_6 (J := 9) rfl (by decide) (by decide) (by decide) (by decide) (allS (mG (i := 0) rfl) all0) ?_
 rintro T1 h1_ _ _ H1 ⟨a5, k6, rfl, rfl, K7, U8, F9, F10, F11, F12⟩
 show Go _ _ _ _ (T1.setTop (mkF m 9 _ []))
 have K13 : Keep h0 h1_ [p0] := (Keep.trans (Keep.refl h0 [p0]) K7 (allS (Or.inl (mG (i := 0) rfl)) all0))
 exact G.retV H1 rfl D14_9 (so := []) all0 (by decide) (by decide) ⟨a5, k6, rfl, rfl, K13, (fun O n d w F hn0 hn1 => (U8 O n d w F hn0 hn1)), F9, F10, F11, F12⟩
theorem m27 (V : Env1 Z a0 n0 uu0 uu1 uu2 uu3 uu4) (x0 : Int32) (h0 : Heap) (hO : Old Z n0 h0)  :
  Met Z a0 ELs True n0 l ⟨"java/lang/StringLatin1", "canEncode", "(C)Z"⟩ Y56 1 (some .boolean) ⟨0, 0, 0, 0⟩ #[.int x0] h0 [] (fun v h so => (255 < x0 ∧ v = some (.int 0) ∧ so = [] ∧ h0 = h) ∨ (¬ 255 < x0 ∧ v = some (.int 1) ∧ so = [] ∧ h0 = h)) := by
 refine Met.of (EWl V) (by first | decide +kernel | rfl) hO (L0 := #[.val (.int x0)]) rfl ?_
 intro p e s m below meth c T H
 refine G.iN H D25_0 (J := 1) rfl rfl ?_
 refine G.sP H D25_1 (J := 4) rfl (v := 255) rfl ?_
 by_cases c1 : 255 < x0
 ·
  refine G.cY H D25_4 (XT.ii_gt_t c1) (by decide) (J := 11) rfl ?_
  refine G.iC H D25_11 (J := 12) rfl (v := 0) rfl ?_
  exact G.retN H (t := .boolean) rfl (by decide) D25_12 (so := []) all0 (by decide) (by decide) (Or.inl ⟨c1, rfl, rfl, rfl⟩)
 ·
  refine G.cN H D25_4 (J := 7) rfl (XT.ii_gt_f c1) ?_
  refine G.iC H D25_7 (J := 8) rfl (v := 1) rfl ?_
  refine G.go H D25_8 (by decide) (J := 12) rfl ?_
  exact G.retN H (t := .boolean) rfl (by decide) D25_12 (so := []) all0 (by decide) (by decide) (Or.inr ⟨c1, rfl, rfl, rfl⟩)
theorem m28 (V : Env1 Z a0 n0 uu0 uu1 uu2 uu3 uu4) (p0 : Addr) (x0 : Int32) (d0 : ClassId) (h0 : Heap) (hO : Old Z n0 h0) (f0 : Arv Z h0 p0 d0 .byte 2 [.int 0, .int 0] (.int 0)) (g1 : n0 ≤ p0) (f2 : Exa Z h0 p0 "[B") :
  Met Z a0 ELs True n0 l ⟨"java/lang/StringUTF16", "putChar", "([BII)V"⟩ Y20 3 none ⟨0, 0, 0, 0⟩ #[.ref p0, .int 0, .int x0] h0 [p0] (fun v h so => (v = none ∧ so = [] ∧ Keep h0 h [p0] ∧ Arv Z h p0 d0 .byte 2 [(.int (x0.toInt8.toInt32)), (.int ((x0 >>> ((8 : Int32) &&& 31)).toInt8.toInt32))] (.int 0) ∧ Exa Z h p0 "[B")) := by
 refine Met.of (EWl V) (by first | decide +kernel | rfl) hO (L0 := #[.val (.ref p0), .val (.int 0), .val (.int x0)]) rfl ?_
 intro p e s m below meth c T H
 refine G.getS H (wq V 287 rfl) Via.refl (Sta.ext H.old.2 (hv5 V)) D36_0 (J := 3) rfl ?_
 intro T1 H2
 refine G.ifYes H2 D36_3 (by decide) (by decide) (J := 28) rfl ?_
 refine G.iN H2 D36_28 (J := 29) rfl rfl ?_
 refine G.iC H2 D36_29 (J := 30) rfl (v := 1) rfl ?_
 refine G.ishl H2 D36_30 (J := 31) rfl ?_
 show Go _ _ _ _ (T1.setTop (mkF m 31 _ [.int 0]))
 refine G.sN H2 (L' := #[.val (.ref p0), .val (.int 0), .val (.int x0)]) D36_31 (J := 32) rfl rfl ?_
 refine G.aN H2 D36_32 (J := 33) rfl rfl rfl ?_
 refine G.iN H2 D36_33 (J := 34) rfl rfl ?_
 refine G.iI H2 (v := 1) (L' := #[.val (.ref p0), .val (.int 1), .val (.int x0)]) D36_34 (J := 37) rfl rfl rfl rfl ?_
 refine G.iN H2 D36_37 (J := 38) rfl rfl ?_
 refine G.getS H2 (wq V 288 rfl) Via.refl (Sta.ext H2.old.2 (hv6 V)) D36_38 (J := 41) rfl ?_
 intro T3 H4
 refine G.ishr H4 D36_41 (J := 42) rfl ?_
 rw [own_shr0]
 refine G.i2b H4 D36_42 (J := 43) rfl ?_
 refine G.stB H4 f0 (by decide) (i := 0) rfl lB g1 (Sf.mem (mG (i := 0) rfl)) (y := (x0.toInt8.toInt32)) (own_narB _) D36_43 (J := 44) rfl ?_
 intro T5 h5_ H5 W6 A7
 replace A7 : Arv Z h5_ p0 d0 .byte 2 [(.int (x0.toInt8.toInt32)), .int 0] (.int 0) := A7
 refine G.aN H5 D36_44 (J := 45) rfl rfl rfl ?_
 refine G.iN H5 D36_45 (J := 46) rfl rfl ?_
 refine G.iN H5 D36_46 (J := 47) rfl rfl ?_
 refine G.getS H5 (wq V 289 rfl) Via.refl (Sta.ext H5.old.2 (hv7 V)) D36_47 (J := 50) rfl ?_
 intro T8 H9
 refine G.ishr H9 D36_50 (J := 51) rfl ?_
 refine G.i2b H9 D36_51 (J := 52) rfl ?_
 have F13 := (Exa.wr W6 f2)
 refine G.stB H9 A7 (by decide) (i := 1) rfl lB g1 (Sf.mem (mG (i := 0) rfl)) (y := ((x0 >>> ((8 : Int32) &&& 31)).toInt8.toInt32)) (own_narB _) D36_52 (J := 53) rfl ?_
 intro T10 h10_ H10 W11 A12
 replace A12 : Arv Z h10_ p0 d0 .byte 2 [(.int (x0.toInt8.toInt32)), (.int ((x0 >>> ((8 : Int32) &&& 31)).toInt8.toInt32))] (.int 0) := A12
 have F14 := (Exa.wr W11 F13)
 have K15 : Keep h0 h10_ [p0] := (Keep.wr (Keep.wr (Keep.refl h0 [p0]) W6 (Or.inl (mG (i := 0) rfl))) W11 (Or.inl (mG (i := 0) rfl)))
 exact G.retV H10 rfl D36_53 (so := []) all0 (by decide) (by decide) ⟨rfl, rfl, K15, A12, F14⟩
theorem m29 (V : Env1 Z a0 n0 uu0 uu1 uu2 uu3 uu4) (x0 : Int32) (h0 : Heap) (hO : Old Z n0 h0)  :
  Met Z a0 ELs True n0 l ⟨"java/lang/StringUTF16", "toBytes", "(C)[B"⟩ Y52 2 (some (.array .byte)) ⟨1, 1, 2, 14⟩ #[.int x0] h0 [] (fun v h so => (∃ a2 : Addr, ∃ k5 : ClassId, v = some (.ref a2) ∧ so = [a2] ∧ Keep h0 h [] ∧ h0.size ≤ a2 ∧ Arv Z h a2 k5 .byte 2 [(.int (x0.toInt8.toInt32)), (.int ((x0 >>> ((8 : Int32) &&& 31)).toInt8.toInt32))] (.int 0) ∧ Exa Z h a2 "[B")) := by
 refine Met.of (EWl V) (by first | decide +kernel | rfl) hO (L0 := #[.val (.int x0), .unset]) rfl ?_
 intro p e s m below meth c T H
 refine G.iC H D33_0 (J := 1) rfl (v := 2) rfl ?_
 refine G.newP H (aty := .byte) (wd24 V) D33_1 (J := 3) rfl (by decide) (cap := 2) (by decide) (by decide) (by decide) (by decide) (vs := [.int 0, .int 0]) rfl (ad := "[B") rfl ?_
 intro T1 h1_ a2 k5 ga2 H1 E3 A4 X6
 have na2 := H.nle ga2
 replace A4 : Arv Z h1_ a2 k5 .byte 2 [.int 0, .int 0] (.int 0) := A4
 refine G.astoreN H1 (L' := #[.val (.int x0), .val (.ref a2)]) D33_3 (J := 4) rfl rfl rfl ?_
 refine G.aN H1 D33_4 (J := 5) rfl rfl rfl ?_
 refine G.iC H1 D33_5 (J := 6) rfl (v := 0) rfl ?_
 refine G.iN H1 D33_6 (J := 7) rfl rfl ?_
 refine G.cS H1 (m28 V a2 x0 k5 h1_ H1.old A4 na2 X6) (wq V 284 rfl) (wq V 285 rfl) (wd250 V) (wq V 286 rfl) [.ref a2, .int 0, .int x0] [] 0 10 (lenOf (pd_16) rfl) D33_7 (allS (mG (i := 0) rfl) all0) (by decide) ?_
 rintro T7 h7_ _ _ H7 ⟨rfl, rfl, K11, F12, F13⟩
 show Go _ _ _ _ (T7.setTop (mkF m 10 _ []))
 refine G.aN H7 D33_10 (J := 11) rfl rfl rfl ?_
 have K14 : Keep h0 h7_ [] := (Keep.trans (Keep.ext (Keep.refl h0 []) E3) K11 (allS (Or.inr (Nat.le_of_eq ga2.symm)) all0))
 exact G.retA H7 (t := (.array .byte)) rfl rfl rfl D33_11 (so := [a2]) (allS (mG (i := 0) rfl) all0) (by decide) (by decide) ⟨a2, k5, rfl, rfl, K14, (Nat.le_of_eq ga2.symm), F12, F13⟩
theorem m30 (V : Env1 Z a0 n0 uu0 uu1 uu2 uu3 uu4) (p0 : Addr) (p1 : Addr) (h0 : Heap) (hO : Old Z n0 h0) (f0 : Exa Z h0 p0 "java/lang/String") (f1 : Fld Z h0 p0 "java/lang/String" "value" "[B" .null) (g2 : n0 ≤ p0) (f3 : Fld Z h0 p0 "java/lang/String" "coder" "B" (.int 0)) :
  Met Z a0 ELs True n0 l ⟨"java/lang/String", "<init>", "([BB)V"⟩ Y45 3 none ⟨1, 0, 0, 12⟩ #[.ref p0, .ref p1, .int 1] h0 [p0] (fun v h so => (v = none ∧ so = [] ∧ Keep h0 h [p0] ∧ (∀ (O n d : String) (w : Value), Fld Z h0 p0 O n d w → RoadKit.slotOf Z O n d ≠ RoadKit.slotOf Z "java/lang/String" "value" "[B" → RoadKit.slotOf Z O n d ≠ RoadKit.slotOf Z "java/lang/String" "coder" "B" → Fld Z h p0 O n d w) ∧ Exa Z h p0 "java/lang/String" ∧ Fld Z h p0 "java/lang/String" "value" "[B" (.ref p1) ∧ Fld Z h p0 "java/lang/String" "coder" "B" (.int 1))) := by
 refine Met.of (EWl V) (by first | decide +kernel | rfl) hO (L0 := #[.val (.ref p0), .val (.ref p1), .val (.int 1)]) rfl ?_
 intro p e s m below meth c T H
 refine G.aN H D9_0 (J := 1) rfl rfl rfl ?_
 refine G.initO H (wq V 20 rfl) (wq V 21 rfl) (wq V 22 rfl) rfl D9_1 (J := 4) rfl (by decide) (W := 0) rfl (by decide) ?_
 intro T1 H2
 refine G.aN H2 D9_4 (J := 5) rfl rfl rfl ?_
 refine G.aN H2 D9_5 (J := 6) rfl rfl rfl ?_
 refine G.putF H2 (wd29 V) Via.refl f1 f0 (Or.inr ⟨(wd25 V), rfl, rfl⟩) (wd10 V) (ty := (.array .byte)) (by decide) rfl rfl g2 (Sf.mem (mG (i := 0) rfl)) D9_6 (J := 9) rfl ?_
 intro T3 h3_ H3 W4
 have F5 : Fld Z h3_ p0 "java/lang/String" "value" "[B" (.ref p1) := Fld.same W4 f1
 refine G.aN H3 D9_9 (J := 10) rfl rfl rfl ?_
 refine G.iN H3 D9_10 (J := 11) rfl rfl ?_
 have F6 := (Exa.wr W4 f0)
 have F7 := (Fld.other W4 f3 (Or.inr (slot_ne (Or.inr (wd26 V)) (Or.inr (wd25 V)) (by decide) (t := .byte) (t' := (.array .byte)) (by decide) (by decide))))
 refine G.putF H3 (wd30 V) Via.refl F7 F6 (Or.inr ⟨(wd26 V), rfl, rfl⟩) (wd10 V) (ty := .byte) (by decide) rfl rfl g2 (Sf.mem (mG (i := 0) rfl)) D9_11 (J := 14) rfl ?_
 intro T8 h8_ H8 W9
 have F10 : Fld Z h8_ p0 "java/lang/String" "coder" "B" (.int 1) := Fld.same W9 F7
 have F11 := (Exa.wr W9 F6)
 have F12 := (Fld.other W9 F5 (Or.inr (slot_ne (Or.inr (wd25 V)) (Or.inr (wd26 V)) (by decide) (t := (.array .byte)) (t' := .byte) (by decide) (by decide))))
 have K13 : Keep h0 h8_ [p0] := (Keep.wr (Keep.wr (Keep.refl h0 [p0]) W4 (Or.inl (mG (i := 0) rfl))) W9 (Or.inl (mG (i := 0) rfl)))
 exact G.retV H8 rfl D9_14 (so := []) all0 (by decide) (by decide) ⟨rfl, rfl, K13, (fun O n d w F hn0 hn1 => (Fld.other W9 (Fld.other W4 F (Or.inr hn0)) (Or.inr hn1))), F11, F12, F10⟩
theorem m31 (V : Env1 Z a0 n0 uu0 uu1 uu2 uu3 uu4) (x0 : Int32) (h0 : Heap) (hO : Old Z n0 h0)  :
  Met Z a0 ELs True n0 l ⟨"java/lang/StringLatin1", "toBytes", "(C)[B"⟩ Y55 1 (some (.array .byte)) ⟨0, 1, 1, 0⟩ #[.int x0] h0 [] (fun v h so => (∃ a2 : Addr, ∃ k5 : ClassId, v = some (.ref a2) ∧ so = [a2] ∧ Keep h0 h [] ∧ h0.size ≤ a2 ∧ Arv Z h a2 k5 .byte 1 [(.int (x0.toInt8.toInt32))] (.int 0) ∧ Exa Z h a2 "[B")) := by
 refine Met.of (EWl V) (by first | decide +kernel | rfl) hO (L0 := #[.val (.int x0)]) rfl ?_
 intro p e s m below meth c T H
 refine G.iC H D26_0 (J := 1) rfl (v := 1) rfl ?_
 refine G.newP H (aty := .byte) (wd24 V) D26_1 (J := 3) rfl (by decide) (cap := 1) (by decide) (by decide) (by decide) (by decide) (vs := [.int 0]) rfl (ad := "[B") rfl ?_
 intro T1 h1_ a2 k5 ga2 H1 E3 A4 X6
 have na2 := H.nle ga2
 replace A4 : Arv Z h1_ a2 k5 .byte 1 [.int 0] (.int 0) := A4
 refine G.dup H1 D26_3 (J := 4) rfl rfl ?_
 refine G.iC H1 D26_4 (J := 5) rfl (v := 0) rfl ?_
 refine G.iN H1 D26_5 (J := 6) rfl rfl ?_
 refine G.i2b H1 D26_6 (J := 7) rfl ?_
 refine G.stB H1 A4 (by decide) (i := 0) rfl lB na2 (Sf.mem (mG (i := 0) rfl)) (y := (x0.toInt8.toInt32)) (own_narB _) D26_7 (J := 8) rfl ?_
 intro T7 h7_ H7 W8 A9
 replace A9 : Arv Z h7_ a2 k5 .byte 1 [(.int (x0.toInt8.toInt32))] (.int 0) := A9
 have F10 := (Exa.wr W8 X6)
 have K11 : Keep h0 h7_ [] := (Keep.wr (Keep.ext (Keep.refl h0 []) E3) W8 (Or.inr (Nat.le_of_eq ga2.symm)))
 exact G.retA H7 (t := (.array .byte)) rfl rfl rfl D26_8 (so := [a2]) (allS (mG (i := 0) rfl) all0) (by decide) (by decide) ⟨a2, k5, rfl, rfl, K11, (Nat.le_of_eq ga2.symm), A9, F10⟩
theorem m32 (V : Env1 Z a0 n0 uu0 uu1 uu2 uu3 uu4) (p0 : Addr) (p1 : Addr) (h0 : Heap) (hO : Old Z n0 h0) (f0 : Exa Z h0 p0 "java/lang/String") (f1 : Fld Z h0 p0 "java/lang/String" "value" "[B" .null) (g2 : n0 ≤ p0) (f3 : Fld Z h0 p0 "java/lang/String" "coder" "B" (.int 0)) :
  Met Z a0 ELs True n0 l ⟨"java/lang/String", "<init>", "([BB)V"⟩ Y45 3 none ⟨1, 0, 0, 12⟩ #[.ref p0, .ref p1, .int 0] h0 [p0] (fun v h so => (v = none ∧ so = [] ∧ Keep h0 h [p0] ∧ (∀ (O n d : String) (w : Value), Fld Z h0 p0 O n d w → RoadKit.slotOf Z O n d ≠ RoadKit.slotOf Z "java/lang/String" "value" "[B" → RoadKit.slotOf Z O n d ≠ RoadKit.slotOf Z "java/lang/String" "coder" "B" → Fld Z h p0 O n d w) ∧ Exa Z h p0 "java/lang/String" ∧ Fld Z h p0 "java/lang/String" "value" "[B" (.ref p1) ∧ Fld Z h p0 "java/lang/String" "coder" "B" (.int 0))) := by
 refine Met.of (EWl V) (by first | decide +kernel | rfl) hO (L0 := #[.val (.ref p0), .val (.ref p1), .val (.int 0)]) rfl ?_
 intro p e s m below meth c T H
 refine G.aN H D9_0 (J := 1) rfl rfl rfl ?_
 refine G.initO H (wq V 20 rfl) (wq V 21 rfl) (wq V 22 rfl) rfl D9_1 (J := 4) rfl (by decide) (W := 0) rfl (by decide) ?_
 intro T1 H2
 refine G.aN H2 D9_4 (J := 5) rfl rfl rfl ?_
 refine G.aN H2 D9_5 (J := 6) rfl rfl rfl ?_
 refine G.putF H2 (wd29 V) Via.refl f1 f0 (Or.inr ⟨(wd25 V), rfl, rfl⟩) (wd10 V) (ty := (.array .byte)) (by decide) rfl rfl g2 (Sf.mem (mG (i := 0) rfl)) D9_6 (J := 9) rfl ?_
 intro T3 h3_ H3 W4
 have F5 : Fld Z h3_ p0 "java/lang/String" "value" "[B" (.ref p1) := Fld.same W4 f1
 refine G.aN H3 D9_9 (J := 10) rfl rfl rfl ?_
 refine G.iN H3 D9_10 (J := 11) rfl rfl ?_
 have F6 := (Exa.wr W4 f0)
 have F7 := (Fld.other W4 f3 (Or.inr (slot_ne (Or.inr (wd26 V)) (Or.inr (wd25 V)) (by decide) (t := .byte) (t' := (.array .byte)) (by decide) (by decide))))
 refine G.putF H3 (wd30 V) Via.refl F7 F6 (Or.inr ⟨(wd26 V), rfl, rfl⟩) (wd10 V) (ty := .byte) (by decide) rfl rfl g2 (Sf.mem (mG (i := 0) rfl)) D9_11 (J := 14) rfl ?_
 intro T8 h8_ H8 W9
 have F10 : Fld Z h8_ p0 "java/lang/String" "coder" "B" (.int 0) := Fld.same W9 F7
 have F11 := (Exa.wr W9 F6)
 have F12 := (Fld.other W9 F5 (Or.inr (slot_ne (Or.inr (wd25 V)) (Or.inr (wd26 V)) (by decide) (t := (.array .byte)) (t' := .byte) (by decide) (by decide))))
 have K13 : Keep h0 h8_ [p0] := (Keep.wr (Keep.wr (Keep.refl h0 [p0]) W4 (Or.inl (mG (i := 0) rfl))) W9 (Or.inl (mG (i := 0) rfl)))
 exact G.retV H8 rfl D9_14 (so := []) all0 (by decide) (by decide) ⟨rfl, rfl, K13, (fun O n d w F hn0 hn1 => (Fld.other W9 (Fld.other W4 F (Or.inr hn0)) (Or.inr hn1))), F11, F12, F10⟩
theorem m33 (V : Env1 Z a0 n0 uu0 uu1 uu2 uu3 uu4) (x0 : Int32) (h0 : Heap) (hO : Old Z n0 h0) (r0 : ¬ x0 < 0 ∧ ¬ 65535 < x0) :
  Met Z a0 ELs True n0 l ⟨"java/lang/String", "valueOf", "(C)Ljava/lang/String;"⟩ Y29 1 (some (.object "java/lang/String")) ⟨2, 2, 6, 29⟩ #[.int x0] h0 [] (fun v h so => (∃ a10 a18 : Addr, ∃ k19 : ClassId, 255 < x0 ∧ v = some (.ref a10) ∧ so = [a10, a18] ∧ Keep h0 h [] ∧ h0.size ≤ a10 ∧ a10 < a18 ∧ Exa Z h a10 "java/lang/String" ∧ Fld Z h a10 "java/lang/String" "coder" "B" (.int 1) ∧ Fld Z h a10 "java/lang/String" "value" "[B" (.ref a18) ∧ Arv Z h a18 k19 .byte 2 [(.int (x0.toInt8.toInt32)), (.int ((x0 >>> ((8 : Int32) &&& 31)).toInt8.toInt32))] (.int 0) ∧ Exa Z h a18 "[B") ∨ (∃ a43 a51 : Addr, ∃ k52 : ClassId, ¬ 255 < x0 ∧ v = some (.ref a43) ∧ so = [a43, a51] ∧ Keep h0 h [] ∧ h0.size ≤ a43 ∧ a43 < a51 ∧ Str Z h a43 a51 k52 [x0] ∧ Fld Z h a43 "java/lang/String" "value" "[B" (.ref a51) ∧ Fld Z h a43 "java/lang/String" "coder" "B" (.int 0) ∧ Exa Z h a51 "[B")) := by
 refine Met.of (EWl V) (by first | decide +kernel | rfl) hO (L0 := #[.val (.int x0)]) rfl ?_
 intro p e s m below meth c T H
 refine G.getS H (wd115 V) Via.refl (Sta.ext H.old.2 (hv8 V)) D5_0 (J := 3) rfl ?_
 intro T1 H2
 refine G.ifNo H2 D5_3 (J := 6) rfl (XT.i0_eq_f (hv9 V)) ?_
 refine G.iN H2 D5_6 (J := 7) rfl rfl ?_
 refine G.cS H2 (m27 V x0 h0 H2.old) (wq V 119 rfl) (wq V 120 rfl) (wd121 V) (wq V 122 rfl) [.int x0] [] 0 10 (lenOf (pd_2) rfl) D5_7 all0 (by decide) ?_
 intro T3 h3_ v4 s5 H3 Q6
 rcases Q6 with ⟨c7, rfl, rfl, rfl⟩ | ⟨c8, rfl, rfl, rfl⟩
 ·
  show Go _ _ _ _ (T3.setTop (mkF m 10 _ [.int 0]))
  refine G.ifYes H3 D5_10 (by decide) (by decide) (J := 26) rfl ?_
  refine G.new H3 (wq V 123 rfl) (wd10 V) (wd11 V) D5_26 (J := 29) rfl (by decide) (by decide) ?_
  intro T9 h9_ a10 ga10 H9 E11 A12 D13
  have na10 := H3.nle ga10
  refine G.dup H9 D5_29 (J := 30) rfl rfl ?_
  refine G.iN H9 D5_30 (J := 31) rfl rfl ?_
  refine G.cS H9 (m29 V x0 h9_ H9.old) (wq V 343 rfl) (wq V 344 rfl) (wd250 V) (wq V 345 rfl) [.int x0] [.ref a10, .ref a10] 2 34 (lenOf (pd_17) rfl) D5_31 all0 (by decide) ?_
  rintro T14 h14_ _ _ H14 ⟨a18, k19, rfl, rfl, K20, g21, F22, F23⟩
  have na18 := Nat.le_trans H9.le g21
  show Go _ _ _ _ (T14.setTop (mkF m 34 _ [.ref a18, .ref a10, .ref a10]))
  refine G.iC H14 D5_34 (J := 35) rfl (v := 1) rfl ?_
  have F24 := (Exa.keep A12 K20)
  have F25 : Fld Z h9_ a10 "java/lang/String" "coder" "B" (.int 0) := D13 (Or.inr (wd26 V)) (ty := .byte) (by decide)
  have F26 := (Fld.keep F25 K20 nin0)
  have F27 : Fld Z h9_ a10 "java/lang/String" "value" "[B" .null := D13 (Or.inr (wd25 V)) (ty := (.array .byte)) (by decide)
  have F28 := (Fld.keep F27 K20 nin0)
  refine G.callI H14 (m30 V a10 a18 h14_ H14.old F24 F28 na10 F26) rfl (wq V 127 rfl) (wq V 128 rfl) (wd11 V) (wq V 129 rfl) (by decide) (a := a10) (argsL := [.ref a18, .int 1]) (rest := [.ref a10]) (W := 1) rfl rfl (lenOf (pd_18) rfl) rfl rfl D5_35 (J := 38) rfl (by decide) (by decide) (by decide) (by decide) (allS (mG (i := 1) rfl) all0) ?_
  rintro T29 h29_ _ _ H29 ⟨rfl, rfl, K33, U34, F35, F36, F37⟩
  show Go _ _ _ _ (T29.setTop (mkF m 38 _ [.ref a10]))
  have N38 : a18 ≠ a10 := Ne.symm (Exa.neArv (Exa.keep A12 K20) F22 (wd10 V))
  have F39 := (Arv.keep F22 K33 (ninS N38 nin0))
  have F40 := (Exa.keep F23 K33)
  have K41 : Keep h0 h29_ [] := (Keep.trans (Keep.trans (Keep.ext (Keep.refl h0 []) E11) K20 all0) K33 (allS (Or.inr (Nat.le_of_eq ga10.symm)) all0))
  exact G.retA H29 (t := (.object "java/lang/String")) rfl rfl rfl D5_38 (so := [a10, a18]) (allS (mG (i := 1) rfl) (allS (mG (i := 0) rfl) all0)) (by decide) (by decide) (Or.inl ⟨a10, a18, k19, c7, rfl, rfl, K41, (Nat.le_of_eq ga10.symm), (Nat.lt_of_lt_of_le A12.lt g21), F35, F37, F36, F39, F40⟩)
 ·
  show Go _ _ _ _ (T3.setTop (mkF m 10 _ [.int 1]))
  refine G.ifNo H3 D5_10 (J := 13) rfl (by decide) ?_
  refine G.new H3 (wq V 123 rfl) (wd10 V) (wd11 V) D5_13 (J := 16) rfl (by decide) (by decide) ?_
  intro T42 h42_ a43 ga43 H42 E44 A45 D46
  have na43 := H3.nle ga43
  refine G.dup H42 D5_16 (J := 17) rfl rfl ?_
  refine G.iN H42 D5_17 (J := 18) rfl rfl ?_
  refine G.cS H42 (m31 V x0 h42_ H42.old) (wq V 124 rfl) (wq V 125 rfl) (wd121 V) (wq V 126 rfl) [.int x0] [.ref a43, .ref a43] 2 21 (lenOf (pd_17) rfl) D5_18 all0 (by decide) ?_
  rintro T47 h47_ _ _ H47 ⟨a51, k52, rfl, rfl, K53, g54, F55, F56⟩
  have na51 := Nat.le_trans H42.le g54
  show Go _ _ _ _ (T47.setTop (mkF m 21 _ [.ref a51, .ref a43, .ref a43]))
  refine G.iC H47 D5_21 (J := 22) rfl (v := 0) rfl ?_
  have F57 := (Exa.keep A45 K53)
  have F58 : Fld Z h42_ a43 "java/lang/String" "coder" "B" (.int 0) := D46 (Or.inr (wd26 V)) (ty := .byte) (by decide)
  have F59 := (Fld.keep F58 K53 nin0)
  have F60 : Fld Z h42_ a43 "java/lang/String" "value" "[B" .null := D46 (Or.inr (wd25 V)) (ty := (.array .byte)) (by decide)
  have F61 := (Fld.keep F60 K53 nin0)
  refine G.callI H47 (m32 V a43 a51 h47_ H47.old F57 F61 na43 F59) rfl (wq V 127 rfl) (wq V 128 rfl) (wd11 V) (wq V 129 rfl) (by decide) (a := a43) (argsL := [.ref a51, .int 0]) (rest := [.ref a43]) (W := 1) rfl rfl (lenOf (pd_18) rfl) rfl rfl D5_22 (J := 25) rfl (by decide) (by decide) (by decide) (by decide) (allS (mG (i := 1) rfl) all0) ?_
  rintro T62 h62_ _ _ H62 ⟨rfl, rfl, K66, U67, F68, F69, F70⟩
  show Go _ _ _ _ (T62.setTop (mkF m 25 _ [.ref a43]))
  have N71 : a51 ≠ a43 := Ne.symm (Exa.neArv (Exa.keep A45 K53) F55 (wd10 V))
  have F72 := (Arv.keep F55 K66 (ninS N71 nin0))
  have S73 : Str Z h62_ a43 a51 k52 [x0] := ⟨F68, F70, F69, F72, (cbS ⟨r0.1, c8⟩ cb0), Nat.le_of_ble_eq_true rfl⟩
  have F74 := (Exa.keep F56 K66)
  have K75 : Keep h0 h62_ [] := (Keep.trans (Keep.trans (Keep.ext (Keep.refl h0 []) E44) K53 all0) K66 (allS (Or.inr (Nat.le_of_eq ga43.symm)) all0))
  exact G.retA H62 (t := (.object "java/lang/String")) rfl rfl rfl D5_25 (so := [a43, a51]) (allS (mG (i := 1) rfl) (allS (mG (i := 0) rfl) all0)) (by decide) (by decide) (Or.inr ⟨a43, a51, k52, c8, rfl, rfl, K75, (Nat.le_of_eq ga43.symm), (Nat.lt_of_lt_of_le A45.lt g54), S73, F69, F70, F74⟩)
theorem m34 (V : Env1 Z a0 n0 uu0 uu1 uu2 uu3 uu4) (p0 : Addr) (p1 : Addr) (d0 : ClassId) (x0 : Int32) (x1 : Int32) (d1 : ClassId) (h0 : Heap) (hO : Old Z n0 h0) (f0 : Arv Z h0 p0 d0 .char 2 [.int x0, .int x1] (.int 0)) (f1 : Arv Z h0 p1 d1 .byte 2 [.int 0, .int 0] (.int 0)) (g2 : n0 ≤ p1) (f3 : Exa Z h0 p1 "[B") (q4 : p0 ≠ p1) :
  Met Z a0 ELs True n0 l ⟨"java/lang/StringUTF16", "compress", "([CI[BII)I"⟩ Y19 7 (some .int) ⟨0, 0, 0, 0⟩ #[.ref p0, .int 0, .ref p1, .int 0, .int 2] h0 [p1] (fun v h so => (255 < x0 ∧ v = some (.int 0) ∧ so = [] ∧ h0 = h) ∨ (¬ 255 < x0 ∧ 255 < x1 ∧ v = some (.int 1) ∧ so = [] ∧ Keep h0 h [p1] ∧ Arv Z h p1 d1 .byte 2 [(.int (x0.toInt8.toInt32)), .int 0] (.int 0) ∧ Exa Z h p1 "[B") ∨ (¬ 255 < x0 ∧ ¬ 255 < x1 ∧ v = some (.int 2) ∧ so = [] ∧ Keep h0 h [p1] ∧ Arv Z h p1 d1 .byte 2 [(.int (x0.toInt8.toInt32)), (.int (x1.toInt8.toInt32))] (.int 0) ∧ Exa Z h p1 "[B")) := by
 refine Met.of (EWl V) (by first | decide +kernel | rfl) hO (L0 := #[.val (.ref p0), .val (.int 0), .val (.ref p1), .val (.int 0), .val (.int 2), .unset, .unset]) rfl ?_
 intro p e s m below meth c T H
 refine G.iC H D32_0 (J := 1) rfl (v := 0) rfl ?_
 refine G.sI H (L' := #[.val (.ref p0), .val (.int 0), .val (.ref p1), .val (.int 0), .val (.int 2), .val (.int 0), .unset]) D32_1 (J := 3) rfl rfl ?_
 refine G.iL H D32_3 (J := 5) rfl rfl ?_
 refine G.iL H D32_5 (J := 7) rfl rfl ?_
 refine G.cN H D32_7 (J := 10) rfl (by decide) ?_
 refine G.aN H D32_10 (J := 11) rfl rfl rfl ?_
 refine G.iN H D32_11 (J := 12) rfl rfl ?_
 refine G.caloadG H f0 (j := 0) (v := (.int x0)) (by decide) rfl D32_12 (J := 13) rfl ?_
 refine G.sI H (L' := #[.val (.ref p0), .val (.int 0), .val (.ref p1), .val (.int 0), .val (.int 2), .val (.int 0), .val (.int x0)]) D32_13 (J := 15) rfl rfl ?_
 refine G.iL H D32_15 (J := 17) rfl rfl ?_
 refine G.sP H D32_17 (J := 20) rfl (v := 255) rfl ?_
 by_cases c1 : 255 < x0
 ·
  refine G.cN H D32_20 (J := 23) rfl (XT.ii_le_f c1) ?_
  refine G.iL H D32_23 (J := 25) rfl rfl ?_
  exact G.retI H rfl D32_25 (so := []) all0 (by decide) (by decide) (Or.inl ⟨c1, rfl, rfl, rfl⟩)
 ·
  refine G.cY H D32_20 (XT.ii_le_t c1) (by decide) (J := 26) rfl ?_
  refine G.aN H D32_26 (J := 27) rfl rfl rfl ?_
  refine G.iN H D32_27 (J := 28) rfl rfl ?_
  refine G.iL H D32_28 (J := 30) rfl rfl ?_
  refine G.i2b H D32_30 (J := 31) rfl ?_
  refine G.stB H f1 (by decide) (i := 0) rfl lB g2 (Sf.mem (mG (i := 0) rfl)) (y := (x0.toInt8.toInt32)) (own_narB _) D32_31 (J := 32) rfl ?_
  intro T2 h2_ H2 W3 A4
  replace A4 : Arv Z h2_ p1 d1 .byte 2 [(.int (x0.toInt8.toInt32)), .int 0] (.int 0) := A4
  refine G.iI H2 (v := 1) (L' := #[.val (.ref p0), .val (.int 1), .val (.ref p1), .val (.int 0), .val (.int 2), .val (.int 0), .val (.int x0)]) D32_32 (J := 35) rfl rfl rfl rfl ?_
  refine G.iI H2 (v := 1) (L' := #[.val (.ref p0), .val (.int 1), .val (.ref p1), .val (.int 1), .val (.int 2), .val (.int 0), .val (.int x0)]) D32_35 (J := 38) rfl rfl rfl rfl ?_
  refine G.iI H2 (v := 1) (L' := #[.val (.ref p0), .val (.int 1), .val (.ref p1), .val (.int 1), .val (.int 2), .val (.int 1), .val (.int x0)]) D32_38 (J := 41) rfl rfl rfl rfl ?_
  refine G.go H2 D32_41 (by decide) (J := 3) rfl ?_
  show Go _ _ _ _ (T2.setTop (mkF m 3 _ []))
  refine G.iL H2 D32_3 (J := 5) rfl rfl ?_
  refine G.iL H2 D32_5 (J := 7) rfl rfl ?_
  refine G.cN H2 D32_7 (J := 10) rfl (by decide) ?_
  refine G.aN H2 D32_10 (J := 11) rfl rfl rfl ?_
  refine G.iN H2 D32_11 (J := 12) rfl rfl ?_
  have F5 := (Arv.other f0 W3 q4)
  refine G.caloadG H2 F5 (j := 1) (v := (.int x1)) (by decide) rfl D32_12 (J := 13) rfl ?_
  refine G.sI H2 (L' := #[.val (.ref p0), .val (.int 1), .val (.ref p1), .val (.int 1), .val (.int 2), .val (.int 1), .val (.int x1)]) D32_13 (J := 15) rfl rfl ?_
  refine G.iL H2 D32_15 (J := 17) rfl rfl ?_
  refine G.sP H2 D32_17 (J := 20) rfl (v := 255) rfl ?_
  by_cases c6 : 255 < x1
  ·
   refine G.cN H2 D32_20 (J := 23) rfl (XT.ii_le_f c6) ?_
   refine G.iL H2 D32_23 (J := 25) rfl rfl ?_
   have F7 := (Exa.wr W3 f3)
   have K8 : Keep h0 h2_ [p1] := (Keep.wr (Keep.refl h0 [p1]) W3 (Or.inl (mG (i := 0) rfl)))
   exact G.retI H2 rfl D32_25 (so := []) all0 (by decide) (by decide) (Or.inr (Or.inl ⟨c1, c6, rfl, rfl, K8, A4, F7⟩))
  ·
   refine G.cY H2 D32_20 (XT.ii_le_t c6) (by decide) (J := 26) rfl ?_
   refine G.aN H2 D32_26 (J := 27) rfl rfl rfl ?_
   refine G.iN H2 D32_27 (J := 28) rfl rfl ?_
   refine G.iL H2 D32_28 (J := 30) rfl rfl ?_
   refine G.i2b H2 D32_30 (J := 31) rfl ?_
   have F12 := (Exa.wr W3 f3)
   refine G.stB H2 A4 (by decide) (i := 1) rfl lB g2 (Sf.mem (mG (i := 0) rfl)) (y := (x1.toInt8.toInt32)) (own_narB _) D32_31 (J := 32) rfl ?_
   intro T9 h9_ H9 W10 A11
   replace A11 : Arv Z h9_ p1 d1 .byte 2 [(.int (x0.toInt8.toInt32)), (.int (x1.toInt8.toInt32))] (.int 0) := A11
   refine G.iI H9 (v := 2) (L' := #[.val (.ref p0), .val (.int 2), .val (.ref p1), .val (.int 1), .val (.int 2), .val (.int 1), .val (.int x1)]) D32_32 (J := 35) rfl rfl rfl rfl ?_
   refine G.iI H9 (v := 2) (L' := #[.val (.ref p0), .val (.int 2), .val (.ref p1), .val (.int 2), .val (.int 2), .val (.int 1), .val (.int x1)]) D32_35 (J := 38) rfl rfl rfl rfl ?_
   refine G.iI H9 (v := 2) (L' := #[.val (.ref p0), .val (.int 2), .val (.ref p1), .val (.int 2), .val (.int 2), .val (.int 2), .val (.int x1)]) D32_38 (J := 41) rfl rfl rfl rfl ?_
   refine G.go H9 D32_41 (by decide) (J := 3) rfl ?_
   show Go _ _ _ _ (T9.setTop (mkF m 3 _ []))
   refine G.iL H9 D32_3 (J := 5) rfl rfl ?_
   refine G.iL H9 D32_5 (J := 7) rfl rfl ?_
   refine G.cY H9 D32_7 (by decide) (by decide) (J := 44) rfl ?_
   refine G.iL H9 D32_44 (J := 46) rfl rfl ?_
   have F13 := (Exa.wr W10 F12)
   have K14 : Keep h0 h9_ [p1] := (Keep.wr (Keep.wr (Keep.refl h0 [p1]) W3 (Or.inl (mG (i := 0) rfl))) W10 (Or.inl (mG (i := 0) rfl)))
   exact G.retI H9 rfl D32_46 (so := []) all0 (by decide) (by decide) (Or.inr (Or.inr ⟨c1, c6, rfl, rfl, K14, A11, F13⟩))
theorem m35 (V : Env1 Z a0 n0 uu0 uu1 uu2 uu3 uu4)  (h0 : Heap) (hO : Old Z n0 h0)  :
  Met Z a0 ELs True n0 l ⟨"java/lang/StringUTF16", "newBytesLength", "(I)I"⟩ Y47 1 (some .int) ⟨0, 0, 0, 0⟩ #[.int 2] h0 [] (fun v h so => (v = some (.int 4) ∧ so = [] ∧ h0 = h)) := by
 refine Met.of (EWl V) (by first | decide +kernel | rfl) hO (L0 := #[.val (.int 2)]) rfl ?_
 intro p e s m below meth c T H
 refine G.iN H D35_0 (J := 1) rfl rfl ?_
 refine G.ifYes H D35_1 (by decide) (by decide) (J := 12) rfl ?_
 refine G.iN H D35_12 (J := 13) rfl rfl ?_
 refine G.ldcI H (wq V 255 rfl) D35_13 (J := 15) rfl ?_
 refine G.cY H D35_15 (by decide) (by decide) (J := 55) rfl ?_
 refine G.iN H D35_55 (J := 56) rfl rfl ?_
 refine G.iC H D35_56 (J := 57) rfl (v := 1) rfl ?_
 refine G.ishl H D35_57 (J := 58) rfl ?_
 show Go _ _ _ _ (T.setTop (mkF m 58 _ [.int 4]))
 exact G.retI H rfl D35_58 (so := []) all0 (by decide) (by decide) ⟨rfl, rfl, rfl⟩
theorem m36 (V : Env1 Z a0 n0 uu0 uu1 uu2 uu3 uu4)  (h0 : Heap) (hO : Old Z n0 h0)  :
  Met Z a0 ELs True n0 l ⟨"java/lang/StringUTF16", "newBytesFor", "(I)[B"⟩ Y67 1 (some (.array .byte)) ⟨1, 1, 4, 12⟩ #[.int 2] h0 [] (fun v h so => (∃ a6 : Addr, ∃ k9 : ClassId, v = some (.ref a6) ∧ so = [a6] ∧ Keep h0 h [] ∧ h0.size ≤ a6 ∧ Arv Z h a6 k9 .byte 4 [.int 0, .int 0, .int 0, .int 0] (.int 0) ∧ Exa Z h a6 "[B")) := by
 refine Met.of (EWl V) (by first | decide +kernel | rfl) hO (L0 := #[.val (.int 2)]) rfl ?_
 intro p e s m below meth c T H
 refine G.iN H D34_0 (J := 1) rfl rfl ?_
 refine G.cS H (m35 V h0 H.old) (wq V 252 rfl) (wq V 253 rfl) (wd250 V) (wq V 254 rfl) [.int 2] [] 0 4 (lenOf (pd_6) rfl) D34_1 all0 (by decide) ?_
 rintro T1 h1_ _ _ H1 ⟨rfl, rfl, rfl⟩
 show Go _ _ _ _ (T1.setTop (mkF m 4 _ [.int 4]))
 refine G.newP H1 (aty := .byte) (wd24 V) D34_4 (J := 6) rfl (by decide) (cap := 4) (by decide) (by decide) (by decide) (by decide) (vs := [.int 0, .int 0, .int 0, .int 0]) rfl (ad := "[B") rfl ?_
 intro T5 h5_ a6 k9 ga6 H5 E7 A8 X10
 have na6 := H1.nle ga6
 replace A8 : Arv Z h5_ a6 k9 .byte 4 [.int 0, .int 0, .int 0, .int 0] (.int 0) := A8
 have K11 : Keep h0 h5_ [] := (Keep.ext (Keep.refl h0 []) E7)
 exact G.retA H5 (t := (.array .byte)) rfl rfl rfl D34_6 (so := [a6]) (allS (mG (i := 0) rfl) all0) (by decide) (by decide) ⟨a6, k9, rfl, rfl, K11, (Nat.le_of_eq ga6.symm), A8, X10⟩
theorem m37 (V : Env1 Z a0 n0 uu0 uu1 uu2 uu3 uu4) (p0 : Addr) (x0 : Int32) (d0 : ClassId) (h0 : Heap) (hO : Old Z n0 h0) (f0 : Arv Z h0 p0 d0 .byte 4 [.int 0, .int 0, .int 0, .int 0] (.int 0)) (g1 : n0 ≤ p0) (f2 : Exa Z h0 p0 "[B") :
  Met Z a0 ELs True n0 l ⟨"java/lang/StringUTF16", "putChar", "([BII)V"⟩ Y20 3 none ⟨0, 0, 0, 0⟩ #[.ref p0, .int 0, .int x0] h0 [p0] (fun v h so => (v = none ∧ so = [] ∧ Keep h0 h [p0] ∧ Arv Z h p0 d0 .byte 4 [(.int (x0.toInt8.toInt32)), (.int ((x0 >>> ((8 : Int32) &&& 31)).toInt8.toInt32)), .int 0, .int 0] (.int 0) ∧ Exa Z h p0 "[B")) := by
 refine Met.of (EWl V) (by first | decide +kernel | rfl) hO (L0 := #[.val (.ref p0), .val (.int 0), .val (.int x0)]) rfl ?_
 intro p e s m below meth c T H
 refine G.getS H (wq V 287 rfl) Via.refl (Sta.ext H.old.2 (hv5 V)) D36_0 (J := 3) rfl ?_
 intro T1 H2
 refine G.ifYes H2 D36_3 (by decide) (by decide) (J := 28) rfl ?_
 refine G.iN H2 D36_28 (J := 29) rfl rfl ?_
 refine G.iC H2 D36_29 (J := 30) rfl (v := 1) rfl ?_
 refine G.ishl H2 D36_30 (J := 31) rfl ?_
 show Go _ _ _ _ (T1.setTop (mkF m 31 _ [.int 0]))
 refine G.sN H2 (L' := #[.val (.ref p0), .val (.int 0), .val (.int x0)]) D36_31 (J := 32) rfl rfl ?_
 refine G.aN H2 D36_32 (J := 33) rfl rfl rfl ?_
 refine G.iN H2 D36_33 (J := 34) rfl rfl ?_
 refine G.iI H2 (v := 1) (L' := #[.val (.ref p0), .val (.int 1), .val (.int x0)]) D36_34 (J := 37) rfl rfl rfl rfl ?_
 refine G.iN H2 D36_37 (J := 38) rfl rfl ?_
 refine G.getS H2 (wq V 288 rfl) Via.refl (Sta.ext H2.old.2 (hv6 V)) D36_38 (J := 41) rfl ?_
 intro T3 H4
 refine G.ishr H4 D36_41 (J := 42) rfl ?_
 rw [own_shr0]
 refine G.i2b H4 D36_42 (J := 43) rfl ?_
 refine G.stB H4 f0 (by decide) (i := 0) rfl lB g1 (Sf.mem (mG (i := 0) rfl)) (y := (x0.toInt8.toInt32)) (own_narB _) D36_43 (J := 44) rfl ?_
 intro T5 h5_ H5 W6 A7
 replace A7 : Arv Z h5_ p0 d0 .byte 4 [(.int (x0.toInt8.toInt32)), .int 0, .int 0, .int 0] (.int 0) := A7
 refine G.aN H5 D36_44 (J := 45) rfl rfl rfl ?_
 refine G.iN H5 D36_45 (J := 46) rfl rfl ?_
 refine G.iN H5 D36_46 (J := 47) rfl rfl ?_
 refine G.getS H5 (wq V 289 rfl) Via.refl (Sta.ext H5.old.2 (hv7 V)) D36_47 (J := 50) rfl ?_
 intro T8 H9
 refine G.ishr H9 D36_50 (J := 51) rfl ?_
 refine G.i2b H9 D36_51 (J := 52) rfl ?_
 have F13 := (Exa.wr W6 f2)
 refine G.stB H9 A7 (by decide) (i := 1) rfl lB g1 (Sf.mem (mG (i := 0) rfl)) (y := ((x0 >>> ((8 : Int32) &&& 31)).toInt8.toInt32)) (own_narB _) D36_52 (J := 53) rfl ?_
 intro T10 h10_ H10 W11 A12
 replace A12 : Arv Z h10_ p0 d0 .byte 4 [(.int (x0.toInt8.toInt32)), (.int ((x0 >>> ((8 : Int32) &&& 31)).toInt8.toInt32)), .int 0, .int 0] (.int 0) := A12
 have F14 := (Exa.wr W11 F13)
 have K15 : Keep h0 h10_ [p0] := (Keep.wr (Keep.wr (Keep.refl h0 [p0]) W6 (Or.inl (mG (i := 0) rfl))) W11 (Or.inl (mG (i := 0) rfl)))
 exact G.retV H10 rfl D36_53 (so := []) all0 (by decide) (by decide) ⟨rfl, rfl, K15, A12, F14⟩
theorem m38 (V : Env1 Z a0 n0 uu0 uu1 uu2 uu3 uu4) (p0 : Addr) (x0 : Int32) (d0 : ClassId) (x1 : Int32) (h0 : Heap) (hO : Old Z n0 h0) (f0 : Arv Z h0 p0 d0 .byte 4 [(.int (x1.toInt8.toInt32)), (.int ((x1 >>> ((8 : Int32) &&& 31)).toInt8.toInt32)), .int 0, .int 0] (.int 0)) (g1 : n0 ≤ p0) (f2 : Exa Z h0 p0 "[B") :
  Met Z a0 ELs True n0 l ⟨"java/lang/StringUTF16", "putChar", "([BII)V"⟩ Y20 3 none ⟨0, 0, 0, 0⟩ #[.ref p0, .int 1, .int x0] h0 [p0] (fun v h so => (v = none ∧ so = [] ∧ Keep h0 h [p0] ∧ Arv Z h p0 d0 .byte 4 [(.int (x1.toInt8.toInt32)), (.int ((x1 >>> ((8 : Int32) &&& 31)).toInt8.toInt32)), (.int (x0.toInt8.toInt32)), (.int ((x0 >>> ((8 : Int32) &&& 31)).toInt8.toInt32))] (.int 0) ∧ Exa Z h p0 "[B")) := by
 refine Met.of (EWl V) (by first | decide +kernel | rfl) hO (L0 := #[.val (.ref p0), .val (.int 1), .val (.int x0)]) rfl ?_
 intro p e s m below meth c T H
 refine G.getS H (wq V 287 rfl) Via.refl (Sta.ext H.old.2 (hv5 V)) D36_0 (J := 3) rfl ?_
 intro T1 H2
 refine G.ifYes H2 D36_3 (by decide) (by decide) (J := 28) rfl ?_
 refine G.iN H2 D36_28 (J := 29) rfl rfl ?_
 refine G.iC H2 D36_29 (J := 30) rfl (v := 1) rfl ?_
 refine G.ishl H2 D36_30 (J := 31) rfl ?_
 show Go _ _ _ _ (T1.setTop (mkF m 31 _ [.int 2]))
 refine G.sN H2 (L' := #[.val (.ref p0), .val (.int 2), .val (.int x0)]) D36_31 (J := 32) rfl rfl ?_
 refine G.aN H2 D36_32 (J := 33) rfl rfl rfl ?_
 refine G.iN H2 D36_33 (J := 34) rfl rfl ?_
 refine G.iI H2 (v := 3) (L' := #[.val (.ref p0), .val (.int 3), .val (.int x0)]) D36_34 (J := 37) rfl rfl rfl rfl ?_
 refine G.iN H2 D36_37 (J := 38) rfl rfl ?_
 refine G.getS H2 (wq V 288 rfl) Via.refl (Sta.ext H2.old.2 (hv6 V)) D36_38 (J := 41) rfl ?_
 intro T3 H4
 refine G.ishr H4 D36_41 (J := 42) rfl ?_
 rw [own_shr0]
 refine G.i2b H4 D36_42 (J := 43) rfl ?_
 refine G.stB H4 f0 (by decide) (i := 2) rfl lB g1 (Sf.mem (mG (i := 0) rfl)) (y := (x0.toInt8.toInt32)) (own_narB _) D36_43 (J := 44) rfl ?_
 intro T5 h5_ H5 W6 A7
 replace A7 : Arv Z h5_ p0 d0 .byte 4 [(.int (x1.toInt8.toInt32)), (.int ((x1 >>> ((8 : Int32) &&& 31)).toInt8.toInt32)), (.int (x0.toInt8.toInt32)), .int 0] (.int 0) := A7
 refine G.aN H5 D36_44 (J := 45) rfl rfl rfl ?_
 refine G.iN H5 D36_45 (J := 46) rfl rfl ?_
 refine G.iN H5 D36_46 (J := 47) rfl rfl ?_
 refine G.getS H5 (wq V 289 rfl) Via.refl (Sta.ext H5.old.2 (hv7 V)) D36_47 (J := 50) rfl ?_
 intro T8 H9
 refine G.ishr H9 D36_50 (J := 51) rfl ?_
 refine G.i2b H9 D36_51 (J := 52) rfl ?_
 have F13 := (Exa.wr W6 f2)
 refine G.stB H9 A7 (by decide) (i := 3) rfl lB g1 (Sf.mem (mG (i := 0) rfl)) (y := ((x0 >>> ((8 : Int32) &&& 31)).toInt8.toInt32)) (own_narB _) D36_52 (J := 53) rfl ?_
 intro T10 h10_ H10 W11 A12
 replace A12 : Arv Z h10_ p0 d0 .byte 4 [(.int (x1.toInt8.toInt32)), (.int ((x1 >>> ((8 : Int32) &&& 31)).toInt8.toInt32)), (.int (x0.toInt8.toInt32)), (.int ((x0 >>> ((8 : Int32) &&& 31)).toInt8.toInt32))] (.int 0) := A12
 have F14 := (Exa.wr W11 F13)
 have K15 : Keep h0 h10_ [p0] := (Keep.wr (Keep.wr (Keep.refl h0 [p0]) W6 (Or.inl (mG (i := 0) rfl))) W11 (Or.inl (mG (i := 0) rfl)))
 exact G.retV H10 rfl D36_53 (so := []) all0 (by decide) (by decide) ⟨rfl, rfl, K15, A12, F14⟩
theorem m39 (V : Env1 Z a0 n0 uu0 uu1 uu2 uu3 uu4) (p0 : Addr) (d0 : ClassId) (x0 : Int32) (x1 : Int32) (h0 : Heap) (hO : Old Z n0 h0) (f0 : Arv Z h0 p0 d0 .char 2 [.int x0, .int x1] (.int 0)) :
  Met Z a0 ELs True n0 l ⟨"java/lang/StringUTF16", "toBytes", "([CII)[B"⟩ Y30 5 (some (.array .byte)) ⟨2, 1, 4, 24⟩ #[.ref p0, .int 0, .int 2] h0 [] (fun v h so => (∃ a5 : Addr, ∃ k6 : ClassId, v = some (.ref a5) ∧ so = [a5] ∧ Keep h0 h [] ∧ h0.size ≤ a5 ∧ Arv Z h a5 k6 .byte 4 [(.int (x0.toInt8.toInt32)), (.int ((x0 >>> ((8 : Int32) &&& 31)).toInt8.toInt32)), (.int (x1.toInt8.toInt32)), (.int ((x1 >>> ((8 : Int32) &&& 31)).toInt8.toInt32))] (.int 0) ∧ Exa Z h a5 "[B")) := by
 refine Met.of (EWl V) (by first | decide +kernel | rfl) hO (L0 := #[.val (.ref p0), .val (.int 0), .val (.int 2), .unset, .unset]) rfl ?_
 intro p e s m below meth c T H
 refine G.iN H D29_0 (J := 1) rfl rfl ?_
 refine G.cS H (m36 V h0 H.old) (wq V 283 rfl) (wq V 249 rfl) (wd250 V) (wq V 251 rfl) [.int 2] [] 0 4 (lenOf (pd_21) rfl) D29_1 all0 (by decide) ?_
 rintro T1 h1_ _ _ H1 ⟨a5, k6, rfl, rfl, K7, g8, F9, F10⟩
 have na5 := Nat.le_trans H.le g8
 show Go _ _ _ _ (T1.setTop (mkF m 4 _ [.ref a5]))
 refine G.astoreN H1 (L' := #[.val (.ref p0), .val (.int 0), .val (.int 2), .val (.ref a5), .unset]) D29_4 (J := 5) rfl rfl rfl ?_
 refine G.iC H1 D29_5 (J := 6) rfl (v := 0) rfl ?_
 refine G.sI H1 (L' := #[.val (.ref p0), .val (.int 0), .val (.int 2), .val (.ref a5), .val (.int 0)]) D29_6 (J := 8) rfl rfl ?_
 refine G.iL H1 D29_8 (J := 10) rfl rfl ?_
 refine G.iN H1 D29_10 (J := 11) rfl rfl ?_
 refine G.cN H1 D29_11 (J := 14) rfl (by decide) ?_
 refine G.aN H1 D29_14 (J := 15) rfl rfl rfl ?_
 refine G.iL H1 D29_15 (J := 17) rfl rfl ?_
 refine G.aN H1 D29_17 (J := 18) rfl rfl rfl ?_
 refine G.iN H1 D29_18 (J := 19) rfl rfl ?_
 have F11 := (Arv.keep f0 K7 nin0)
 refine G.caloadG H1 F11 (j := 0) (v := (.int x0)) (by decide) rfl D29_19 (J := 20) rfl ?_
 refine G.cS H1 (m37 V a5 x0 k6 h1_ H1.old F9 na5 F10) (wq V 284 rfl) (wq V 285 rfl) (wd250 V) (wq V 286 rfl) [.ref a5, .int 0, .int x0] [] 0 23 (lenOf (pd_16) rfl) D29_20 (allS (mG (i := 0) rfl) all0) (by decide) ?_
 rintro T12 h12_ _ _ H12 ⟨rfl, rfl, K16, F17, F18⟩
 show Go _ _ _ _ (T12.setTop (mkF m 23 _ []))
 refine G.iI H12 (v := 1) (L' := #[.val (.ref p0), .val (.int 1), .val (.int 2), .val (.ref a5), .val (.int 0)]) D29_23 (J := 26) rfl rfl rfl rfl ?_
 refine G.iI H12 (v := 1) (L' := #[.val (.ref p0), .val (.int 1), .val (.int 2), .val (.ref a5), .val (.int 1)]) D29_26 (J := 29) rfl rfl rfl rfl ?_
 refine G.go H12 D29_29 (by decide) (J := 8) rfl ?_
 show Go _ _ _ _ (T12.setTop (mkF m 8 _ []))
 refine G.iL H12 D29_8 (J := 10) rfl rfl ?_
 refine G.iN H12 D29_10 (J := 11) rfl rfl ?_
 refine G.cN H12 D29_11 (J := 14) rfl (by decide) ?_
 refine G.aN H12 D29_14 (J := 15) rfl rfl rfl ?_
 refine G.iL H12 D29_15 (J := 17) rfl rfl ?_
 refine G.aN H12 D29_17 (J := 18) rfl rfl rfl ?_
 refine G.iN H12 D29_18 (J := 19) rfl rfl ?_
 have N19 : p0 ≠ a5 := (Nat.ne_of_lt (Nat.lt_of_lt_of_le f0.lt g8))
 have F20 := (Arv.keep F11 K16 (ninS N19 nin0))
 refine G.caloadG H12 F20 (j := 1) (v := (.int x1)) (by decide) rfl D29_19 (J := 20) rfl ?_
 refine G.cS H12 (m38 V a5 x1 k6 x0 h12_ H12.old F17 na5 F18) (wq V 284 rfl) (wq V 285 rfl) (wd250 V) (wq V 286 rfl) [.ref a5, .int 1, .int x1] [] 0 23 (lenOf (pd_16) rfl) D29_20 (allS (mG (i := 0) rfl) all0) (by decide) ?_
 rintro T21 h21_ _ _ H21 ⟨rfl, rfl, K25, F26, F27⟩
 show Go _ _ _ _ (T21.setTop (mkF m 23 _ []))
 refine G.iI H21 (v := 2) (L' := #[.val (.ref p0), .val (.int 2), .val (.int 2), .val (.ref a5), .val (.int 1)]) D29_23 (J := 26) rfl rfl rfl rfl ?_
 refine G.iI H21 (v := 2) (L' := #[.val (.ref p0), .val (.int 2), .val (.int 2), .val (.ref a5), .val (.int 2)]) D29_26 (J := 29) rfl rfl rfl rfl ?_
 refine G.go H21 D29_29 (by decide) (J := 8) rfl ?_
 show Go _ _ _ _ (T21.setTop (mkF m 8 _ []))
 refine G.iL H21 D29_8 (J := 10) rfl rfl ?_
 refine G.iN H21 D29_10 (J := 11) rfl rfl ?_
 refine G.cY H21 D29_11 (by decide) (by decide) (J := 32) rfl ?_
 refine G.aN H21 D29_32 (J := 33) rfl rfl rfl ?_
 have K28 : Keep h0 h21_ [] := (Keep.trans (Keep.trans (Keep.trans (Keep.refl h0 []) K7 all0) K16 (allS (Or.inr g8) all0)) K25 (allS (Or.inr g8) all0))
 exact G.retA H21 (t := (.array .byte)) rfl rfl rfl D29_33 (so := [a5]) (allS (mG (i := 0) rfl) all0) (by decide) (by decide) ⟨a5, k6, rfl, rfl, K28, g8, F26, F27⟩
theorem m40 (V : Env1 Z a0 n0 uu0 uu1 uu2 uu3 uu4) (p0 : Addr) (d0 : ClassId) (x0 : Int32) (x1 : Int32) (h0 : Heap) (hO : Old Z n0 h0) (f0 : Arv Z h0 p0 d0 .byte 4 [(.int (x0.toInt8.toInt32)), (.int ((x0 >>> ((8 : Int32) &&& 31)).toInt8.toInt32)), (.int (x1.toInt8.toInt32)), (.int ((x1 >>> ((8 : Int32) &&& 31)).toInt8.toInt32))] (.int 0)) (r1 : ¬ x0 < 0 ∧ ¬ 65535 < x0) :
  Met Z a0 ELs True n0 l ⟨"java/lang/StringUTF16", "getChar", "([BI)C"⟩ Y16 2 (some .char) ⟨0, 0, 0, 0⟩ #[.ref p0, .int 0] h0 [] (fun v h so => (v = some (.int x0) ∧ so = [] ∧ h0 = h)) := by
 refine Met.of (EWl V) (by first | decide +kernel | rfl) hO (L0 := #[.val (.ref p0), .val (.int 0)]) rfl ?_
 intro p e s m below meth c T H
 refine G.getS H (wq V 287 rfl) Via.refl (Sta.ext H.old.2 (hv5 V)) D37_0 (J := 3) rfl ?_
 intro T1 H2
 refine G.ifYes H2 D37_3 (by decide) (by decide) (J := 28) rfl ?_
 refine G.iN H2 D37_28 (J := 29) rfl rfl ?_
 refine G.iC H2 D37_29 (J := 30) rfl (v := 1) rfl ?_
 refine G.ishl H2 D37_30 (J := 31) rfl ?_
 show Go _ _ _ _ (T1.setTop (mkF m 31 _ [.int 0]))
 refine G.sN H2 (L' := #[.val (.ref p0), .val (.int 0)]) D37_31 (J := 32) rfl rfl ?_
 refine G.aN H2 D37_32 (J := 33) rfl rfl rfl ?_
 refine G.iN H2 D37_33 (J := 34) rfl rfl ?_
 refine G.iI H2 (v := 1) (L' := #[.val (.ref p0), .val (.int 1)]) D37_34 (J := 37) rfl rfl rfl rfl ?_
 refine G.baloadG H2 f0 (j := 0) (v := (.int (x0.toInt8.toInt32))) (by decide) rfl D37_37 (J := 38) rfl ?_
 refine G.sP H2 D37_38 (J := 41) rfl (v := 255) rfl ?_
 refine G.iand H2 D37_41 (J := 42) rfl ?_
 refine G.getS H2 (wq V 288 rfl) Via.refl (Sta.ext H2.old.2 (hv6 V)) D37_42 (J := 45) rfl ?_
 intro T3 H4
 refine G.ishl H4 D37_45 (J := 46) rfl ?_
 rw [own_shl0]
 refine G.aN H4 D37_46 (J := 47) rfl rfl rfl ?_
 refine G.iN H4 D37_47 (J := 48) rfl rfl ?_
 refine G.baloadG H4 f0 (j := 1) (v := (.int ((x0 >>> ((8 : Int32) &&& 31)).toInt8.toInt32))) (by decide) rfl D37_48 (J := 49) rfl ?_
 refine G.sP H4 D37_49 (J := 52) rfl (v := 255) rfl ?_
 refine G.iand H4 D37_52 (J := 53) rfl ?_
 refine G.getS H4 (wq V 289 rfl) Via.refl (Sta.ext H4.old.2 (hv7 V)) D37_53 (J := 56) rfl ?_
 intro T5 H6
 refine G.ishl H6 D37_56 (J := 57) rfl ?_
 refine G.ior H6 D37_57 (J := 58) rfl ?_
 rw [own_rec0 r1]
 refine G.i2c H6 (y := x0) D37_58 (J := 59) rfl (own_c16 r1) ?_
 exact G.retN H6 (t := .char) rfl (by decide) D37_59 (so := []) all0 (by decide) (by decide) ⟨(congrArg (fun q => some (Value.int q)) (own_narC r1)), rfl, rfl⟩
theorem m41 (V : Env1 Z a0 n0 uu0 uu1 uu2 uu3 uu4) (p0 : Addr) (d0 : ClassId) (x0 : Int32) (x1 : Int32) (h0 : Heap) (hO : Old Z n0 h0) (f0 : Arv Z h0 p0 d0 .byte 4 [(.int (x0.toInt8.toInt32)), (.int ((x0 >>> ((8 : Int32) &&& 31)).toInt8.toInt32)), (.int (x1.toInt8.toInt32)), (.int ((x1 >>> ((8 : Int32) &&& 31)).toInt8.toInt32))] (.int 0)) (r1 : ¬ x1 < 0 ∧ ¬ 65535 < x1) :
  Met Z a0 ELs True n0 l ⟨"java/lang/StringUTF16", "getChar", "([BI)C"⟩ Y16 2 (some .char) ⟨0, 0, 0, 0⟩ #[.ref p0, .int 1] h0 [] (fun v h so => (v = some (.int x1) ∧ so = [] ∧ h0 = h)) := by
 refine Met.of (EWl V) (by first | decide +kernel | rfl) hO (L0 := #[.val (.ref p0), .val (.int 1)]) rfl ?_
 intro p e s m below meth c T H
 refine G.getS H (wq V 287 rfl) Via.refl (Sta.ext H.old.2 (hv5 V)) D37_0 (J := 3) rfl ?_
 intro T1 H2
 refine G.ifYes H2 D37_3 (by decide) (by decide) (J := 28) rfl ?_
 refine G.iN H2 D37_28 (J := 29) rfl rfl ?_
 refine G.iC H2 D37_29 (J := 30) rfl (v := 1) rfl ?_
 refine G.ishl H2 D37_30 (J := 31) rfl ?_
 show Go _ _ _ _ (T1.setTop (mkF m 31 _ [.int 2]))
 refine G.sN H2 (L' := #[.val (.ref p0), .val (.int 2)]) D37_31 (J := 32) rfl rfl ?_
 refine G.aN H2 D37_32 (J := 33) rfl rfl rfl ?_
 refine G.iN H2 D37_33 (J := 34) rfl rfl ?_
 refine G.iI H2 (v := 3) (L' := #[.val (.ref p0), .val (.int 3)]) D37_34 (J := 37) rfl rfl rfl rfl ?_
 refine G.baloadG H2 f0 (j := 2) (v := (.int (x1.toInt8.toInt32))) (by decide) rfl D37_37 (J := 38) rfl ?_
 refine G.sP H2 D37_38 (J := 41) rfl (v := 255) rfl ?_
 refine G.iand H2 D37_41 (J := 42) rfl ?_
 refine G.getS H2 (wq V 288 rfl) Via.refl (Sta.ext H2.old.2 (hv6 V)) D37_42 (J := 45) rfl ?_
 intro T3 H4
 refine G.ishl H4 D37_45 (J := 46) rfl ?_
 rw [own_shl0]
 refine G.aN H4 D37_46 (J := 47) rfl rfl rfl ?_
 refine G.iN H4 D37_47 (J := 48) rfl rfl ?_
 refine G.baloadG H4 f0 (j := 3) (v := (.int ((x1 >>> ((8 : Int32) &&& 31)).toInt8.toInt32))) (by decide) rfl D37_48 (J := 49) rfl ?_
 refine G.sP H4 D37_49 (J := 52) rfl (v := 255) rfl ?_
 refine G.iand H4 D37_52 (J := 53) rfl ?_
 refine G.getS H4 (wq V 289 rfl) Via.refl (Sta.ext H4.old.2 (hv7 V)) D37_53 (J := 56) rfl ?_
 intro T5 H6
 refine G.ishl H6 D37_56 (J := 57) rfl ?_
 refine G.ior H6 D37_57 (J := 58) rfl ?_
 rw [own_rec0 r1]
 refine G.i2c H6 (y := x1) D37_58 (J := 59) rfl (own_c16 r1) ?_
 exact G.retN H6 (t := .char) rfl (by decide) D37_59 (so := []) all0 (by decide) (by decide) ⟨(congrArg (fun q => some (Value.int q)) (own_narC r1)), rfl, rfl⟩
theorem m42 (V : Env1 Z a0 n0 uu0 uu1 uu2 uu3 uu4) (p0 : Addr) (d0 : ClassId) (x0 : Int32) (x1 : Int32) (h0 : Heap) (hO : Old Z n0 h0) (f0 : Arv Z h0 p0 d0 .char 2 [.int x0, .int x1] (.int 0)) (r1 : ¬ x0 < 0 ∧ ¬ 65535 < x0) (r2 : ¬ x1 < 0 ∧ ¬ 65535 < x1) :
  Met Z a0 ELs True n0 l ⟨"java/lang/StringUTF16", "compress", "([CII)[B"⟩ Y15 6 (some (.array .byte)) ⟨3, 2, 6, 40⟩ #[.ref p0, .int 0, .int 2] h0 [] (fun v h so => (∃ a28 : Addr, ∃ k29 : ClassId, 255 < x0 ∧ v = some (.ref a28) ∧ so = [a28] ∧ Keep h0 h [] ∧ h0.size ≤ a28 ∧ Arv Z h a28 k29 .byte 4 [(.int (x0.toInt8.toInt32)), (.int ((x0 >>> ((8 : Int32) &&& 31)).toInt8.toInt32)), (.int (x1.toInt8.toInt32)), (.int ((x1 >>> ((8 : Int32) &&& 31)).toInt8.toInt32))] (.int 0) ∧ Exa Z h a28 "[B") ∨ (∃ a45 : Addr, ∃ k46 : ClassId, ¬ 255 < x0 ∧ 255 < x1 ∧ v = some (.ref a45) ∧ so = [a45] ∧ Keep h0 h [] ∧ h0.size ≤ a45 ∧ Arv Z h a45 k46 .byte 4 [(.int (x0.toInt8.toInt32)), (.int ((x0 >>> ((8 : Int32) &&& 31)).toInt8.toInt32)), (.int (x1.toInt8.toInt32)), (.int ((x1 >>> ((8 : Int32) &&& 31)).toInt8.toInt32))] (.int 0) ∧ Exa Z h a45 "[B") ∨ (∃ a2 : Addr, ∃ k5 : ClassId, ¬ 255 < x0 ∧ ¬ 255 < x1 ∧ v = some (.ref a2) ∧ so = [a2] ∧ Keep h0 h [] ∧ h0.size ≤ a2 ∧ Arv Z h a2 k5 .byte 2 [(.int (x0.toInt8.toInt32)), (.int (x1.toInt8.toInt32))] (.int 0) ∧ Exa Z h a2 "[B")) := by
 refine Met.of (EWl V) (by first | decide +kernel | rfl) hO (L0 := #[.val (.ref p0), .val (.int 0), .val (.int 2), .unset, .unset, .unset]) rfl ?_
 intro p e s m below meth c T H
 refine G.iN H D31_0 (J := 1) rfl rfl ?_
 refine G.newP H (aty := .byte) (wd24 V) D31_1 (J := 3) rfl (by decide) (cap := 2) (by decide) (by decide) (by decide) (by decide) (vs := [.int 0, .int 0]) rfl (ad := "[B") rfl ?_
 intro T1 h1_ a2 k5 ga2 H1 E3 A4 X6
 have na2 := H.nle ga2
 replace A4 : Arv Z h1_ a2 k5 .byte 2 [.int 0, .int 0] (.int 0) := A4
 refine G.astoreN H1 (L' := #[.val (.ref p0), .val (.int 0), .val (.int 2), .val (.ref a2), .unset, .unset]) D31_3 (J := 4) rfl rfl rfl ?_
 refine G.aN H1 D31_4 (J := 5) rfl rfl rfl ?_
 refine G.iN H1 D31_5 (J := 6) rfl rfl ?_
 refine G.aN H1 D31_6 (J := 7) rfl rfl rfl ?_
 refine G.iC H1 D31_7 (J := 8) rfl (v := 0) rfl ?_
 refine G.iN H1 D31_8 (J := 9) rfl rfl ?_
 have F7 := (Arv.ext f0 E3)
 have N8 : p0 ≠ a2 := arv_tyne F7 A4 (by decide)
 refine G.cS H1 (m34 V p0 a2 d0 x0 x1 k5 h1_ H1.old F7 A4 na2 X6 N8) (wq V 277 rfl) (wq V 278 rfl) (wd250 V) (wq V 279 rfl) [.ref p0, .int 0, .ref a2, .int 0, .int 2] [] 0 12 (lenOf (pd_20) rfl) D31_9 (allS (mG (i := 0) rfl) all0) (by decide) ?_
 intro T9 h9_ v10 s11 H9 Q12
 rcases Q12 with ⟨c13, rfl, rfl, rfl⟩ | ⟨c14, c15, rfl, rfl, K16, F17, F18⟩ | ⟨c19, c20, rfl, rfl, K21, F22, F23⟩
 ·
  show Go _ _ _ _ (T9.setTop (mkF m 12 _ [.int 0]))
  refine G.sI H9 (L' := #[.val (.ref p0), .val (.int 0), .val (.int 2), .val (.ref a2), .val (.int 0), .unset]) D31_12 (J := 14) rfl rfl ?_
  refine G.iL H9 D31_14 (J := 16) rfl rfl ?_
  refine G.iN H9 D31_16 (J := 17) rfl rfl ?_
  refine G.cN H9 D31_17 (J := 20) rfl (by decide) ?_
  refine G.aN H9 D31_20 (J := 21) rfl rfl rfl ?_
  refine G.iN H9 D31_21 (J := 22) rfl rfl ?_
  refine G.iN H9 D31_22 (J := 23) rfl rfl ?_
  refine G.cS H9 (m39 V p0 d0 x0 x1 h1_ H9.old F7) (wq V 280 rfl) (wq V 281 rfl) (wd250 V) (wq V 282 rfl) [.ref p0, .int 0, .int 2] [] 0 26 (lenOf (pd_22) rfl) D31_23 all0 (by decide) ?_
  rintro T24 h24_ _ _ H24 ⟨a28, k29, rfl, rfl, K30, g31, F32, F33⟩
  have na28 := Nat.le_trans H9.le g31
  show Go _ _ _ _ (T24.setTop (mkF m 26 _ [.ref a28]))
  refine G.astore H24 (L' := #[.val (.ref p0), .val (.int 0), .val (.int 2), .val (.ref a2), .val (.int 0), .val (.ref a28)]) D31_26 (J := 28) rfl rfl rfl ?_
  refine G.aL H24 D31_28 (J := 30) rfl rfl rfl ?_
  refine G.iL H24 D31_30 (J := 32) rfl rfl ?_
  refine G.cS H24 (m40 V a28 k29 x0 x1 h24_ H24.old F32 r1) (wq V 290 rfl) (wd291 V) (wd250 V) (wd292 V) [.ref a28, .int 0] [] 0 35 (lenOf (pd_23) rfl) D31_32 all0 (by decide) ?_
  rintro T34 h34_ _ _ H34 ⟨rfl, rfl, rfl⟩
  show Go _ _ _ _ (T34.setTop (mkF m 35 _ [.int x0]))
  refine G.sP H34 D31_35 (J := 38) rfl (v := 255) rfl ?_
  refine G.cY H34 D31_38 (XT.ii_gt_t c13) (by decide) (J := 54) rfl ?_
  refine G.aL H34 D31_54 (J := 56) rfl rfl rfl ?_
  have K38 : Keep h0 h24_ [] := (Keep.trans (Keep.ext (Keep.refl h0 []) E3) K30 all0)
  have K39 : Keep h0 h1_ [] := (Keep.ext (Keep.refl h0 []) E3)
  exact G.retA H34 (t := (.array .byte)) rfl rfl rfl D31_56 (so := [a28]) (allS (mG (i := 0) rfl) all0) (by decide) (by decide) (Or.inl ⟨a28, k29, c13, rfl, rfl, K38, (Nat.le_trans K39.1 g31), F32, F33⟩)
 ·
  show Go _ _ _ _ (T9.setTop (mkF m 12 _ [.int 1]))
  refine G.sI H9 (L' := #[.val (.ref p0), .val (.int 0), .val (.int 2), .val (.ref a2), .val (.int 1), .unset]) D31_12 (J := 14) rfl rfl ?_
  refine G.iL H9 D31_14 (J := 16) rfl rfl ?_
  refine G.iN H9 D31_16 (J := 17) rfl rfl ?_
  refine G.cN H9 D31_17 (J := 20) rfl (by decide) ?_
  refine G.aN H9 D31_20 (J := 21) rfl rfl rfl ?_
  refine G.iN H9 D31_21 (J := 22) rfl rfl ?_
  refine G.iN H9 D31_22 (J := 23) rfl rfl ?_
  have F40 := (Arv.keep F7 K16 (ninS N8 nin0))
  refine G.cS H9 (m39 V p0 d0 x0 x1 h9_ H9.old F40) (wq V 280 rfl) (wq V 281 rfl) (wd250 V) (wq V 282 rfl) [.ref p0, .int 0, .int 2] [] 0 26 (lenOf (pd_22) rfl) D31_23 all0 (by decide) ?_
  rintro T41 h41_ _ _ H41 ⟨a45, k46, rfl, rfl, K47, g48, F49, F50⟩
  have na45 := Nat.le_trans H9.le g48
  show Go _ _ _ _ (T41.setTop (mkF m 26 _ [.ref a45]))
  refine G.astore H41 (L' := #[.val (.ref p0), .val (.int 0), .val (.int 2), .val (.ref a2), .val (.int 1), .val (.ref a45)]) D31_26 (J := 28) rfl rfl rfl ?_
  refine G.aL H41 D31_28 (J := 30) rfl rfl rfl ?_
  refine G.iL H41 D31_30 (J := 32) rfl rfl ?_
  refine G.cS H41 (m41 V a45 k46 x0 x1 h41_ H41.old F49 r2) (wq V 290 rfl) (wd291 V) (wd250 V) (wd292 V) [.ref a45, .int 1] [] 0 35 (lenOf (pd_23) rfl) D31_32 all0 (by decide) ?_
  rintro T51 h51_ _ _ H51 ⟨rfl, rfl, rfl⟩
  show Go _ _ _ _ (T51.setTop (mkF m 35 _ [.int x1]))
  refine G.sP H51 D31_35 (J := 38) rfl (v := 255) rfl ?_
  refine G.cY H51 D31_38 (XT.ii_gt_t c15) (by decide) (J := 54) rfl ?_
  refine G.aL H51 D31_54 (J := 56) rfl rfl rfl ?_
  have K55 : Keep h0 h41_ [] := (Keep.trans (Keep.trans (Keep.ext (Keep.refl h0 []) E3) K16 (allS (Or.inr (Nat.le_of_eq ga2.symm)) all0)) K47 all0)
  have K56 : Keep h0 h9_ [] := (Keep.trans (Keep.ext (Keep.refl h0 []) E3) K16 (allS (Or.inr (Nat.le_of_eq ga2.symm)) all0))
  exact G.retA H51 (t := (.array .byte)) rfl rfl rfl D31_56 (so := [a45]) (allS (mG (i := 0) rfl) all0) (by decide) (by decide) (Or.inr (Or.inl ⟨a45, k46, c14, c15, rfl, rfl, K55, (Nat.le_trans K56.1 g48), F49, F50⟩))
 ·
  show Go _ _ _ _ (T9.setTop (mkF m 12 _ [.int 2]))
  refine G.sI H9 (L' := #[.val (.ref p0), .val (.int 0), .val (.int 2), .val (.ref a2), .val (.int 2), .unset]) D31_12 (J := 14) rfl rfl ?_
  refine G.iL H9 D31_14 (J := 16) rfl rfl ?_
  refine G.iN H9 D31_16 (J := 17) rfl rfl ?_
  refine G.cY H9 D31_17 (by decide) (by decide) (J := 57) rfl ?_
  refine G.aN H9 D31_57 (J := 58) rfl rfl rfl ?_
  have K57 : Keep h0 h9_ [] := (Keep.trans (Keep.ext (Keep.refl h0 []) E3) K21 (allS (Or.inr (Nat.le_of_eq ga2.symm)) all0))
  exact G.retA H9 (t := (.array .byte)) rfl rfl rfl D31_58 (so := [a2]) (allS (mG (i := 0) rfl) all0) (by decide) (by decide) (Or.inr (Or.inr ⟨a2, k5, c19, c20, rfl, rfl, K57, (Nat.le_of_eq ga2.symm), F22, F23⟩))
theorem m43 (V : Env1 Z a0 n0 uu0 uu1 uu2 uu3 uu4) (p0 : Addr) (d0 : ClassId) (x0 : Int32) (x1 : Int32) (h0 : Heap) (hO : Old Z n0 h0) (f0 : Arv Z h0 p0 d0 .byte 4 [(.int (x0.toInt8.toInt32)), (.int ((x0 >>> ((8 : Int32) &&& 31)).toInt8.toInt32)), (.int (x1.toInt8.toInt32)), (.int ((x1 >>> ((8 : Int32) &&& 31)).toInt8.toInt32))] (.int 0)) :
  Met Z a0 ELs True n0 l ⟨"java/lang/StringUTF16", "coderFromArrayLen", "([BI)B"⟩ Y48 2 (some .byte) ⟨0, 0, 0, 0⟩ #[.ref p0, .int 2] h0 [] (fun v h so => (v = some (.int 1) ∧ so = [] ∧ h0 = h)) := by
 refine Met.of (EWl V) (by first | decide +kernel | rfl) hO (L0 := #[.val (.ref p0), .val (.int 2)]) rfl ?_
 intro p e s m below meth c T H
 refine G.iN H D30_0 (J := 1) rfl rfl ?_
 refine G.aN H D30_1 (J := 2) rfl rfl rfl ?_
 refine G.aR H f0 D30_2 (J := 3) rfl ?_
 refine G.isub H D30_3 (J := 4) rfl ?_
 show Go _ _ _ _ (T.setTop (mkF m 4 _ [(.int (-2 : Int32))]))
 refine G.bP H D30_4 (J := 6) rfl (v := 31) rfl ?_
 refine G.iushr H D30_6 (J := 7) rfl ?_
 show Go _ _ _ _ (T.setTop (mkF m 7 _ [.int 1]))
 refine G.i2b H D30_7 (J := 8) rfl ?_
 show Go _ _ _ _ (T.setTop (mkF m 8 _ [.int 1]))
 exact G.retN H (t := .byte) rfl (by decide) D30_8 (so := []) all0 (by decide) (by decide) ⟨rfl, rfl, rfl⟩
theorem m44 (V : Env1 Z a0 n0 uu0 uu1 uu2 uu3 uu4) (p0 : Addr) (d0 : ClassId) (x0 : Int32) (x1 : Int32) (h0 : Heap) (hO : Old Z n0 h0) (f0 : Arv Z h0 p0 d0 .byte 2 [(.int (x0.toInt8.toInt32)), (.int (x1.toInt8.toInt32))] (.int 0)) :
  Met Z a0 ELs True n0 l ⟨"java/lang/StringUTF16", "coderFromArrayLen", "([BI)B"⟩ Y48 2 (some .byte) ⟨0, 0, 0, 0⟩ #[.ref p0, .int 2] h0 [] (fun v h so => (v = some (.int 0) ∧ so = [] ∧ h0 = h)) := by
 refine Met.of (EWl V) (by first | decide +kernel | rfl) hO (L0 := #[.val (.ref p0), .val (.int 2)]) rfl ?_
 intro p e s m below meth c T H
 refine G.iN H D30_0 (J := 1) rfl rfl ?_
 refine G.aN H D30_1 (J := 2) rfl rfl rfl ?_
 refine G.aR H f0 D30_2 (J := 3) rfl ?_
 refine G.isub H D30_3 (J := 4) rfl ?_
 show Go _ _ _ _ (T.setTop (mkF m 4 _ [.int 0]))
 refine G.bP H D30_4 (J := 6) rfl (v := 31) rfl ?_
 refine G.iushr H D30_6 (J := 7) rfl ?_
 show Go _ _ _ _ (T.setTop (mkF m 7 _ [.int 0]))
 refine G.i2b H D30_7 (J := 8) rfl ?_
 show Go _ _ _ _ (T.setTop (mkF m 8 _ [.int 0]))
 exact G.retN H (t := .byte) rfl (by decide) D30_8 (so := []) all0 (by decide) (by decide) ⟨rfl, rfl, rfl⟩
theorem m45 (V : Env1 Z a0 n0 uu0 uu1 uu2 uu3 uu4) (p0 : Addr) (p1 : Addr) (d0 : ClassId) (x0 : Int32) (x1 : Int32) (h0 : Heap) (hO : Old Z n0 h0) (f0 : Arv Z h0 p1 d0 .char 2 [.int x0, .int x1] (.int 0)) (r1 : ¬ x0 < 0 ∧ ¬ 65535 < x0) (r2 : ¬ x1 < 0 ∧ ¬ 65535 < x1) (f3 : Exa Z h0 p0 "java/lang/String") (f4 : Fld Z h0 p0 "java/lang/String" "coder" "B" (.int 0)) (g5 : n0 ≤ p0) (f6 : Fld Z h0 p0 "java/lang/String" "value" "[B" .null) :
  Met Z a0 ELs True n0 l ⟨"java/lang/String", "<init>", "([CIILjava/lang/Void;)V"⟩ Y12 6 none ⟨4, 2, 6, 57⟩ #[.ref p0, .ref p1, .int 0, .int 2, .null] h0 [p0] (fun v h so => (∃ a9 : Addr, ∃ k10 : ClassId, 255 < x0 ∧ v = none ∧ so = [a9] ∧ Keep h0 h [p0] ∧ h0.size ≤ a9 ∧ (∀ (O n d : String) (w : Value), Fld Z h0 p0 O n d w → RoadKit.slotOf Z O n d ≠ RoadKit.slotOf Z "java/lang/String" "coder" "B" → RoadKit.slotOf Z O n d ≠ RoadKit.slotOf Z "java/lang/String" "value" "[B" → Fld Z h p0 O n d w) ∧ Exa Z h p0 "java/lang/String" ∧ Fld Z h p0 "java/lang/String" "coder" "B" (.int 1) ∧ Fld Z h p0 "java/lang/String" "value" "[B" (.ref a9) ∧ Arv Z h a9 k10 .byte 4 [(.int (x0.toInt8.toInt32)), (.int ((x0 >>> ((8 : Int32) &&& 31)).toInt8.toInt32)), (.int (x1.toInt8.toInt32)), (.int ((x1 >>> ((8 : Int32) &&& 31)).toInt8.toInt32))] (.int 0) ∧ Exa Z h a9 "[B") ∨ (∃ a16 : Addr, ∃ k17 : ClassId, ¬ 255 < x0 ∧ 255 < x1 ∧ v = none ∧ so = [a16] ∧ Keep h0 h [p0] ∧ h0.size ≤ a16 ∧ (∀ (O n d : String) (w : Value), Fld Z h0 p0 O n d w → RoadKit.slotOf Z O n d ≠ RoadKit.slotOf Z "java/lang/String" "coder" "B" → RoadKit.slotOf Z O n d ≠ RoadKit.slotOf Z "java/lang/String" "value" "[B" → Fld Z h p0 O n d w) ∧ Exa Z h p0 "java/lang/String" ∧ Fld Z h p0 "java/lang/String" "coder" "B" (.int 1) ∧ Fld Z h p0 "java/lang/String" "value" "[B" (.ref a16) ∧ Arv Z h a16 k17 .byte 4 [(.int (x0.toInt8.toInt32)), (.int ((x0 >>> ((8 : Int32) &&& 31)).toInt8.toInt32)), (.int (x1.toInt8.toInt32)), (.int ((x1 >>> ((8 : Int32) &&& 31)).toInt8.toInt32))] (.int 0) ∧ Exa Z h a16 "[B") ∨ (∃ a24 : Addr, ∃ k25 : ClassId, ¬ 255 < x0 ∧ ¬ 255 < x1 ∧ v = none ∧ so = [a24] ∧ Keep h0 h [p0] ∧ h0.size ≤ a24 ∧ (∀ (O n d : String) (w : Value), Fld Z h0 p0 O n d w → RoadKit.slotOf Z O n d ≠ RoadKit.slotOf Z "java/lang/String" "coder" "B" → RoadKit.slotOf Z O n d ≠ RoadKit.slotOf Z "java/lang/String" "value" "[B" → Fld Z h p0 O n d w) ∧ Exa Z h p0 "java/lang/String" ∧ Fld Z h p0 "java/lang/String" "coder" "B" (.int 0) ∧ Fld Z h p0 "java/lang/String" "value" "[B" (.ref a24) ∧ Arv Z h a24 k25 .byte 2 [(.int (x0.toInt8.toInt32)), (.int (x1.toInt8.toInt32))] (.int 0) ∧ Exa Z h a24 "[B")) := by
 refine Met.of (EWl V) (by first | decide +kernel | rfl) hO (L0 := #[.val (.ref p0), .val (.ref p1), .val (.int 0), .val (.int 2), .val .null, .unset]) rfl ?_
 intro p e s m below meth c T H
 refine G.aN H D7_0 (J := 1) rfl rfl rfl ?_
 refine G.initO H (wq V 20 rfl) (wq V 21 rfl) (wq V 22 rfl) rfl D7_1 (J := 4) rfl (by decide) (W := 0) rfl (by decide) ?_
 intro T1 H2
 refine G.iN H2 D7_4 (J := 5) rfl rfl ?_
 refine G.ifYes H2 D7_5 (by decide) (by decide) (J := 27) rfl ?_
 refine G.getS H2 (wd115 V) Via.refl (Sta.ext H2.old.2 (hv8 V)) D7_27 (J := 30) rfl ?_
 intro T3 H4
 refine G.ifNo H4 D7_30 (J := 33) rfl (XT.i0_eq_f (hv9 V)) ?_
 refine G.aN H4 D7_33 (J := 34) rfl rfl rfl ?_
 refine G.iN H4 D7_34 (J := 35) rfl rfl ?_
 refine G.iN H4 D7_35 (J := 36) rfl rfl ?_
 refine G.cS H4 (m42 V p1 d0 x0 x1 h0 H4.old f0 r1 r2) (wq V 274 rfl) (wq V 275 rfl) (wd250 V) (wq V 276 rfl) [.ref p1, .int 0, .int 2] [] 0 39 (lenOf (pd_22) rfl) D7_36 all0 (by decide) ?_
 intro T5 h5_ v6 s7 H5 Q8
 rcases Q8 with ⟨a9, k10, c11, rfl, rfl, K12, g13, F14, F15⟩ | ⟨a16, k17, c18, c19, rfl, rfl, K20, g21, F22, F23⟩ | ⟨a24, k25, c26, c27, rfl, rfl, K28, g29, F30, F31⟩
 ·
  have na9 := Nat.le_trans H.le g13
  show Go _ _ _ _ (T5.setTop (mkF m 39 _ [.ref a9]))
  refine G.astore H5 (L' := #[.val (.ref p0), .val (.ref p1), .val (.int 0), .val (.int 2), .val .null, .val (.ref a9)]) D7_39 (J := 41) rfl rfl rfl ?_
  refine G.aN H5 D7_41 (J := 42) rfl rfl rfl ?_
  refine G.aL H5 D7_42 (J := 44) rfl rfl rfl ?_
  refine G.iN H5 D7_44 (J := 45) rfl rfl ?_
  refine G.cS H5 (m43 V a9 k10 x0 x1 h5_ H5.old F14) (wq V 293 rfl) (wq V 294 rfl) (wd250 V) (wq V 295 rfl) [.ref a9, .int 2] [.ref p0] 1 48 (lenOf (pd_24) rfl) D7_45 all0 (by decide) ?_
  rintro T32 h32_ _ _ H32 ⟨rfl, rfl, rfl⟩
  show Go _ _ _ _ (T32.setTop (mkF m 48 _ [.int 1, .ref p0]))
  have F36 := (Exa.keep f3 K12)
  have F37 := (Fld.keep f4 K12 nin0)
  refine G.putF H32 (wd30 V) Via.refl F37 F36 (Or.inr ⟨(wd26 V), rfl, rfl⟩) (wd10 V) (ty := .byte) (by decide) rfl rfl g5 (Sf.mem (mG (i := 1) rfl)) D7_48 (J := 51) rfl ?_
  intro T38 h38_ H38 W39
  have F40 : Fld Z h38_ p0 "java/lang/String" "coder" "B" (.int 1) := Fld.same W39 F37
  refine G.aN H38 D7_51 (J := 52) rfl rfl rfl ?_
  refine G.aL H38 D7_52 (J := 54) rfl rfl rfl ?_
  have F41 := (Exa.wr W39 F36)
  have F42 := (Fld.other W39 (Fld.keep f6 K12 nin0) (Or.inr (slot_ne (Or.inr (wd25 V)) (Or.inr (wd26 V)) (by decide) (t := (.array .byte)) (t' := .byte) (by decide) (by decide))))
  refine G.putF H38 (wd29 V) Via.refl F42 F41 (Or.inr ⟨(wd25 V), rfl, rfl⟩) (wd10 V) (ty := (.array .byte)) (by decide) rfl rfl g5 (Sf.mem (mG (i := 1) rfl)) D7_54 (J := 57) rfl ?_
  intro T43 h43_ H43 W44
  have F45 : Fld Z h43_ p0 "java/lang/String" "value" "[B" (.ref a9) := Fld.same W44 F42
  have F46 := (Exa.wr W44 F41)
  have F47 := (Fld.other W44 F40 (Or.inr (slot_ne (Or.inr (wd26 V)) (Or.inr (wd25 V)) (by decide) (t := .byte) (t' := (.array .byte)) (by decide) (by decide))))
  have K48 : Keep h5_ h43_ [p0] := (Keep.wr (Keep.wr (Keep.refl h5_ [p0]) W39 (Or.inl (mG (i := 0) rfl))) W44 (Or.inl (mG (i := 0) rfl)))
  have N49 : a9 ≠ p0 := Ne.symm (Exa.neArv (Exa.keep f3 K12) F14 (wd10 V))
  have F50 := (Arv.keep F14 K48 (ninS N49 nin0))
  have F51 := (Exa.keep F15 K48)
  have K52 : Keep h0 h43_ [p0] := (Keep.wr (Keep.wr (Keep.trans (Keep.refl h0 [p0]) K12 all0) W39 (Or.inl (mG (i := 0) rfl))) W44 (Or.inl (mG (i := 0) rfl)))
  exact G.retV H43 rfl D7_57 (so := [a9]) (allS (mG (i := 0) rfl) all0) (by decide) (by decide) (Or.inl ⟨a9, k10, c11, rfl, rfl, K52, g13, (fun O n d w F hn0 hn1 => (Fld.other W44 (Fld.other W39 (Fld.keep F K12 nin0) (Or.inr hn0)) (Or.inr hn1))), F46, F47, F45, F50, F51⟩)
 ·
  have na16 := Nat.le_trans H.le g21
  show Go _ _ _ _ (T5.setTop (mkF m 39 _ [.ref a16]))
  refine G.astore H5 (L' := #[.val (.ref p0), .val (.ref p1), .val (.int 0), .val (.int 2), .val .null, .val (.ref a16)]) D7_39 (J := 41) rfl rfl rfl ?_
  refine G.aN H5 D7_41 (J := 42) rfl rfl rfl ?_
  refine G.aL H5 D7_42 (J := 44) rfl rfl rfl ?_
  refine G.iN H5 D7_44 (J := 45) rfl rfl ?_
  refine G.cS H5 (m43 V a16 k17 x0 x1 h5_ H5.old F22) (wq V 293 rfl) (wq V 294 rfl) (wd250 V) (wq V 295 rfl) [.ref a16, .int 2] [.ref p0] 1 48 (lenOf (pd_24) rfl) D7_45 all0 (by decide) ?_
  rintro T53 h53_ _ _ H53 ⟨rfl, rfl, rfl⟩
  show Go _ _ _ _ (T53.setTop (mkF m 48 _ [.int 1, .ref p0]))
  have F57 := (Exa.keep f3 K20)
  have F58 := (Fld.keep f4 K20 nin0)
  refine G.putF H53 (wd30 V) Via.refl F58 F57 (Or.inr ⟨(wd26 V), rfl, rfl⟩) (wd10 V) (ty := .byte) (by decide) rfl rfl g5 (Sf.mem (mG (i := 1) rfl)) D7_48 (J := 51) rfl ?_
  intro T59 h59_ H59 W60
  have F61 : Fld Z h59_ p0 "java/lang/String" "coder" "B" (.int 1) := Fld.same W60 F58
  refine G.aN H59 D7_51 (J := 52) rfl rfl rfl ?_
  refine G.aL H59 D7_52 (J := 54) rfl rfl rfl ?_
  have F62 := (Exa.wr W60 F57)
  have F63 := (Fld.other W60 (Fld.keep f6 K20 nin0) (Or.inr (slot_ne (Or.inr (wd25 V)) (Or.inr (wd26 V)) (by decide) (t := (.array .byte)) (t' := .byte) (by decide) (by decide))))
  refine G.putF H59 (wd29 V) Via.refl F63 F62 (Or.inr ⟨(wd25 V), rfl, rfl⟩) (wd10 V) (ty := (.array .byte)) (by decide) rfl rfl g5 (Sf.mem (mG (i := 1) rfl)) D7_54 (J := 57) rfl ?_
  intro T64 h64_ H64 W65
  have F66 : Fld Z h64_ p0 "java/lang/String" "value" "[B" (.ref a16) := Fld.same W65 F63
  have F67 := (Exa.wr W65 F62)
  have F68 := (Fld.other W65 F61 (Or.inr (slot_ne (Or.inr (wd26 V)) (Or.inr (wd25 V)) (by decide) (t := .byte) (t' := (.array .byte)) (by decide) (by decide))))
  have K69 : Keep h5_ h64_ [p0] := (Keep.wr (Keep.wr (Keep.refl h5_ [p0]) W60 (Or.inl (mG (i := 0) rfl))) W65 (Or.inl (mG (i := 0) rfl)))
  have N70 : a16 ≠ p0 := Ne.symm (Exa.neArv (Exa.keep f3 K20) F22 (wd10 V))
  have F71 := (Arv.keep F22 K69 (ninS N70 nin0))
  have F72 := (Exa.keep F23 K69)
  have K73 : Keep h0 h64_ [p0] := (Keep.wr (Keep.wr (Keep.trans (Keep.refl h0 [p0]) K20 all0) W60 (Or.inl (mG (i := 0) rfl))) W65 (Or.inl (mG (i := 0) rfl)))
  exact G.retV H64 rfl D7_57 (so := [a16]) (allS (mG (i := 0) rfl) all0) (by decide) (by decide) (Or.inr (Or.inl ⟨a16, k17, c18, c19, rfl, rfl, K73, g21, (fun O n d w F hn0 hn1 => (Fld.other W65 (Fld.other W60 (Fld.keep F K20 nin0) (Or.inr hn0)) (Or.inr hn1))), F67, F68, F66, F71, F72⟩))
 ·
  have na24 := Nat.le_trans H.le g29
  show Go _ _ _ _ (T5.setTop (mkF m 39 _ [.ref a24]))
  refine G.astore H5 (L' := #[.val (.ref p0), .val (.ref p1), .val (.int 0), .val (.int 2), .val .null, .val (.ref a24)]) D7_39 (J := 41) rfl rfl rfl ?_
  refine G.aN H5 D7_41 (J := 42) rfl rfl rfl ?_
  refine G.aL H5 D7_42 (J := 44) rfl rfl rfl ?_
  refine G.iN H5 D7_44 (J := 45) rfl rfl ?_
  refine G.cS H5 (m44 V a24 k25 x0 x1 h5_ H5.old F30) (wq V 293 rfl) (wq V 294 rfl) (wd250 V) (wq V 295 rfl) [.ref a24, .int 2] [.ref p0] 1 48 (lenOf (pd_24) rfl) D7_45 all0 (by decide) ?_
  rintro T74 h74_ _ _ H74 ⟨rfl, rfl, rfl⟩
  show Go _ _ _ _ (T74.setTop (mkF m 48 _ [.int 0, .ref p0]))
  have F78 := (Exa.keep f3 K28)
  have F79 := (Fld.keep f4 K28 nin0)
  refine G.putF H74 (wd30 V) Via.refl F79 F78 (Or.inr ⟨(wd26 V), rfl, rfl⟩) (wd10 V) (ty := .byte) (by decide) rfl rfl g5 (Sf.mem (mG (i := 1) rfl)) D7_48 (J := 51) rfl ?_
  intro T80 h80_ H80 W81
  have F82 : Fld Z h80_ p0 "java/lang/String" "coder" "B" (.int 0) := Fld.same W81 F79
  refine G.aN H80 D7_51 (J := 52) rfl rfl rfl ?_
  refine G.aL H80 D7_52 (J := 54) rfl rfl rfl ?_
  have F83 := (Exa.wr W81 F78)
  have F84 := (Fld.other W81 (Fld.keep f6 K28 nin0) (Or.inr (slot_ne (Or.inr (wd25 V)) (Or.inr (wd26 V)) (by decide) (t := (.array .byte)) (t' := .byte) (by decide) (by decide))))
  refine G.putF H80 (wd29 V) Via.refl F84 F83 (Or.inr ⟨(wd25 V), rfl, rfl⟩) (wd10 V) (ty := (.array .byte)) (by decide) rfl rfl g5 (Sf.mem (mG (i := 1) rfl)) D7_54 (J := 57) rfl ?_
  intro T85 h85_ H85 W86
  have F87 : Fld Z h85_ p0 "java/lang/String" "value" "[B" (.ref a24) := Fld.same W86 F84
  have F88 := (Exa.wr W86 F83)
  have F89 := (Fld.other W86 F82 (Or.inr (slot_ne (Or.inr (wd26 V)) (Or.inr (wd25 V)) (by decide) (t := .byte) (t' := (.array .byte)) (by decide) (by decide))))
  have K90 : Keep h5_ h85_ [p0] := (Keep.wr (Keep.wr (Keep.refl h5_ [p0]) W81 (Or.inl (mG (i := 0) rfl))) W86 (Or.inl (mG (i := 0) rfl)))
  have N91 : a24 ≠ p0 := Ne.symm (Exa.neArv (Exa.keep f3 K28) F30 (wd10 V))
  have F92 := (Arv.keep F30 K90 (ninS N91 nin0))
  have F93 := (Exa.keep F31 K90)
  have K94 : Keep h0 h85_ [p0] := (Keep.wr (Keep.wr (Keep.trans (Keep.refl h0 [p0]) K28 all0) W81 (Or.inl (mG (i := 0) rfl))) W86 (Or.inl (mG (i := 0) rfl)))
  exact G.retV H85 rfl D7_57 (so := [a24]) (allS (mG (i := 0) rfl) all0) (by decide) (by decide) (Or.inr (Or.inr ⟨a24, k25, c26, c27, rfl, rfl, K94, g29, (fun O n d w F hn0 hn1 => (Fld.other W86 (Fld.other W81 (Fld.keep F K28 nin0) (Or.inr hn0)) (Or.inr hn1))), F88, F89, F87, F92, F93⟩))
theorem m46 (V : Env1 Z a0 n0 uu0 uu1 uu2 uu3 uu4) (p0 : Addr) (p1 : Addr) (d0 : ClassId) (x0 : Int32) (x1 : Int32) (h0 : Heap) (hO : Old Z n0 h0) (f0 : Arv Z h0 p1 d0 .char 2 [.int x0, .int x1] (.int 0)) (r1 : ¬ x0 < 0 ∧ ¬ 65535 < x0) (r2 : ¬ x1 < 0 ∧ ¬ 65535 < x1) (f3 : Exa Z h0 p0 "java/lang/String") (f4 : Fld Z h0 p0 "java/lang/String" "coder" "B" (.int 0)) (g5 : n0 ≤ p0) (f6 : Fld Z h0 p0 "java/lang/String" "value" "[B" .null) :
  Met Z a0 ELs True n0 l ⟨"java/lang/String", "<init>", "([C)V"⟩ Y51 2 none ⟨5, 2, 6, 74⟩ #[.ref p0, .ref p1] h0 [p0] (fun v h so => (∃ a5 : Addr, ∃ k6 : ClassId, 255 < x0 ∧ v = none ∧ so = [a5] ∧ Keep h0 h [p0] ∧ h0.size ≤ a5 ∧ (∀ (O n d : String) (w : Value), Fld Z h0 p0 O n d w → RoadKit.slotOf Z O n d ≠ RoadKit.slotOf Z "java/lang/String" "coder" "B" → RoadKit.slotOf Z O n d ≠ RoadKit.slotOf Z "java/lang/String" "value" "[B" → Fld Z h p0 O n d w) ∧ Exa Z h p0 "java/lang/String" ∧ Fld Z h p0 "java/lang/String" "coder" "B" (.int 1) ∧ Fld Z h p0 "java/lang/String" "value" "[B" (.ref a5) ∧ Arv Z h a5 k6 .byte 4 [(.int (x0.toInt8.toInt32)), (.int ((x0 >>> ((8 : Int32) &&& 31)).toInt8.toInt32)), (.int (x1.toInt8.toInt32)), (.int ((x1 >>> ((8 : Int32) &&& 31)).toInt8.toInt32))] (.int 0) ∧ Exa Z h a5 "[B") ∨ (∃ a16 : Addr, ∃ k17 : ClassId, ¬ 255 < x0 ∧ 255 < x1 ∧ v = none ∧ so = [a16] ∧ Keep h0 h [p0] ∧ h0.size ≤ a16 ∧ (∀ (O n d : String) (w : Value), Fld Z h0 p0 O n d w → RoadKit.slotOf Z O n d ≠ RoadKit.slotOf Z "java/lang/String" "coder" "B" → RoadKit.slotOf Z O n d ≠ RoadKit.slotOf Z "java/lang/String" "value" "[B" → Fld Z h p0 O n d w) ∧ Exa Z h p0 "java/lang/String" ∧ Fld Z h p0 "java/lang/String" "coder" "B" (.int 1) ∧ Fld Z h p0 "java/lang/String" "value" "[B" (.ref a16) ∧ Arv Z h a16 k17 .byte 4 [(.int (x0.toInt8.toInt32)), (.int ((x0 >>> ((8 : Int32) &&& 31)).toInt8.toInt32)), (.int (x1.toInt8.toInt32)), (.int ((x1 >>> ((8 : Int32) &&& 31)).toInt8.toInt32))] (.int 0) ∧ Exa Z h a16 "[B") ∨ (∃ a28 : Addr, ∃ k29 : ClassId, ¬ 255 < x0 ∧ ¬ 255 < x1 ∧ v = none ∧ so = [a28] ∧ Keep h0 h [p0] ∧ h0.size ≤ a28 ∧ (∀ (O n d : String) (w : Value), Fld Z h0 p0 O n d w → RoadKit.slotOf Z O n d ≠ RoadKit.slotOf Z "java/lang/String" "coder" "B" → RoadKit.slotOf Z O n d ≠ RoadKit.slotOf Z "java/lang/String" "value" "[B" → Fld Z h p0 O n d w) ∧ Exa Z h p0 "java/lang/String" ∧ Fld Z h p0 "java/lang/String" "coder" "B" (.int 0) ∧ Fld Z h p0 "java/lang/String" "value" "[B" (.ref a28) ∧ Arv Z h a28 k29 .byte 2 [(.int (x0.toInt8.toInt32)), (.int (x1.toInt8.toInt32))] (.int 0) ∧ Exa Z h a28 "[B")) := by
 refine Met.of (EWl V) (by first | decide +kernel | rfl) hO (L0 := #[.val (.ref p0), .val (.ref p1)]) rfl ?_
 intro p e s m below meth c T H
 refine G.aN H D14_0 (J := 1) rfl rfl rfl ?_
 refine G.aN H D14_1 (J := 2) rfl rfl rfl ?_
 refine G.iC H D14_2 (J := 3) rfl (v := 0) rfl ?_
 refine G.aN H D14_3 (J := 4) rfl rfl rfl ?_
 refine G.aR H f0 D14_4 (J := 5) rfl ?_
 refine G.aconstNull H D14_5 (J := 6) rfl ?_
 refine G.callI H (m45 V p0 p1 d0 x0 x1 h0 H.old f0 r1 r2 f3 f4 g5 f6) rfl (wq V 16 rfl) (wq V 17 rfl) (wd11 V) (wq V 19 rfl) (by decide) (a := p0) (argsL := [.ref p1, .int 0, .int 2, .null]) (rest := []) (W := 0) rfl rfl (lenOf (pd_14) rfl) rfl rfl D14_6 (J := 9) rfl (by decide) (by decide) (by decide) (by decide) (allS (mG (i := 0) rfl) all0) ?_
 intro T1 h1_ v2 s3 H1 Q4
 rcases Q4 with ⟨a5, k6, c7, rfl, rfl, K8, g9, U10, F11, F12, F13, F14, F15⟩ | ⟨a16, k17, c18, c19, rfl, rfl, K20, g21, U22, F23, F24, F25, F26, F27⟩ | ⟨a28, k29, c30, c31, rfl, rfl, K32, g33, U34, F35, F36, F37, F38, F39⟩
 ·
  have na5 := Nat.le_trans H.le g9
  show Go _ _ _ _ (T1.setTop (mkF m 9 _ []))
  have K40 : Keep h0 h1_ [p0] := (Keep.trans (Keep.refl h0 [p0]) K8 (allS (Or.inl (mG (i := 0) rfl)) all0))
  exact G.retV H1 rfl D14_9 (so := [a5]) (allS (mG (i := 0) rfl) all0) (by decide) (by decide) (Or.inl ⟨a5, k6, c7, rfl, rfl, K40, g9, (fun O n d w F hn0 hn1 => (U10 O n d w F hn0 hn1)), F11, F12, F13, F14, F15⟩)
 ·
  have na16 := Nat.le_trans H.le g21
  show Go _ _ _ _ (T1.setTop (mkF m 9 _ []))
  have K41 : Keep h0 h1_ [p0] := (Keep.trans (Keep.refl h0 [p0]) K20 (allS (Or.inl (mG (i := 0) rfl)) all0))
  exact G.retV H1 rfl D14_9 (so := [a16]) (allS (mG (i := 0) rfl) all0) (by decide) (by decide) (Or.inr (Or.inl ⟨a16, k17, c18, c19, rfl, rfl, K41, g21, (fun O n d w F hn0 hn1 => (U22 O n d w F hn0 hn1)), F23, F24, F25, F26, F27⟩))
 ·
  have na28 := Nat.le_trans H.le g33
  show Go _ _ _ _ (T1.setTop (mkF m 9 _ []))
  have K42 : Keep h0 h1_ [p0] := (Keep.trans (Keep.refl h0 [p0]) K32 (allS (Or.inl (mG (i := 0) rfl)) all0))
  exact G.retV H1 rfl D14_9 (so := [a28]) (allS (mG (i := 0) rfl) all0) (by decide) (by decide) (Or.inr (Or.inr ⟨a28, k29, c30, c31, rfl, rfl, K42, g33, (fun O n d w F hn0 hn1 => (U34 O n d w F hn0 hn1)), F35, F36, F37, F38, F39⟩))
theorem m47 (V : Env1 Z a0 n0 uu0 uu1 uu2 uu3 uu4) (x0 : Int32) (x1 : Int32) (x2 : Int32) (h0 : Heap) (hO : Old Z n0 h0) (r0 : ¬ x1 < 0 ∧ ¬ 65535 < x1) (r1 : ¬ x2 < 0 ∧ ¬ 65535 < x2) (ns2 : x1 < 55296 ∨ ¬ x1 < 57344) (ns3 : x2 < 55296 ∨ ¬ x2 < 57344) :
  Met Z a0 ELs True n0 l ⟨"com/example/schema_to_form/schematoform/server/PathSegmentsPathPinLaw", "seg", "(ICC)Ljava/lang/String;"⟩ Y6 3 (some (.object "java/lang/String")) ⟨6, 6, 12, 88⟩ #[.int x0, .int x1, .int x2] h0 [] (fun v h so => (∃ a t : Addr, ∃ kb : ClassId, v = some (.ref a) ∧ so = [] ∧ Keep h0 h [] ∧ h0.size ≤ a ∧ StrU Z h a t kb (segOf x0 x1 x2))) := by
 refine Met.of (EWl V) (by first | decide +kernel | rfl) hO (L0 := #[.val (.int x0), .val (.int x1), .val (.int x2)]) rfl ?_
 intro p e s m below meth c T H
 refine G.iN H D63_0 (J := 1) rfl rfl ?_
 by_cases c1 : x0 = 0
 ·
  refine G.ifNo H D63_1 (J := 4) rfl (XT.i0_ne_f c1) ?_
  refine G.new H (wq V 9 rfl) (wd10 V) (wd11 V) D63_4 (J := 7) rfl (by decide) (by decide) ?_
  intro T2 h2_ a3 ga3 H2 E4 A5 D6
  have na3 := H.nle ga3
  refine G.dup H2 D63_7 (J := 8) rfl rfl ?_
  refine G.iC H2 D63_8 (J := 9) rfl (v := 0) rfl ?_
  refine G.newP H2 (aty := .char) (wq V 12 rfl) D63_9 (J := 11) rfl (by decide) (cap := 0) (by decide) (by decide) (by decide) (by decide) (vs := []) rfl (ad := "[C") rfl ?_
  intro T7 h7_ a8 k11 ga8 H7 E9 A10 X12
  have na8 := H2.nle ga8
  replace A10 : Arv Z h7_ a8 k11 .char 0 [] (.int 0) := A10
  have F13 := (Exa.ext E9 A5)
  have F14 : Fld Z h2_ a3 "java/lang/String" "coder" "B" (.int 0) := D6 (Or.inr (wd26 V)) (ty := .byte) (by decide)
  have F15 := (Fld.ext E9 F14)
  have F16 : Fld Z h2_ a3 "java/lang/String" "value" "[B" .null := D6 (Or.inr (wd25 V)) (ty := (.array .byte)) (by decide)
  have F17 := (Fld.ext E9 F16)
  refine G.callI H7 (m26 V a3 a8 k11 h7_ H7.old A10 F13 F17 na3 F15) rfl (wq V 13 rfl) (wq V 14 rfl) (wd11 V) (wq V 15 rfl) (by decide) (a := a3) (argsL := [.ref a8]) (rest := [.ref a3]) (W := 1) rfl rfl (lenOf (pd_15) rfl) rfl rfl D63_11 (J := 14) rfl (by decide) (by decide) (by decide) (by decide) (allS (mG (i := 1) rfl) all0) ?_
  rintro T18 h18_ _ _ H18 ⟨a22, k23, rfl, rfl, K24, U25, F26, F27, F28, F29⟩
  show Go _ _ _ _ (T18.setTop (mkF m 14 _ [.ref a3]))
  have S30 : Str Z h18_ a3 a22 k23 [] := ⟨F26, F28, F27, F29, cb0, Nat.le_of_ble_eq_true rfl⟩
  have K31 : Keep h0 h18_ [] := (Keep.trans (Keep.ext (Keep.ext (Keep.refl h0 []) E4) E9) K24 (allS (Or.inr (Nat.le_of_eq ga3.symm)) all0))
  exact G.retA H18 (t := (.object "java/lang/String")) rfl rfl rfl D63_14 (so := []) all0 (by decide) (by decide) ⟨a3, a22, k23, rfl, rfl, K31, (Nat.le_of_eq ga3.symm), own_segc (own_g0 c1) (StrU.of0 S30 own_al0 lB (fun q => absurd rfl q))⟩
 ·
  refine G.ifYes H D63_1 (XT.i0_ne_t c1) (by decide) (J := 15) rfl ?_
  refine G.iN H D63_15 (J := 16) rfl rfl ?_
  refine G.iC H D63_16 (J := 17) rfl (v := 1) rfl ?_
  by_cases c32 : x0 = 1
  ·
   refine G.cN H D63_17 (J := 20) rfl (XT.ii_ne_f c32) ?_
   refine G.iN H D63_20 (J := 21) rfl rfl ?_
   refine G.cS H (m33 V x1 h0 H.old r0) (wq V 116 rfl) (wq V 117 rfl) (wd11 V) (wq V 118 rfl) [.int x1] [] 0 24 (lenOf (pd_19) rfl) D63_21 all0 (by decide) ?_
   intro T33 h33_ v34 s35 H33 Q36
   rcases Q36 with ⟨a37, a38, k39, c40, rfl, rfl, K41, g42, g43, F44, F45, F46, F47, F48⟩ | ⟨a49, a50, k51, c52, rfl, rfl, K53, g54, g55, F56, F57, F58, F59⟩
   ·
    have na37 := Nat.le_trans H.le g42
    have na38 := Nat.le_trans H.le (Nat.le_of_lt (Nat.lt_of_le_of_lt g42 g43))
    show Go _ _ _ _ (T33.setTop (mkF m 24 _ [.ref a37]))
    have K60 : Keep h0 h33_ [] := (Keep.trans (Keep.refl h0 []) K41 all0)
    exact G.retA H33 (t := (.object "java/lang/String")) rfl rfl rfl D63_24 (so := []) all0 (by decide) (by decide) ⟨a37, a38, k39, rfl, rfl, K60, g42, own_segc (own_g1 c1 c32) (StrU.of1 F44 F45 F46 F47 rfl rfl (fun q => q _ (mG (i := 0) rfl) c40) (own_al1 ⟨r0, ns2⟩) lB)⟩
   ·
    have na49 := Nat.le_trans H.le g54
    have na50 := Nat.le_trans H.le (Nat.le_of_lt (Nat.lt_of_le_of_lt g54 g55))
    show Go _ _ _ _ (T33.setTop (mkF m 24 _ [.ref a49]))
    have K61 : Keep h0 h33_ [] := (Keep.trans (Keep.refl h0 []) K53 all0)
    exact G.retA H33 (t := (.object "java/lang/String")) rfl rfl rfl D63_24 (so := []) all0 (by decide) (by decide) ⟨a49, a50, k51, rfl, rfl, K61, g54, own_segc (own_g1 c1 c32) (StrU.of0 F56 (own_al1 ⟨r0, ns2⟩) lB (fun _ => F59))⟩
  ·
   refine G.cY H D63_17 (XT.ii_ne_t c32) (by decide) (J := 25) rfl ?_
   refine G.new H (wq V 9 rfl) (wd10 V) (wd11 V) D63_25 (J := 28) rfl (by decide) (by decide) ?_
   intro T62 h62_ a63 ga63 H62 E64 A65 D66
   have na63 := H.nle ga63
   refine G.dup H62 D63_28 (J := 29) rfl rfl ?_
   refine G.iC H62 D63_29 (J := 30) rfl (v := 2) rfl ?_
   refine G.newP H62 (aty := .char) (wq V 12 rfl) D63_30 (J := 32) rfl (by decide) (cap := 2) (by decide) (by decide) (by decide) (by decide) (vs := [.int 0, .int 0]) rfl (ad := "[C") rfl ?_
   intro T67 h67_ a68 k71 ga68 H67 E69 A70 X72
   have na68 := H62.nle ga68
   replace A70 : Arv Z h67_ a68 k71 .char 2 [.int 0, .int 0] (.int 0) := A70
   refine G.dup H67 D63_32 (J := 33) rfl rfl ?_
   refine G.iC H67 D63_33 (J := 34) rfl (v := 0) rfl ?_
   refine G.iN H67 D63_34 (J := 35) rfl rfl ?_
   refine G.stC H67 A70 (by decide) (i := 0) rfl lB na68 (y := x1) (own_narC r0) D63_35 (J := 36) rfl ?_
   intro T73 h73_ H73 W74 A75
   replace A75 : Arv Z h73_ a68 k71 .char 2 [.int x1, .int 0] (.int 0) := A75
   refine G.dup H73 D63_36 (J := 37) rfl rfl ?_
   refine G.iC H73 D63_37 (J := 38) rfl (v := 1) rfl ?_
   refine G.iN H73 D63_38 (J := 39) rfl rfl ?_
   refine G.stC H73 A75 (by decide) (i := 1) rfl lB na68 (y := x2) (own_narC r1) D63_39 (J := 40) rfl ?_
   intro T76 h76_ H76 W77 A78
   replace A78 : Arv Z h76_ a68 k71 .char 2 [.int x1, .int x2] (.int 0) := A78
   have K79 : Keep h62_ h76_ [] := (Keep.wr (Keep.wr (Keep.ext (Keep.refl h62_ []) E69) W74 (Or.inr (Nat.le_of_eq ga68.symm))) W77 (Or.inr (Nat.le_of_eq ga68.symm)))
   have F80 := (Exa.keep A65 K79)
   have F81 : Fld Z h62_ a63 "java/lang/String" "coder" "B" (.int 0) := D66 (Or.inr (wd26 V)) (ty := .byte) (by decide)
   have F82 := (Fld.keep F81 K79 nin0)
   have F83 : Fld Z h62_ a63 "java/lang/String" "value" "[B" .null := D66 (Or.inr (wd25 V)) (ty := (.array .byte)) (by decide)
   have F84 := (Fld.keep F83 K79 nin0)
   refine G.callI H76 (m46 V a63 a68 k71 x1 x2 h76_ H76.old A78 r0 r1 F80 F82 na63 F84) rfl (wq V 13 rfl) (wq V 14 rfl) (wd11 V) (wq V 15 rfl) (by decide) (a := a63) (argsL := [.ref a68]) (rest := [.ref a63]) (W := 1) rfl rfl (lenOf (pd_15) rfl) rfl rfl D63_40 (J := 43) rfl (by decide) (by decide) (by decide) (by decide) (allS (mG (i := 1) rfl) all0) ?_
   intro T85 h85_ v86 s87 H85 Q88
   rcases Q88 with ⟨a89, k90, c91, rfl, rfl, K92, g93, U94, F95, F96, F97, F98, F99⟩ | ⟨a100, k101, c102, c103, rfl, rfl, K104, g105, U106, F107, F108, F109, F110, F111⟩ | ⟨a112, k113, c114, c115, rfl, rfl, K116, g117, U118, F119, F120, F121, F122, F123⟩
   ·
    have na89 := Nat.le_trans H76.le g93
    show Go _ _ _ _ (T85.setTop (mkF m 43 _ [.ref a63]))
    have K124 : Keep h0 h62_ [] := (Keep.ext (Keep.refl h0 []) E64)
    have K125 : Keep h0 h85_ [] := (Keep.trans (Keep.wr (Keep.wr (Keep.ext (Keep.ext (Keep.refl h0 []) E64) E69) W74 (Or.inr (Nat.le_trans K124.1 (Nat.le_of_eq ga68.symm)))) W77 (Or.inr (Nat.le_trans K124.1 (Nat.le_of_eq ga68.symm)))) K92 (allS (Or.inr (Nat.le_of_eq ga63.symm)) all0))
    exact G.retA H85 (t := (.object "java/lang/String")) rfl rfl rfl D63_43 (so := []) all0 (by decide) (by decide) ⟨a63, a89, k90, rfl, rfl, K125, (Nat.le_of_eq ga63.symm), own_segc (own_g2 c1 c32) (StrU.of1 F95 F96 F97 F98 rfl rfl (fun q => q _ (mG (i := 0) rfl) c91) (own_al2 ⟨r0, ns2⟩ ⟨r1, ns3⟩) lB)⟩
   ·
    have na100 := Nat.le_trans H76.le g105
    show Go _ _ _ _ (T85.setTop (mkF m 43 _ [.ref a63]))
    have K126 : Keep h0 h62_ [] := (Keep.ext (Keep.refl h0 []) E64)
    have K127 : Keep h0 h85_ [] := (Keep.trans (Keep.wr (Keep.wr (Keep.ext (Keep.ext (Keep.refl h0 []) E64) E69) W74 (Or.inr (Nat.le_trans K126.1 (Nat.le_of_eq ga68.symm)))) W77 (Or.inr (Nat.le_trans K126.1 (Nat.le_of_eq ga68.symm)))) K104 (allS (Or.inr (Nat.le_of_eq ga63.symm)) all0))
    exact G.retA H85 (t := (.object "java/lang/String")) rfl rfl rfl D63_43 (so := []) all0 (by decide) (by decide) ⟨a63, a100, k101, rfl, rfl, K127, (Nat.le_of_eq ga63.symm), own_segc (own_g2 c1 c32) (StrU.of1 F107 F108 F109 F110 rfl rfl (fun q => q _ (mG (i := 1) rfl) c103) (own_al2 ⟨r0, ns2⟩ ⟨r1, ns3⟩) lB)⟩
   ·
    have na112 := Nat.le_trans H76.le g117
    show Go _ _ _ _ (T85.setTop (mkF m 43 _ [.ref a63]))
    have S128 : Str Z h85_ a63 a112 k113 [x1, x2] := ⟨F119, F120, F121, F122, (cbS ⟨r0.1, c114⟩ (cbS ⟨r1.1, c115⟩ cb0)), Nat.le_of_ble_eq_true rfl⟩
    have K129 : Keep h0 h62_ [] := (Keep.ext (Keep.refl h0 []) E64)
    have K130 : Keep h0 h85_ [] := (Keep.trans (Keep.wr (Keep.wr (Keep.ext (Keep.ext (Keep.refl h0 []) E64) E69) W74 (Or.inr (Nat.le_trans K129.1 (Nat.le_of_eq ga68.symm)))) W77 (Or.inr (Nat.le_trans K129.1 (Nat.le_of_eq ga68.symm)))) K116 (allS (Or.inr (Nat.le_of_eq ga63.symm)) all0))
    exact G.retA H85 (t := (.object "java/lang/String")) rfl rfl rfl D63_43 (so := []) all0 (by decide) (by decide) ⟨a63, a112, k113, rfl, rfl, K130, (Nat.le_of_eq ga63.symm), own_segc (own_g2 c1 c32) (StrU.of0 S128 (own_al2 ⟨r0, ns2⟩ ⟨r1, ns3⟩) lB (fun _ => F123))⟩
theorem m48 (V : Env1 Z a0 n0 uu0 uu1 uu2 uu3 uu4) (p0 : Addr) (h0 : Heap) (hO : Old Z n0 h0) (f0 : Exa Z h0 p0 "java/lang/StringBuilder") (f1 : Fld Z h0 p0 "java/lang/AbstractStringBuilder" "value" "[B" .null) (g2 : n0 ≤ p0) (f3 : Fld Z h0 p0 "java/lang/AbstractStringBuilder" "coder" "B" (.int 0)) :
  Met Z a0 ELs True n0 l ⟨"java/lang/AbstractStringBuilder", "<init>", "(I)V"⟩ Y36 2 none ⟨1, 1, 16, 12⟩ #[.ref p0, .int 16] h0 [] (fun v h so => (∃ a6 : Addr, ∃ k9 : ClassId, v = none ∧ so = [a6] ∧ Keep h0 h [p0] ∧ h0.size ≤ a6 ∧ (∀ (O n d : String) (w : Value), Fld Z h0 p0 O n d w → RoadKit.slotOf Z O n d ≠ RoadKit.slotOf Z "java/lang/AbstractStringBuilder" "value" "[B" → RoadKit.slotOf Z O n d ≠ RoadKit.slotOf Z "java/lang/AbstractStringBuilder" "coder" "B" → Fld Z h p0 O n d w) ∧ Exa Z h p0 "java/lang/StringBuilder" ∧ Fld Z h p0 "java/lang/AbstractStringBuilder" "value" "[B" (.ref a6) ∧ Fld Z h p0 "java/lang/AbstractStringBuilder" "coder" "B" (.int 0) ∧ Arv Z h a6 k9 .byte 16 (([] : List Int32).map b8) (.int 0) ∧ Exa Z h a6 "[B")) := by
 refine Met.of (EWl V) (by first | decide +kernel | rfl) hO (L0 := #[.val (.ref p0), .val (.int 16)]) rfl ?_
 intro p e s m below meth c T H
 refine G.aN H D52_0 (J := 1) rfl rfl rfl ?_
 refine G.initO H (wq V 48 rfl) (wq V 21 rfl) (wq V 22 rfl) rfl D52_1 (J := 4) rfl (by decide) (W := 0) rfl (by decide) ?_
 intro T1 H2
 refine G.getS H2 (wq V 49 rfl) Via.refl (Sta.ext H2.old.2 (hv8 V)) D52_4 (J := 7) rfl ?_
 intro T3 H4
 refine G.ifNo H4 D52_7 (J := 10) rfl (XT.i0_eq_f (hv9 V)) ?_
 refine G.aN H4 D52_10 (J := 11) rfl rfl rfl ?_
 refine G.iN H4 D52_11 (J := 12) rfl rfl ?_
 refine G.newPn H4 (aty := .byte) (wd24 V) D52_12 (J := 14) rfl (by decide) (cap := 16) (by decide) (by decide) (by decide) (by decide) (ad := "[B") rfl ?_
 intro T5 h5_ a6 k9 ga6 H5 E7 A8 X10
 have na6 := H4.nle ga6
 replace A8 : Arv Z h5_ a6 k9 .byte 16 (([] : List Int32).map b8) (.int 0) := A8
 have F11 := (Exa.ext E7 f0)
 have F12 := (Fld.ext E7 f1)
 refine G.putF H5 (wd50 V) Via.refl F12 F11 (Or.inl (wd51 V)) (wd37 V) (ty := (.array .byte)) (by decide) rfl rfl g2 (Sf.exa F11) D52_14 (J := 17) rfl ?_
 intro T13 h13_ H13 W14
 have F15 : Fld Z h13_ p0 "java/lang/AbstractStringBuilder" "value" "[B" (.ref a6) := Fld.same W14 F12
 refine G.aN H13 D52_17 (J := 18) rfl rfl rfl ?_
 refine G.iC H13 D52_18 (J := 19) rfl (v := 0) rfl ?_
 have F16 := (Exa.wr W14 F11)
 have F17 := (Fld.other W14 (Fld.ext E7 f3) (Or.inr (slot_ne (Or.inl (wd53 V)) (Or.inl (wd51 V)) (by decide) (t := .byte) (t' := (.array .byte)) (by decide) (by decide))))
 refine G.putF H13 (wd52 V) Via.refl F17 F16 (Or.inl (wd53 V)) (wd37 V) (ty := .byte) (by decide) rfl rfl g2 (Sf.exa F16) D52_19 (J := 22) rfl ?_
 intro T18 h18_ H18 W19
 have F20 : Fld Z h18_ p0 "java/lang/AbstractStringBuilder" "coder" "B" (.int 0) := Fld.same W19 F17
 refine G.go H18 D52_22 (by decide) (J := 38) rfl ?_
 have F21 := (Exa.wr W19 F16)
 have F22 := (Fld.other W19 F15 (Or.inr (slot_ne (Or.inl (wd51 V)) (Or.inl (wd53 V)) (by decide) (t := (.array .byte)) (t' := .byte) (by decide) (by decide))))
 have K23 : Keep h5_ h18_ [p0] := (Keep.wr (Keep.wr (Keep.refl h5_ [p0]) W14 (Or.inl (mG (i := 0) rfl))) W19 (Or.inl (mG (i := 0) rfl)))
 have N24 : a6 ≠ p0 := Ne.symm (Exa.neArv (Exa.ext E7 f0) A8 (wd37 V))
 have F25 := (Arv.keep A8 K23 (ninS N24 nin0))
 have F26 := (Exa.keep X10 K23)
 have K27 : Keep h0 h18_ [p0] := (Keep.wr (Keep.wr (Keep.ext (Keep.refl h0 [p0]) E7) W14 (Or.inl (mG (i := 0) rfl))) W19 (Or.inl (mG (i := 0) rfl)))
 exact G.retV H18 rfl D52_38 (so := [a6]) (allS (mG (i := 0) rfl) all0) (by decide) (by decide) ⟨a6, k9, rfl, rfl, K27, (Nat.le_of_eq ga6.symm), (fun O n d w F hn0 hn1 => (Fld.other W19 (Fld.other W14 (Fld.ext E7 F) (Or.inr hn0)) (Or.inr hn1))), F21, F22, F20, F25, F26⟩
theorem m49 (V : Env1 Z a0 n0 uu0 uu1 uu2 uu3 uu4) (p0 : Addr) (h0 : Heap) (hO : Old Z n0 h0) (f0 : Exa Z h0 p0 "java/lang/StringBuilder") (f1 : Fld Z h0 p0 "java/lang/AbstractStringBuilder" "value" "[B" .null) (g2 : n0 ≤ p0) (f3 : Fld Z h0 p0 "java/lang/AbstractStringBuilder" "coder" "B" (.int 0)) :
  Met Z a0 ELs True n0 l ⟨"java/lang/StringBuilder", "<init>", "()V"⟩ Y68 1 none ⟨2, 1, 16, 25⟩ #[.ref p0] h0 [] (fun v h so => (∃ a5 : Addr, ∃ k6 : ClassId, v = none ∧ so = [a5] ∧ Keep h0 h [p0] ∧ h0.size ≤ a5 ∧ (∀ (O n d : String) (w : Value), Fld Z h0 p0 O n d w → RoadKit.slotOf Z O n d ≠ RoadKit.slotOf Z "java/lang/AbstractStringBuilder" "value" "[B" → RoadKit.slotOf Z O n d ≠ RoadKit.slotOf Z "java/lang/AbstractStringBuilder" "coder" "B" → Fld Z h p0 O n d w) ∧ Exa Z h p0 "java/lang/StringBuilder" ∧ Fld Z h p0 "java/lang/AbstractStringBuilder" "value" "[B" (.ref a5) ∧ Fld Z h p0 "java/lang/AbstractStringBuilder" "coder" "B" (.int 0) ∧ Arv Z h a5 k6 .byte 16 (([] : List Int32).map b8) (.int 0) ∧ Exa Z h a5 "[B")) := by
 refine Met.of (EWl V) (by first | decide +kernel | rfl) hO (L0 := #[.val (.ref p0)]) rfl ?_
 intro p e s m below meth c T H
 refine G.aN H D46_0 (J := 1) rfl rfl rfl ?_
 refine G.bP H D46_1 (J := 3) rfl (v := 16) rfl ?_
 refine G.callI H (m48 V p0 h0 H.old f0 f1 g2 f3) rfl (wq V 42 rfl) (wq V 43 rfl) (wd46 V) (wq V 47 rfl) (by decide) (a := p0) (argsL := [.int 16]) (rest := []) (W := 0) rfl rfl (lenOf (pd_0) rfl) rfl rfl D46_3 (J := 6) rfl (by decide) (by decide) (by decide) (by decide) all0 ?_
 rintro T1 h1_ _ _ H1 ⟨a5, k6, rfl, rfl, K7, g8, U9, F10, F11, F12, F13, F14⟩
 have na5 := Nat.le_trans H.le g8
 show Go _ _ _ _ (T1.setTop (mkF m 6 _ []))
 have K15 : Keep h0 h1_ [p0] := (Keep.trans (Keep.refl h0 [p0]) K7 (allS (Or.inl (mG (i := 0) rfl)) all0))
 exact G.retV H1 rfl D46_6 (so := [a5]) (allS (mG (i := 0) rfl) all0) (by decide) (by decide) ⟨a5, k6, rfl, rfl, K15, g8, (fun O n d w F hn0 hn1 => (U9 O n d w F hn0 hn1)), F10, F11, F12, F13, F14⟩
theorem m50 (V : Env1 Z a0 n0 uu0 uu1 uu2 uu3 uu4) (p0 : Addr) (p1 : Addr) (h0 : Heap) (hO : Old Z n0 h0) (f0 : Fld Z h0 p0 "java/lang/AbstractStringBuilder" "value" "[B" (.ref p1)) :
  Met Z a0 ELs True n0 l ⟨"java/lang/AbstractStringBuilder", "getValue", "()[B"⟩ Y71 1 (some (.array .byte)) ⟨0, 0, 0, 0⟩ #[.ref p0] h0 [] (fun v h so => (v = some (.ref p1) ∧ so = [] ∧ h0 = h)) := by
 refine Met.of (EWl V) (by first | decide +kernel | rfl) hO (L0 := #[.val (.ref p0)]) rfl ?_
 intro p e s m below meth c T H
 refine G.aN H D54_0 (J := 1) rfl rfl rfl ?_
 refine G.getF H (wd50 V) Via.refl f0 D54_1 (J := 4) rfl ?_
 intro T1 H2
 exact G.retA H2 (t := (.array .byte)) rfl rfl rfl D54_4 (so := []) all0 (by decide) (by decide) ⟨rfl, rfl, rfl⟩
theorem m51 (V : Env1 Z a0 n0 uu0 uu1 uu2 uu3 uu4) (p0 : Addr) (j0 : Nat) (h0 : Heap) (hO : Old Z n0 h0) (ln0 : j0 ≤ 4000) (f0 : Fld Z h0 p0 "java/lang/AbstractStringBuilder" "count" "I" (.int (Int32.ofNat j0))) :
  Met Z a0 ELs True n0 l ⟨"java/lang/AbstractStringBuilder", "length", "()I"⟩ Y70 1 (some .int) ⟨0, 0, 0, 0⟩ #[.ref p0] h0 [] (fun v h so => (v = some (.int (Int32.ofNat j0)) ∧ so = [] ∧ h0 = h)) := by
 refine Met.of (EWl V) (by first | decide +kernel | rfl) hO (L0 := #[.val (.ref p0)]) rfl ?_
 intro p e s m below meth c T H
 refine G.aN H D56_0 (J := 1) rfl rfl rfl ?_
 refine G.getF H (wd80 V) Via.refl f0 D56_1 (J := 4) rfl ?_
 intro T1 H2
 exact G.retI H2 rfl D56_4 (so := []) all0 (by decide) (by decide) ⟨rfl, rfl, rfl⟩
theorem m52 (V : Env1 Z a0 n0 uu0 uu1 uu2 uu3 uu4) (p0 : Addr) (j0 : Nat) (h0 : Heap) (hO : Old Z n0 h0) (ln0 : j0 ≤ 4000) (f0 : Fld Z h0 p0 "java/lang/AbstractStringBuilder" "count" "I" (.int (Int32.ofNat j0))) (f2 : Exa Z h0 p0 "java/lang/StringBuilder") :
  Met Z a0 ELs True n0 l ⟨"java/lang/StringBuilder", "length", "()I"⟩ Y72 1 (some .int) ⟨1, 0, 0, 12⟩ #[.ref p0] h0 [] (fun v h so => (v = some (.int (Int32.ofNat j0)) ∧ so = [] ∧ h0 = h)) := by
 refine Met.of (EWl V) (by first | decide +kernel | rfl) hO (L0 := #[.val (.ref p0)]) rfl ?_
 intro p e s m below meth c T H
 refine G.aN H D49_0 (J := 1) rfl rfl rfl ?_
 refine G.callSup H (m51 V p0 j0 h0 H.old (by omega) f0) (wq V 77 rfl) (same_of (wq V 72 rfl) (wq V 69 rfl) rfl (by decide)) (wq V 73 rfl) (wq V 78 rfl) (by decide) (wd46 V) (wq V 79 rfl) (a := p0) (Ins.self f2) (argsL := []) (rest := []) (W := 0) rfl rfl (lenOf (pd_11) rfl) rfl rfl D49_1 (J := 4) rfl (by decide) (by decide) (by decide) (by decide) all0 ?_
 rintro T1 h1_ _ _ H1 ⟨rfl, rfl, rfl⟩
 show Go _ _ _ _ (T1.setTop (mkF m 4 _ [(.int (Int32.ofNat j0))]))
 exact G.retI H1 rfl D49_4 (so := []) all0 (by decide) (by decide) ⟨rfl, rfl, rfl⟩
theorem m53 (V : Env1 Z a0 n0 uu0 uu1 uu2 uu3 uu4) (j0 : Nat) (h0 : Heap) (hO : Old Z n0 h0) (ln0 : j0 ≤ 4000) :
  Met Z a0 ELs True n0 l ⟨"java/util/Arrays", "checkLength", "(II)V"⟩ Y69 2 none ⟨0, 0, 0, 0⟩ #[.int 0, (.int (Int32.ofNat j0))] h0 [] (fun v h so => (v = none ∧ so = [] ∧ h0 = h)) := by
 refine Met.of (EWl V) (by first | decide +kernel | rfl) hO (L0 := #[.val (.int 0), .val (.int (Int32.ofNat j0))]) rfl ?_
 intro p e s m below meth c T H
 refine G.iN H D42_0 (J := 1) rfl rfl ?_
 refine G.iN H D42_1 (J := 2) rfl rfl ?_
 refine G.cY H D42_2 (XT.ii_ge_t (own_ltF (a := j0) (b := 0) (by omega) (by omega) (by omega))) (by decide) (J := 37) rfl ?_
 exact G.retV H rfl D42_37 (so := []) all0 (by decide) (by decide) ⟨rfl, rfl, rfl⟩
theorem m54 (V : Env1 Z a0 n0 uu0 uu1 uu2 uu3 uu4) (j0 : Nat) (j1 : Nat) (h0 : Heap) (hO : Old Z n0 h0) (ln0 : j0 ≤ 4000) (cp1 : j0 = 16 ∨ j0 = 34 ∨ j0 = 70) (ln2 : j1 ≤ 4000) :
  Met Z a0 ELs True n0 l ⟨"java/lang/Math", "min", "(II)I"⟩ Y43 2 (some .int) ⟨0, 0, 0, 0⟩ #[(.int (Int32.ofNat j0)), (.int (Int32.ofNat j1))] h0 [] (fun v h so => ((j1 : Nat) < j0 ∧ v = some (.int (Int32.ofNat j1)) ∧ so = [] ∧ h0 = h) ∨ (¬ (j1 : Nat) < j0 ∧ v = some (.int (Int32.ofNat j0)) ∧ so = [] ∧ h0 = h)) := by
 refine Met.of (EWl V) (by first | decide +kernel | rfl) hO (L0 := #[.val (.int (Int32.ofNat j0)), .val (.int (Int32.ofNat j1))]) rfl ?_
 intro p e s m below meth c T H
 refine G.iN H D3_0 (J := 1) rfl rfl ?_
 refine G.iN H D3_1 (J := 2) rfl rfl ?_
 by_cases c1 : (j1 : Nat) < j0
 ·
  refine G.cY H D3_2 (XT.ii_gt_t (own_ltT (a := j1) (b := j0) (by omega) (by omega) (by omega))) (by decide) (J := 9) rfl ?_
  refine G.iN H D3_9 (J := 10) rfl rfl ?_
  exact G.retI H rfl D3_10 (so := []) all0 (by decide) (by decide) (Or.inl ⟨c1, rfl, rfl, rfl⟩)
 ·
  refine G.cN H D3_2 (J := 5) rfl (XT.ii_gt_f (own_ltF (a := j1) (b := j0) (by omega) (by omega) (by omega))) ?_
  refine G.iN H D3_5 (J := 6) rfl rfl ?_
  refine G.go H D3_6 (by decide) (J := 10) rfl ?_
  exact G.retI H rfl D3_10 (so := []) all0 (by decide) (by decide) (Or.inr ⟨c1, rfl, rfl, rfl⟩)
theorem m55 (V : Env1 Z a0 n0 uu0 uu1 uu2 uu3 uu4) (p0 : Addr) (j0 : Nat) (d0 : ClassId) (j1 : Nat) (cs0 : List Int32) (h0 : Heap) (hO : Old Z n0 h0) (ln0 : j0 ≤ 4000) (ln1 : j0 ≤ 64) (ln2 : j1 ≤ 4000) (cp3 : j1 = 16 ∨ j1 = 34 ∨ j1 = 70) (ln4 : cs0.length ≤ 4000) (f2 : Arv Z h0 p0 d0 .byte (Int32.ofNat j1) (cs0.map b8) (.int 0)) (ln6 : cs0.length ≤ j0) (ln7 : cs0.length ≤ j1) :
  Met Z a0 ELs True n0 l ⟨"java/util/Arrays", "copyOfRangeByte", "([BII)[B"⟩ Y23 5 (some (.array .byte)) ⟨1, 1, 64, 40⟩ #[.ref p0, .int 0, (.int (Int32.ofNat j0))] h0 [] (fun v h so => (∃ a6 : Addr, ∃ k9 : ClassId, (j0 : Nat) < j1 ∧ v = some (.ref a6) ∧ so = [a6] ∧ Keep h0 h [] ∧ h0.size ≤ a6 ∧ Arv Z h a6 k9 .byte (Int32.ofNat j0) ((([] : List Int32) ++ cs0).map b8) (.int 0) ∧ Exa Z h a6 "[B") ∨ (∃ a6 : Addr, ∃ k9 : ClassId, ¬ (j0 : Nat) < j1 ∧ v = some (.ref a6) ∧ so = [a6] ∧ Keep h0 h [] ∧ h0.size ≤ a6 ∧ Arv Z h a6 k9 .byte (Int32.ofNat j0) ((([] : List Int32) ++ cs0).map b8) (.int 0) ∧ Exa Z h a6 "[B")) := by
 refine Met.of (EWl V) (by first | decide +kernel | rfl) hO (L0 := #[.val (.ref p0), .val (.int 0), .val (.int (Int32.ofNat j0)), .unset, .unset]) rfl ?_
 intro p e s m below meth c T H
 refine G.iN H D44_0 (J := 1) rfl rfl ?_
 refine G.iN H D44_1 (J := 2) rfl rfl ?_
 refine G.cS H (m53 V j0 h0 H.old (by omega)) (wq V 94 rfl) (wq V 95 rfl) (wd89 V) (wq V 96 rfl) [.int 0, (.int (Int32.ofNat j0))] [] 0 5 (lenOf (pd_28) rfl) D44_2 all0 (by decide) ?_
 rintro T1 h1_ _ _ H1 ⟨rfl, rfl, rfl⟩
 show Go _ _ _ _ (T1.setTop (mkF m 5 _ []))
 refine G.iN H1 D44_5 (J := 6) rfl rfl ?_
 refine G.iN H1 D44_6 (J := 7) rfl rfl ?_
 refine G.isub H1 D44_7 (J := 8) rfl ?_
 rw [show ((Int32.ofNat j0) - 0 : Int32) = (Int32.ofNat j0) from own_subN (a := j0) (b := 0) (by omega)]
 refine G.sN H1 (L' := #[.val (.ref p0), .val (.int 0), .val (.int (Int32.ofNat j0)), .val (.int (Int32.ofNat j0)), .unset]) D44_8 (J := 9) rfl rfl ?_
 refine G.iN H1 D44_9 (J := 10) rfl rfl ?_
 refine G.newPn H1 (aty := .byte) (wd24 V) D44_10 (J := 12) rfl (own_nn (a := j0) (by omega)) (cap := 64) (own_clc (a := j0) (by omega) (by omega)) (by decide) (by decide) (by decide) (ad := "[B") rfl ?_
 intro T5 h5_ a6 k9 ga6 H5 E7 A8 X10
 have na6 := H1.nle ga6
 replace A8 : Arv Z h5_ a6 k9 .byte (Int32.ofNat j0) (([] : List Int32).map b8) (.int 0) := A8
 refine G.astore H5 (L' := #[.val (.ref p0), .val (.int 0), .val (.int (Int32.ofNat j0)), .val (.int (Int32.ofNat j0)), .val (.ref a6)]) D44_12 (J := 14) rfl rfl rfl ?_
 refine G.aN H5 D44_14 (J := 15) rfl rfl rfl ?_
 refine G.iN H5 D44_15 (J := 16) rfl rfl ?_
 refine G.aL H5 D44_16 (J := 18) rfl rfl rfl ?_
 refine G.iC H5 D44_18 (J := 19) rfl (v := 0) rfl ?_
 refine G.aN H5 D44_19 (J := 20) rfl rfl rfl ?_
 have F11 := (Arv.ext f2 E7)
 refine G.aR H5 F11 D44_20 (J := 21) rfl ?_
 refine G.iN H5 D44_21 (J := 22) rfl rfl ?_
 refine G.isub H5 D44_22 (J := 23) rfl ?_
 rw [show ((Int32.ofNat j1) - 0 : Int32) = (Int32.ofNat j1) from own_subN (a := j1) (b := 0) (by omega)]
 refine G.iN H5 D44_23 (J := 24) rfl rfl ?_
 refine G.cS H5 (m54 V j1 j0 h5_ H5.old (by omega) cp3 (by omega)) (wq V 97 rfl) (wq V 98 rfl) (wq V 99 rfl) (wq V 100 rfl) [(.int (Int32.ofNat j1)), (.int (Int32.ofNat j0))] [.int 0, .ref a6, .int 0, .ref p0] 4 27 (lenOf (pd_4) rfl) D44_24 all0 (by decide) ?_
 intro T12 h12_ v13 s14 H12 Q15
 rcases Q15 with ⟨c16, rfl, rfl, rfl⟩ | ⟨c17, rfl, rfl, rfl⟩
 ·
  show Go _ _ _ _ (T12.setTop (mkF m 27 _ [(.int (Int32.ofNat j0)), .int 0, .ref a6, .int 0, .ref p0]))
  refine G.copyN H12 (wq V 101 rfl) (wq V 104 rfl) (wq V 102 rfl) (wq V 103 rfl) F11 A8 (nN := j0) (dN := 0) rfl rfl (by omega) (by omega) (own_clg (a := j1) (by omega) (by omega)) (own_clg (a := j0) (by omega) (by omega)) (by omega) (by simp only [qa, qc, qn] <;> omega) na6 (Sf.mem (mG (i := 0) rfl)) (st := []) (W := 0) rfl rfl D44_27 (J := 30) rfl (by decide) (by decide) ?_
  intro T18 h18_ H18 K19 A20
  refine G.aL H18 D44_30 (J := 32) rfl rfl rfl ?_
  have F21 := (Exa.keep X10 K19)
  have K22 : Keep h0 h18_ [] := (Keep.trans (Keep.ext (Keep.refl h0 []) E7) K19 (allS (Or.inr (Nat.le_of_eq ga6.symm)) all0))
  exact G.retA H18 (t := (.array .byte)) rfl rfl rfl D44_32 (so := [a6]) (allS (mG (i := 0) rfl) all0) (by decide) (by decide) (Or.inl ⟨a6, k9, c16, rfl, rfl, K22, (Nat.le_of_eq ga6.symm), A20, F21⟩)
 ·
  show Go _ _ _ _ (T12.setTop (mkF m 27 _ [(.int (Int32.ofNat j1)), .int 0, .ref a6, .int 0, .ref p0]))
  refine G.copyN H12 (wq V 101 rfl) (wq V 104 rfl) (wq V 102 rfl) (wq V 103 rfl) F11 A8 (nN := j1) (dN := 0) rfl rfl (by omega) (by omega) (own_clg (a := j1) (by omega) (by omega)) (own_clg (a := j0) (by omega) (by omega)) (by omega) (by simp only [qa, qc, qn] <;> omega) na6 (Sf.mem (mG (i := 0) rfl)) (st := []) (W := 0) rfl rfl D44_27 (J := 30) rfl (by decide) (by decide) ?_
  intro T23 h23_ H23 K24 A25
  refine G.aL H23 D44_30 (J := 32) rfl rfl rfl ?_
  have F26 := (Exa.keep X10 K24)
  have K27 : Keep h0 h23_ [] := (Keep.trans (Keep.ext (Keep.refl h0 []) E7) K24 (allS (Or.inr (Nat.le_of_eq ga6.symm)) all0))
  exact G.retA H23 (t := (.array .byte)) rfl rfl rfl D44_32 (so := [a6]) (allS (mG (i := 0) rfl) all0) (by decide) (by decide) (Or.inr ⟨a6, k9, c17, rfl, rfl, K27, (Nat.le_of_eq ga6.symm), A25, F26⟩)
theorem m56 (V : Env1 Z a0 n0 uu0 uu1 uu2 uu3 uu4) (p0 : Addr) (j0 : Nat) (d0 : ClassId) (j1 : Nat) (cs0 : List Int32) (h0 : Heap) (hO : Old Z n0 h0) (ln0 : j0 ≤ 4000) (ln1 : j1 ≤ 4000) (cp2 : j1 = 16 ∨ j1 = 34 ∨ j1 = 70) (ln3 : cs0.length ≤ 4000) (f1 : Arv Z h0 p0 d0 .byte (Int32.ofNat j1) (cs0.map b8) (.int 0)) (f5 : Exa Z h0 p0 "[B") (ln6 : j0 ≤ 64) (ln7 : cs0.length ≤ j0) (ln8 : cs0.length ≤ j1) :
  Met Z a0 ELs True n0 l ⟨"java/util/Arrays", "copyOfRange", "([BII)[B"⟩ Y32 3 (some (.array .byte)) ⟨2, 1, 70, 56⟩ #[.ref p0, .int 0, (.int (Int32.ofNat j0))] h0 [] (fun v h so => (∃ a3 : Addr, (j0 : Nat) = j1 ∧ v = some (.ref a3) ∧ so = [a3] ∧ Keep h0 h [] ∧ h0.size ≤ a3 ∧ Arv Z h a3 d0 .byte (Int32.ofNat j1) (cs0.map b8) (.int 0) ∧ Exa Z h a3 "[B") ∨ (∃ a14 : Addr, ∃ k15 : ClassId, ¬ (j0 : Nat) = j1 ∧ (j0 : Nat) < j1 ∧ v = some (.ref a14) ∧ so = [a14] ∧ Keep h0 h [] ∧ h0.size ≤ a14 ∧ Arv Z h a14 k15 .byte (Int32.ofNat j0) ((([] : List Int32) ++ cs0).map b8) (.int 0) ∧ Exa Z h a14 "[B") ∨ (∃ a21 : Addr, ∃ k22 : ClassId, ¬ (j0 : Nat) = j1 ∧ ¬ (j0 : Nat) < j1 ∧ v = some (.ref a21) ∧ so = [a21] ∧ Keep h0 h [] ∧ h0.size ≤ a21 ∧ Arv Z h a21 k22 .byte (Int32.ofNat j0) ((([] : List Int32) ++ cs0).map b8) (.int 0) ∧ Exa Z h a21 "[B")) := by
 refine Met.of (EWl V) (by first | decide +kernel | rfl) hO (L0 := #[.val (.ref p0), .val (.int 0), .val (.int (Int32.ofNat j0))]) rfl ?_
 intro p e s m below meth c T H
 refine G.iN H D43_0 (J := 1) rfl rfl ?_
 refine G.ifNo H D43_1 (J := 4) rfl (by decide) ?_
 refine G.iN H D43_4 (J := 5) rfl rfl ?_
 refine G.aN H D43_5 (J := 6) rfl rfl rfl ?_
 refine G.aR H f1 D43_6 (J := 7) rfl ?_
 by_cases c1 : (j0 : Nat) = j1
 ·
  refine G.cY H D43_7 (XT.ii_eq_t (own_eqT (a := j0) (b := j1) (by omega))) (by decide) (J := 17) rfl ?_
  refine G.aN H D43_17 (J := 18) rfl rfl rfl ?_
  refine G.clone H (wq V 347 rfl) (wq V 332 rfl) (wq V 336 rfl) (wq V 334 rfl) (wq V 335 rfl) (wq V 337 rfl) f1 f5 (st := []) (W := 0) (cap := 70) rfl rfl D43_18 (J := 21) rfl (by decide) (by decide) (own_clc (a := j1) (by omega) (by omega)) (by decide) (by decide) ?_
  intro T2 h2_ a3 ga3 H2 E4 A5 X6
  have na3 := H.nle ga3
  refine G.castY H2 (wq V 348 rfl) (Ins.self X6) D43_21 (J := 24) rfl ?_
  intro T7 H8
  have K9 : Keep h0 h2_ [] := (Keep.ext (Keep.refl h0 []) E4)
  exact G.retA H8 (t := (.array .byte)) rfl rfl rfl D43_24 (so := [a3]) (allS (mG (i := 0) rfl) all0) (by decide) (by decide) (Or.inl ⟨a3, c1, rfl, rfl, K9, (Nat.le_of_eq ga3.symm), A5, X6⟩)
 ·
  refine G.cN H D43_7 (J := 10) rfl (XT.ii_eq_f (own_eqF (a := j0) (b := j1) (by omega) (by omega) (by omega))) ?_
  refine G.aN H D43_10 (J := 11) rfl rfl rfl ?_
  refine G.iN H D43_11 (J := 12) rfl rfl ?_
  refine G.iN H D43_12 (J := 13) rfl rfl ?_
  refine G.cS H (m55 V p0 j0 d0 j1 cs0 h0 H.old (by omega) (by omega) (by omega) cp2 (by omega) f1 (by omega) (by omega)) (wq V 91 rfl) (wq V 92 rfl) (wd89 V) (wq V 93 rfl) [.ref p0, .int 0, (.int (Int32.ofNat j0))] [] 0 16 (lenOf (pd_29) rfl) D43_13 all0 (by decide) ?_
  intro T10 h10_ v11 s12 H10 Q13
  rcases Q13 with ⟨a14, k15, c16, rfl, rfl, K17, g18, F19, F20⟩ | ⟨a21, k22, c23, rfl, rfl, K24, g25, F26, F27⟩
  ·
   have na14 := Nat.le_trans H.le g18
   show Go _ _ _ _ (T10.setTop (mkF m 16 _ [.ref a14]))
   have K28 : Keep h0 h10_ [] := (Keep.trans (Keep.refl h0 []) K17 all0)
   exact G.retA H10 (t := (.array .byte)) rfl rfl rfl D43_16 (so := [a14]) (allS (mG (i := 0) rfl) all0) (by decide) (by decide) (Or.inr (Or.inl ⟨a14, k15, c1, c16, rfl, rfl, K28, g18, F19, F20⟩))
  ·
   have na21 := Nat.le_trans H.le g25
   show Go _ _ _ _ (T10.setTop (mkF m 16 _ [.ref a21]))
   have K29 : Keep h0 h10_ [] := (Keep.trans (Keep.refl h0 []) K24 all0)
   exact G.retA H10 (t := (.array .byte)) rfl rfl rfl D43_16 (so := [a21]) (allS (mG (i := 0) rfl) all0) (by decide) (by decide) (Or.inr (Or.inr ⟨a21, k22, c1, c23, rfl, rfl, K29, g25, F26, F27⟩))
theorem m57 (V : Env1 Z a0 n0 uu0 uu1 uu2 uu3 uu4) (p0 : Addr) (p1 : Addr) (p2 : Addr) (j0 : Nat) (d0 : ClassId) (j1 : Nat) (cs0 : List Int32) (h0 : Heap) (hO : Old Z n0 h0) (f0 : Exa Z h0 p1 "java/lang/StringBuilder") (f1 : Fld Z h0 p1 "java/lang/AbstractStringBuilder" "value" "[B" (.ref p2)) (ln2 : j0 ≤ 4000) (f2 : Fld Z h0 p1 "java/lang/AbstractStringBuilder" "count" "I" (.int (Int32.ofNat j0))) (f4 : Fld Z h0 p1 "java/lang/AbstractStringBuilder" "coder" "B" (.int 0)) (f5 : Exa Z h0 p0 "java/lang/String") (f6 : Fld Z h0 p0 "java/lang/String" "coder" "B" (.int 0)) (g7 : n0 ≤ p0) (ln8 : j1 ≤ 4000) (cp9 : j1 = 16 ∨ j1 = 34 ∨ j1 = 70) (ln10 : cs0.length ≤ 4000) (f8 : Arv Z h0 p2 d0 .byte (Int32.ofNat j1) (cs0.map b8) (.int 0)) (f12 : Exa Z h0 p2 "[B") (ln13 : j0 ≤ 64) (ln14 : cs0.length ≤ j0) (ln15 : cs0.length ≤ j1) (f16 : Fld Z h0 p0 "java/lang/String" "value" "[B" .null) :
  Met Z a0 ELs True n0 l ⟨"java/lang/String", "<init>", "(Ljava/lang/AbstractStringBuilder;Ljava/lang/Void;)V"⟩ Y24 5 none ⟨3, 1, 70, 71⟩ #[.ref p0, .ref p1, .null] h0 [p0] (fun v h so => (∃ a25 : Addr, (j0 : Nat) = j1 ∧ v = none ∧ so = [a25] ∧ Keep h0 h [p0] ∧ h0.size ≤ a25 ∧ (∀ (O n d : String) (w : Value), Fld Z h0 p0 O n d w → RoadKit.slotOf Z O n d ≠ RoadKit.slotOf Z "java/lang/String" "coder" "B" → RoadKit.slotOf Z O n d ≠ RoadKit.slotOf Z "java/lang/String" "value" "[B" → Fld Z h p0 O n d w) ∧ Exa Z h p0 "java/lang/String" ∧ Fld Z h p0 "java/lang/String" "coder" "B" (.int 0) ∧ Fld Z h p0 "java/lang/String" "value" "[B" (.ref a25) ∧ Arv Z h a25 d0 .byte (Int32.ofNat j1) (cs0.map b8) (.int 0) ∧ Exa Z h a25 "[B") ∨ (∃ a31 : Addr, ∃ k32 : ClassId, ¬ (j0 : Nat) = j1 ∧ (j0 : Nat) < j1 ∧ v = none ∧ so = [a31] ∧ Keep h0 h [p0] ∧ h0.size ≤ a31 ∧ (∀ (O n d : String) (w : Value), Fld Z h0 p0 O n d w → RoadKit.slotOf Z O n d ≠ RoadKit.slotOf Z "java/lang/String" "coder" "B" → RoadKit.slotOf Z O n d ≠ RoadKit.slotOf Z "java/lang/String" "value" "[B" → Fld Z h p0 O n d w) ∧ Exa Z h p0 "java/lang/String" ∧ Fld Z h p0 "java/lang/String" "coder" "B" (.int 0) ∧ Fld Z h p0 "java/lang/String" "value" "[B" (.ref a31) ∧ Arv Z h a31 k32 .byte (Int32.ofNat j0) ((([] : List Int32) ++ cs0).map b8) (.int 0) ∧ Exa Z h a31 "[B") ∨ (∃ a39 : Addr, ∃ k40 : ClassId, ¬ (j0 : Nat) = j1 ∧ ¬ (j0 : Nat) < j1 ∧ v = none ∧ so = [a39] ∧ Keep h0 h [p0] ∧ h0.size ≤ a39 ∧ (∀ (O n d : String) (w : Value), Fld Z h0 p0 O n d w → RoadKit.slotOf Z O n d ≠ RoadKit.slotOf Z "java/lang/String" "coder" "B" → RoadKit.slotOf Z O n d ≠ RoadKit.slotOf Z "java/lang/String" "value" "[B" → Fld Z h p0 O n d w) ∧ Exa Z h p0 "java/lang/String" ∧ Fld Z h p0 "java/lang/String" "coder" "B" (.int 0) ∧ Fld Z h p0 "java/lang/String" "value" "[B" (.ref a39) ∧ Arv Z h a39 k40 .byte (Int32.ofNat j0) ((([] : List Int32) ++ cs0).map b8) (.int 0) ∧ Exa Z h a39 "[B")) := by
 refine Met.of (EWl V) (by first | decide +kernel | rfl) hO (L0 := #[.val (.ref p0), .val (.ref p1), .val .null, .unset, .unset]) rfl ?_
 intro p e s m below meth c T H
 refine G.aN H D8_0 (J := 1) rfl rfl rfl ?_
 refine G.initO H (wq V 20 rfl) (wq V 21 rfl) (wq V 22 rfl) rfl D8_1 (J := 4) rfl (by decide) (W := 0) rfl (by decide) ?_
 intro T1 H2
 refine G.aN H2 D8_4 (J := 5) rfl rfl rfl ?_
 refine G.cV H2 (m50 V p1 p2 h0 H2.old f1) (wq V 66 rfl) (wq V 67 rfl) (nf_sel (wq V 69 rfl)) (wq V 69 rfl) (wq V 68 rfl) (wd46 V) (wq V 70 rfl) f0 [] [] 0 8 (lenOf (pd_27) rfl) D8_5 all0 (by decide) ?_
 rintro T3 h3_ _ _ H3 ⟨rfl, rfl, rfl⟩
 show Go _ _ _ _ (T3.setTop (mkF m 8 _ [.ref p2]))
 refine G.astoreN H3 (L' := #[.val (.ref p0), .val (.ref p1), .val .null, .val (.ref p2), .unset]) D8_8 (J := 9) rfl rfl rfl ?_
 refine G.aN H3 D8_9 (J := 10) rfl rfl rfl ?_
 refine G.callV H3 (m52 V p1 j0 h0 H3.old (by omega) f2 f0) (wq V 71 rfl) (wq V 72 rfl) (nf_sib (wq V 69 rfl) rfl) (wq V 74 rfl) (wq V 75 rfl) (wd38 V) (wq V 76 rfl) (by decide) f0 (argsL := []) (rest := []) (W := 0) rfl rfl (lenOf (pd_11) rfl) rfl rfl D8_10 (J := 13) rfl (by decide) (by decide) (by decide) (by decide) all0 ?_
 rintro T7 h7_ _ _ H7 ⟨rfl, rfl, rfl⟩
 show Go _ _ _ _ (T7.setTop (mkF m 13 _ [(.int (Int32.ofNat j0))]))
 refine G.sI H7 (L' := #[.val (.ref p0), .val (.ref p1), .val .null, .val (.ref p2), .val (.int (Int32.ofNat j0))]) D8_13 (J := 15) rfl rfl ?_
 refine G.aN H7 D8_15 (J := 16) rfl rfl rfl ?_
 refine G.cV H7 (m2 V p1 h0 H7.old f4) (wq V 82 rfl) (wq V 83 rfl) (nf_sel (wq V 85 rfl)) (wq V 85 rfl) (wq V 84 rfl) (wd46 V) (wq V 86 rfl) f0 [] [] 0 19 (lenOf (pd_1) rfl) D8_16 all0 (by decide) ?_
 rintro T11 h11_ _ _ H11 ⟨rfl, rfl, rfl⟩
 show Go _ _ _ _ (T11.setTop (mkF m 19 _ [.int 1]))
 refine G.ifNo H11 D8_19 (J := 22) rfl (by decide) ?_
 refine G.aN H11 D8_22 (J := 23) rfl rfl rfl ?_
 refine G.iC H11 D8_23 (J := 24) rfl (v := 0) rfl ?_
 refine G.putF H11 (wd30 V) Via.refl f6 f5 (Or.inr ⟨(wd26 V), rfl, rfl⟩) (wd10 V) (ty := .byte) (by decide) rfl rfl g7 (Sf.mem (mG (i := 0) rfl)) D8_24 (J := 27) rfl ?_
 intro T15 h15_ H15 W16
 have F17 : Fld Z h15_ p0 "java/lang/String" "coder" "B" (.int 0) := Fld.same W16 f6
 refine G.aN H15 D8_27 (J := 28) rfl rfl rfl ?_
 refine G.aN H15 D8_28 (J := 29) rfl rfl rfl ?_
 refine G.iC H15 D8_29 (J := 30) rfl (v := 0) rfl ?_
 refine G.iL H15 D8_30 (J := 32) rfl rfl ?_
 have N18 : p2 ≠ p0 := Ne.symm (Exa.neArv f5 f8 (wd10 V))
 have F19 := (Arv.other f8 W16 N18)
 have F20 := (Exa.wr W16 f12)
 refine G.cS H15 (m56 V p2 j0 d0 j1 cs0 h15_ H15.old (by omega) (by omega) cp9 (by omega) F19 F20 (by omega) (by omega) (by omega)) (wq V 87 rfl) (wq V 88 rfl) (wd89 V) (wq V 90 rfl) [.ref p2, .int 0, (.int (Int32.ofNat j0))] [.ref p0] 1 35 (lenOf (pd_29) rfl) D8_32 all0 (by decide) ?_
 intro T21 h21_ v22 s23 H21 Q24
 rcases Q24 with ⟨a25, c26, rfl, rfl, K27, g28, F29, F30⟩ | ⟨a31, k32, c33, c34, rfl, rfl, K35, g36, F37, F38⟩ | ⟨a39, k40, c41, c42, rfl, rfl, K43, g44, F45, F46⟩
 ·
  have na25 := Nat.le_trans H15.le g28
  show Go _ _ _ _ (T21.setTop (mkF m 35 _ [.ref a25, .ref p0]))
  have K47 : Keep h0 h21_ [p0] := (Keep.trans (Keep.wr (Keep.refl h0 [p0]) W16 (Or.inl (mG (i := 0) rfl))) K27 all0)
  have F48 := (Exa.keep f5 K47)
  have F49 := (Fld.keep (Fld.other W16 f16 (Or.inr (slot_ne (Or.inr (wd25 V)) (Or.inr (wd26 V)) (by decide) (t := (.array .byte)) (t' := .byte) (by decide) (by decide)))) K27 nin0)
  refine G.putF H21 (wd29 V) Via.refl F49 F48 (Or.inr ⟨(wd25 V), rfl, rfl⟩) (wd10 V) (ty := (.array .byte)) (by decide) rfl rfl g7 (Sf.mem (mG (i := 1) rfl)) D8_35 (J := 38) rfl ?_
  intro T50 h50_ H50 W51
  have F52 : Fld Z h50_ p0 "java/lang/String" "value" "[B" (.ref a25) := Fld.same W51 F49
  refine G.go H50 D8_38 (by decide) (J := 97) rfl ?_
  have F53 := (Exa.wr W51 F48)
  have F54 := (Fld.other W51 (Fld.keep F17 K27 nin0) (Or.inr (slot_ne (Or.inr (wd26 V)) (Or.inr (wd25 V)) (by decide) (t := .byte) (t' := (.array .byte)) (by decide) (by decide))))
  have N55 : a25 ≠ p0 := Ne.symm (Exa.neArv (Exa.keep (Exa.wr W16 f5) K27) F29 (wd10 V))
  have F56 := (Arv.other F29 W51 N55)
  have F57 := (Exa.wr W51 F30)
  have K58 : Keep h0 h50_ [p0] := (Keep.wr K47 W51 (Or.inl (mG (i := 0) rfl)))
  have K59 : Keep h0 h15_ [p0] := (Keep.wr (Keep.refl h0 [p0]) W16 (Or.inl (mG (i := 0) rfl)))
  exact G.retV H50 rfl D8_97 (so := [a25]) (allS (mG (i := 0) rfl) all0) (by decide) (by decide) (Or.inl ⟨a25, c26, rfl, rfl, K58, (Nat.le_trans K59.1 g28), (fun O n d w F hn0 hn1 => (Fld.other W51 (Fld.keep (Fld.other W16 F (Or.inr hn0)) K27 nin0) (Or.inr hn1))), F53, F54, F52, F56, F57⟩)
 ·
  have na31 := Nat.le_trans H15.le g36
  show Go _ _ _ _ (T21.setTop (mkF m 35 _ [.ref a31, .ref p0]))
  have K60 : Keep h0 h21_ [p0] := (Keep.trans (Keep.wr (Keep.refl h0 [p0]) W16 (Or.inl (mG (i := 0) rfl))) K35 all0)
  have F61 := (Exa.keep f5 K60)
  have F62 := (Fld.keep (Fld.other W16 f16 (Or.inr (slot_ne (Or.inr (wd25 V)) (Or.inr (wd26 V)) (by decide) (t := (.array .byte)) (t' := .byte) (by decide) (by decide)))) K35 nin0)
  refine G.putF H21 (wd29 V) Via.refl F62 F61 (Or.inr ⟨(wd25 V), rfl, rfl⟩) (wd10 V) (ty := (.array .byte)) (by decide) rfl rfl g7 (Sf.mem (mG (i := 1) rfl)) D8_35 (J := 38) rfl ?_
  intro T63 h63_ H63 W64
  have F65 : Fld Z h63_ p0 "java/lang/String" "value" "[B" (.ref a31) := Fld.same W64 F62
  refine G.go H63 D8_38 (by decide) (J := 97) rfl ?_
  have F66 := (Exa.wr W64 F61)
  have F67 := (Fld.other W64 (Fld.keep F17 K35 nin0) (Or.inr (slot_ne (Or.inr (wd26 V)) (Or.inr (wd25 V)) (by decide) (t := .byte) (t' := (.array .byte)) (by decide) (by decide))))
  have N68 : a31 ≠ p0 := Ne.symm (Exa.neArv (Exa.keep (Exa.wr W16 f5) K35) F37 (wd10 V))
  have F69 := (Arv.other F37 W64 N68)
  have F70 := (Exa.wr W64 F38)
  have K71 : Keep h0 h63_ [p0] := (Keep.wr K60 W64 (Or.inl (mG (i := 0) rfl)))
  have K72 : Keep h0 h15_ [p0] := (Keep.wr (Keep.refl h0 [p0]) W16 (Or.inl (mG (i := 0) rfl)))
  exact G.retV H63 rfl D8_97 (so := [a31]) (allS (mG (i := 0) rfl) all0) (by decide) (by decide) (Or.inr (Or.inl ⟨a31, k32, c33, c34, rfl, rfl, K71, (Nat.le_trans K72.1 g36), (fun O n d w F hn0 hn1 => (Fld.other W64 (Fld.keep (Fld.other W16 F (Or.inr hn0)) K35 nin0) (Or.inr hn1))), F66, F67, F65, F69, F70⟩))
 ·
  have na39 := Nat.le_trans H15.le g44
  show Go _ _ _ _ (T21.setTop (mkF m 35 _ [.ref a39, .ref p0]))
  have K73 : Keep h0 h21_ [p0] := (Keep.trans (Keep.wr (Keep.refl h0 [p0]) W16 (Or.inl (mG (i := 0) rfl))) K43 all0)
  have F74 := (Exa.keep f5 K73)
  have F75 := (Fld.keep (Fld.other W16 f16 (Or.inr (slot_ne (Or.inr (wd25 V)) (Or.inr (wd26 V)) (by decide) (t := (.array .byte)) (t' := .byte) (by decide) (by decide)))) K43 nin0)
  refine G.putF H21 (wd29 V) Via.refl F75 F74 (Or.inr ⟨(wd25 V), rfl, rfl⟩) (wd10 V) (ty := (.array .byte)) (by decide) rfl rfl g7 (Sf.mem (mG (i := 1) rfl)) D8_35 (J := 38) rfl ?_
  intro T76 h76_ H76 W77
  have F78 : Fld Z h76_ p0 "java/lang/String" "value" "[B" (.ref a39) := Fld.same W77 F75
  refine G.go H76 D8_38 (by decide) (J := 97) rfl ?_
  have F79 := (Exa.wr W77 F74)
  have F80 := (Fld.other W77 (Fld.keep F17 K43 nin0) (Or.inr (slot_ne (Or.inr (wd26 V)) (Or.inr (wd25 V)) (by decide) (t := .byte) (t' := (.array .byte)) (by decide) (by decide))))
  have N81 : a39 ≠ p0 := Ne.symm (Exa.neArv (Exa.keep (Exa.wr W16 f5) K43) F45 (wd10 V))
  have F82 := (Arv.other F45 W77 N81)
  have F83 := (Exa.wr W77 F46)
  have K84 : Keep h0 h76_ [p0] := (Keep.wr K73 W77 (Or.inl (mG (i := 0) rfl)))
  have K85 : Keep h0 h15_ [p0] := (Keep.wr (Keep.refl h0 [p0]) W16 (Or.inl (mG (i := 0) rfl)))
  exact G.retV H76 rfl D8_97 (so := [a39]) (allS (mG (i := 0) rfl) all0) (by decide) (by decide) (Or.inr (Or.inr ⟨a39, k40, c41, c42, rfl, rfl, K84, (Nat.le_trans K85.1 g44), (fun O n d w F hn0 hn1 => (Fld.other W77 (Fld.keep (Fld.other W16 F (Or.inr hn0)) K43 nin0) (Or.inr hn1))), F79, F80, F78, F82, F83⟩))
theorem m58 (V : Env1 Z a0 n0 uu0 uu1 uu2 uu3 uu4) (p0 : Addr) (p1 : Addr) (p2 : Addr) (j0 : Nat) (d0 : ClassId) (j1 : Nat) (cs0 : List Int32) (h0 : Heap) (hO : Old Z n0 h0) (f0 : Exa Z h0 p1 "java/lang/StringBuilder") (f1 : Fld Z h0 p1 "java/lang/AbstractStringBuilder" "value" "[B" (.ref p2)) (ln2 : j0 ≤ 4000) (f2 : Fld Z h0 p1 "java/lang/AbstractStringBuilder" "count" "I" (.int (Int32.ofNat j0))) (f4 : Fld Z h0 p1 "java/lang/AbstractStringBuilder" "coder" "B" (.int 0)) (f5 : Exa Z h0 p0 "java/lang/String") (f6 : Fld Z h0 p0 "java/lang/String" "coder" "B" (.int 0)) (g7 : n0 ≤ p0) (ln8 : j1 ≤ 4000) (cp9 : j1 = 16 ∨ j1 = 34 ∨ j1 = 70) (ln10 : cs0.length ≤ 4000) (f8 : Arv Z h0 p2 d0 .byte (Int32.ofNat j1) (cs0.map b8) (.int 0)) (f12 : Exa Z h0 p2 "[B") (ln13 : j0 ≤ 64) (ln14 : cs0.length ≤ j0) (ln15 : cs0.length ≤ j1) (f16 : Fld Z h0 p0 "java/lang/String" "value" "[B" .null) :
  Met Z a0 ELs True n0 l ⟨"java/lang/String", "<init>", "(Ljava/lang/StringBuilder;)V"⟩ Y64 2 none ⟨4, 1, 70, 87⟩ #[.ref p0, .ref p1] h0 [p0] (fun v h so => (∃ a5 : Addr, (j0 : Nat) = j1 ∧ v = none ∧ so = [a5] ∧ Keep h0 h [p0] ∧ h0.size ≤ a5 ∧ (∀ (O n d : String) (w : Value), Fld Z h0 p0 O n d w → RoadKit.slotOf Z O n d ≠ RoadKit.slotOf Z "java/lang/String" "coder" "B" → RoadKit.slotOf Z O n d ≠ RoadKit.slotOf Z "java/lang/String" "value" "[B" → Fld Z h p0 O n d w) ∧ Exa Z h p0 "java/lang/String" ∧ Fld Z h p0 "java/lang/String" "coder" "B" (.int 0) ∧ Fld Z h p0 "java/lang/String" "value" "[B" (.ref a5) ∧ Arv Z h a5 d0 .byte (Int32.ofNat j1) (cs0.map b8) (.int 0) ∧ Exa Z h a5 "[B") ∨ (∃ a15 : Addr, ∃ k16 : ClassId, ¬ (j0 : Nat) = j1 ∧ (j0 : Nat) < j1 ∧ v = none ∧ so = [a15] ∧ Keep h0 h [p0] ∧ h0.size ≤ a15 ∧ (∀ (O n d : String) (w : Value), Fld Z h0 p0 O n d w → RoadKit.slotOf Z O n d ≠ RoadKit.slotOf Z "java/lang/String" "coder" "B" → RoadKit.slotOf Z O n d ≠ RoadKit.slotOf Z "java/lang/String" "value" "[B" → Fld Z h p0 O n d w) ∧ Exa Z h p0 "java/lang/String" ∧ Fld Z h p0 "java/lang/String" "coder" "B" (.int 0) ∧ Fld Z h p0 "java/lang/String" "value" "[B" (.ref a15) ∧ Arv Z h a15 k16 .byte (Int32.ofNat j0) ((([] : List Int32) ++ cs0).map b8) (.int 0) ∧ Exa Z h a15 "[B") ∨ (∃ a27 : Addr, ∃ k28 : ClassId, ¬ (j0 : Nat) = j1 ∧ ¬ (j0 : Nat) < j1 ∧ v = none ∧ so = [a27] ∧ Keep h0 h [p0] ∧ h0.size ≤ a27 ∧ (∀ (O n d : String) (w : Value), Fld Z h0 p0 O n d w → RoadKit.slotOf Z O n d ≠ RoadKit.slotOf Z "java/lang/String" "coder" "B" → RoadKit.slotOf Z O n d ≠ RoadKit.slotOf Z "java/lang/String" "value" "[B" → Fld Z h p0 O n d w) ∧ Exa Z h p0 "java/lang/String" ∧ Fld Z h p0 "java/lang/String" "coder" "B" (.int 0) ∧ Fld Z h p0 "java/lang/String" "value" "[B" (.ref a27) ∧ Arv Z h a27 k28 .byte (Int32.ofNat j0) ((([] : List Int32) ++ cs0).map b8) (.int 0) ∧ Exa Z h a27 "[B")) := by
 refine Met.of (EWl V) (by first | decide +kernel | rfl) hO (L0 := #[.val (.ref p0), .val (.ref p1)]) rfl ?_
 intro p e s m below meth c T H
 refine G.aN H D17_0 (J := 1) rfl rfl rfl ?_
 refine G.aN H D17_1 (J := 2) rfl rfl rfl ?_
 refine G.aconstNull H D17_2 (J := 3) rfl ?_
 refine G.callI H (m57 V p0 p1 p2 j0 d0 j1 cs0 h0 H.old f0 f1 (by omega) f2 f4 f5 f6 g7 (by omega) cp9 (by omega) f8 f12 (by omega) (by omega) (by omega) f16) rfl (wq V 63 rfl) (wq V 64 rfl) (wd11 V) (wq V 65 rfl) (by decide) (a := p0) (argsL := [.ref p1, .null]) (rest := []) (W := 0) rfl rfl (lenOf (pd_30) rfl) rfl rfl D17_3 (J := 6) rfl (by decide) (by decide) (by decide) (by decide) (allS (mG (i := 0) rfl) all0) ?_
 intro T1 h1_ v2 s3 H1 Q4
 rcases Q4 with ⟨a5, c6, rfl, rfl, K7, g8, U9, F10, F11, F12, F13, F14⟩ | ⟨a15, k16, c17, c18, rfl, rfl, K19, g20, U21, F22, F23, F24, F25, F26⟩ | ⟨a27, k28, c29, c30, rfl, rfl, K31, g32, U33, F34, F35, F36, F37, F38⟩
 ·
  have na5 := Nat.le_trans H.le g8
  show Go _ _ _ _ (T1.setTop (mkF m 6 _ []))
  have K39 : Keep h0 h1_ [p0] := (Keep.trans (Keep.refl h0 [p0]) K7 (allS (Or.inl (mG (i := 0) rfl)) all0))
  exact G.retV H1 rfl D17_6 (so := [a5]) (allS (mG (i := 0) rfl) all0) (by decide) (by decide) (Or.inl ⟨a5, c6, rfl, rfl, K39, g8, (fun O n d w F hn0 hn1 => (U9 O n d w F hn0 hn1)), F10, F11, F12, F13, F14⟩)
 ·
  have na15 := Nat.le_trans H.le g20
  show Go _ _ _ _ (T1.setTop (mkF m 6 _ []))
  have K40 : Keep h0 h1_ [p0] := (Keep.trans (Keep.refl h0 [p0]) K19 (allS (Or.inl (mG (i := 0) rfl)) all0))
  exact G.retV H1 rfl D17_6 (so := [a15]) (allS (mG (i := 0) rfl) all0) (by decide) (by decide) (Or.inr (Or.inl ⟨a15, k16, c17, c18, rfl, rfl, K40, g20, (fun O n d w F hn0 hn1 => (U21 O n d w F hn0 hn1)), F22, F23, F24, F25, F26⟩))
 ·
  have na27 := Nat.le_trans H.le g32
  show Go _ _ _ _ (T1.setTop (mkF m 6 _ []))
  have K41 : Keep h0 h1_ [p0] := (Keep.trans (Keep.refl h0 [p0]) K31 (allS (Or.inl (mG (i := 0) rfl)) all0))
  exact G.retV H1 rfl D17_6 (so := [a27]) (allS (mG (i := 0) rfl) all0) (by decide) (by decide) (Or.inr (Or.inr ⟨a27, k28, c29, c30, rfl, rfl, K41, g32, (fun O n d w F hn0 hn1 => (U33 O n d w F hn0 hn1)), F34, F35, F36, F37, F38⟩))
theorem m59 (V : Env1 Z a0 n0 uu0 uu1 uu2 uu3 uu4) (p0 : Addr) (p1 : Addr) (j0 : Nat) (d0 : ClassId) (j1 : Nat) (cs0 : List Int32) (h0 : Heap) (hO : Old Z n0 h0) (f0 : Fld Z h0 p0 "java/lang/AbstractStringBuilder" "value" "[B" (.ref p1)) (ln1 : j0 ≤ 4000) (f1 : Fld Z h0 p0 "java/lang/AbstractStringBuilder" "count" "I" (.int (Int32.ofNat j0))) (ln3 : j1 ≤ 4000) (cp4 : j1 = 16 ∨ j1 = 34 ∨ j1 = 70) (ln5 : cs0.length ≤ 4000) (f3 : Arv Z h0 p1 d0 .byte (Int32.ofNat j1) (cs0.map b8) (.int 0)) (f7 : Exa Z h0 p0 "java/lang/StringBuilder") (ln8 : j0 = cs0.length) (ln9 : cs0.length ≤ 64) (ln10 : cs0.length ≤ j1) (f11 : Fld Z h0 p0 "java/lang/AbstractStringBuilder" "coder" "B" (.int 0)) (f12 : Exa Z h0 p1 "[B") (lr13 : ∀ c ∈ cs0, ¬ c < 0 ∧ ¬ 255 < c) :
  Met Z a0 ELs True n0 l ⟨"java/lang/StringBuilder", "toString", "()Ljava/lang/String;"⟩ Y66 1 (some (.object "java/lang/String")) ⟨5, 2, 74, 101⟩ #[.ref p0] h0 [] (fun v h so => (∃ a t : Addr, ∃ kb : ClassId, v = some (.ref a) ∧ so = [] ∧ Keep h0 h [] ∧ h0.size ≤ a ∧ Str Z h a t kb cs0)) := by
 refine Met.of (EWl V) (by first | decide +kernel | rfl) hO (L0 := #[.val (.ref p0)]) rfl ?_
 intro p e s m below meth c T H
 refine G.new H (wq V 59 rfl) (wd10 V) (wd11 V) D47_0 (J := 3) rfl (by decide) (by decide) ?_
 intro T1 h1_ a2 ga2 H1 E3 A4 D5
 have na2 := H.nle ga2
 refine G.dup H1 D47_3 (J := 4) rfl rfl ?_
 refine G.aN H1 D47_4 (J := 5) rfl rfl rfl ?_
 have F6 := (Exa.ext E3 f7)
 have F7 := (Fld.ext E3 f0)
 have F8 := (Fld.ext E3 f1)
 have F9 := (Fld.ext E3 f11)
 have F10 : Fld Z h1_ a2 "java/lang/String" "coder" "B" (.int 0) := D5 (Or.inr (wd26 V)) (ty := .byte) (by decide)
 have F11 : Fld Z h1_ a2 "java/lang/String" "value" "[B" .null := D5 (Or.inr (wd25 V)) (ty := (.array .byte)) (by decide)
 have F12 := (Arv.ext f3 E3)
 have F13 := (Exa.ext E3 f12)
 refine G.callI H1 (m58 V a2 p0 p1 j0 d0 j1 cs0 h1_ H1.old F6 F7 (by omega) F8 F9 A4 F10 na2 (by omega) cp4 (by omega) F12 F13 (by omega) (by omega) (by omega) F11) rfl (wq V 60 rfl) (wq V 61 rfl) (wd11 V) (wq V 62 rfl) (by decide) (a := a2) (argsL := [.ref p0]) (rest := [.ref a2]) (W := 1) rfl rfl (lenOf (pd_31) rfl) rfl rfl D47_5 (J := 8) rfl (by decide) (by decide) (by decide) (by decide) (allS (mG (i := 0) rfl) all0) ?_
 intro T14 h14_ v15 s16 H14 Q17
 rcases Q17 with ⟨a18, c19, rfl, rfl, K20, g21, U22, F23, F24, F25, F26, F27⟩ | ⟨a28, k29, c30, c31, rfl, rfl, K32, g33, U34, F35, F36, F37, F38, F39⟩ | ⟨a40, k41, c42, c43, rfl, rfl, K44, g45, U46, F47, F48, F49, F50, F51⟩
 ·
  have na18 := Nat.le_trans H1.le g21
  show Go _ _ _ _ (T14.setTop (mkF m 8 _ [.ref a2]))
  have S52 : Str Z h14_ a2 a18 d0 cs0 := own_mkStr F23 F24 F25 F26 (own_eqT (a := j1) (b := cs0.length) (by omega)) lr13 (by omega)
  have K53 : Keep h0 h14_ [] := (Keep.trans (Keep.ext (Keep.refl h0 []) E3) K20 (allS (Or.inr (Nat.le_of_eq ga2.symm)) all0))
  exact G.retA H14 (t := (.object "java/lang/String")) rfl rfl rfl D47_8 (so := []) all0 (by decide) (by decide) ⟨a2, a18, d0, rfl, rfl, K53, (Nat.le_of_eq ga2.symm), S52⟩
 ·
  have na28 := Nat.le_trans H1.le g33
  show Go _ _ _ _ (T14.setTop (mkF m 8 _ [.ref a2]))
  have S54 : Str Z h14_ a2 a28 k29 (([] : List Int32) ++ cs0) := own_mkStr F35 F36 F37 F38 (own_eqT (a := j0) (b := (([] : List Int32) ++ cs0).length) (by simp only [qa, qc, qn] <;> omega)) (own_rapp cb0 lr13) (by simp only [qa, qc, qn] <;> omega)
  have K55 : Keep h0 h14_ [] := (Keep.trans (Keep.ext (Keep.refl h0 []) E3) K32 (allS (Or.inr (Nat.le_of_eq ga2.symm)) all0))
  exact G.retA H14 (t := (.object "java/lang/String")) rfl rfl rfl D47_8 (so := []) all0 (by decide) (by decide) ⟨a2, a28, k29, rfl, rfl, K55, (Nat.le_of_eq ga2.symm), own_strl (by simp only [ra, rb, rz, rd]) S54⟩
 ·
  have na40 := Nat.le_trans H1.le g45
  exfalso; omega
theorem m60 (V : Env1 Z a0 n0 uu0 uu1 uu2 uu3 uu4) (p0 : Addr) (d0 : ClassId) (h0 : Heap) (hO : Old Z n0 h0) (f0 : Arv Z h0 p0 d0 (.object "java/lang/String") 0 [] .null) :
  Met Z a0 ELs True n0 l ⟨"com/example/schema_to_form/schematoform/server/PathSegments", "path", "([Ljava/lang/String;)Ljava/lang/String;"⟩ Y10 6 (some (.object "java/lang/String")) ⟨6, 4, 94, 113⟩ #[.ref p0] h0 [] (fun v h so => (∃ a30 a31 : Addr, ∃ k32 : ClassId, v = some (.ref a30) ∧ so = [] ∧ Keep h0 h [] ∧ h0.size ≤ a30 ∧ Str Z h a30 a31 k32 ([] : List Int32))) := by
 refine Met.of (EWl V) (by first | decide +kernel | rfl) hO (L0 := #[.val (.ref p0), .unset, .unset, .unset, .unset, .unset]) rfl ?_
 intro p e s m below meth c T H
 refine G.new H (wq V 36 rfl) (wd37 V) (wd38 V) D71_0 (J := 3) rfl (by decide) (by decide) ?_
 intro T1 h1_ a2 ga2 H1 E3 A4 D5
 have na2 := H.nle ga2
 refine G.dup H1 D71_3 (J := 4) rfl rfl ?_
 have F6 : Fld Z h1_ a2 "java/lang/AbstractStringBuilder" "value" "[B" .null := D5 (Or.inl (wd51 V)) (ty := (.array .byte)) (by decide)
 have F7 : Fld Z h1_ a2 "java/lang/AbstractStringBuilder" "coder" "B" (.int 0) := D5 (Or.inl (wd53 V)) (ty := .byte) (by decide)
 refine G.callI H1 (m49 V a2 h1_ H1.old A4 F6 na2 F7) rfl (wq V 39 rfl) (wq V 40 rfl) (wd38 V) (wq V 41 rfl) (by decide) (a := a2) (argsL := []) (rest := [.ref a2]) (W := 1) rfl rfl (lenOf (pd_26) rfl) rfl rfl D71_4 (J := 7) rfl (by decide) (by decide) (by decide) (by decide) all0 ?_
 rintro T8 h8_ _ _ H8 ⟨a12, k13, rfl, rfl, K14, g15, U16, F17, F18, F19, F20, F21⟩
 have na12 := Nat.le_trans H1.le g15
 show Go _ _ _ _ (T8.setTop (mkF m 7 _ [.ref a2]))
 refine G.astoreN H8 (L' := #[.val (.ref p0), .val (.ref a2), .unset, .unset, .unset, .unset]) D71_7 (J := 8) rfl rfl rfl ?_
 refine G.aN H8 D71_8 (J := 9) rfl rfl rfl ?_
 refine G.astoreN H8 (L' := #[.val (.ref p0), .val (.ref a2), .val (.ref p0), .unset, .unset, .unset]) D71_9 (J := 10) rfl rfl rfl ?_
 refine G.aN H8 D71_10 (J := 11) rfl rfl rfl ?_
 have K22 : Keep h0 h8_ [] := (Keep.trans (Keep.ext (Keep.refl h0 []) E3) K14 (allS (Or.inr (Nat.le_of_eq ga2.symm)) all0))
 have F23 := (Arv.keep f0 K22 nin0)
 refine G.aR H8 F23 D71_11 (J := 12) rfl ?_
 refine G.sN H8 (L' := #[.val (.ref p0), .val (.ref a2), .val (.ref p0), .val (.int 0), .unset, .unset]) D71_12 (J := 13) rfl rfl ?_
 refine G.iC H8 D71_13 (J := 14) rfl (v := 0) rfl ?_
 refine G.sI H8 (L' := #[.val (.ref p0), .val (.ref a2), .val (.ref p0), .val (.int 0), .val (.int 0), .unset]) D71_14 (J := 16) rfl rfl ?_
 refine G.iL H8 D71_16 (J := 18) rfl rfl ?_
 refine G.iN H8 D71_18 (J := 19) rfl rfl ?_
 refine G.cY H8 D71_19 (by decide) (by decide) (J := 49) rfl ?_
 refine G.aN H8 D71_49 (J := 50) rfl rfl rfl ?_
 have F24 : Fld Z h1_ a2 "java/lang/AbstractStringBuilder" "count" "I" (.int 0) := D5 (Or.inl (wd81 V)) (ty := .int) (by decide)
 have F25 := (U16 "java/lang/AbstractStringBuilder" "count" "I" (.int 0) F24 (slot_ne (Or.inl (wd81 V)) (Or.inl (wd51 V)) (by decide) (t := .int) (t' := (.array .byte)) (by decide) (by decide)) (slot_ne (Or.inl (wd81 V)) (Or.inl (wd53 V)) (by decide) (t := .int) (t' := .byte) (by decide) (by decide)))
 refine G.cV H8 (m59 V a2 a12 0 k13 16 ([] : List Int32) h8_ H8.old F18 (by omega) F25 (by omega) (Or.inl rfl) (by simp only [qa, qc, qn] <;> omega) F20 F17 (by simp only [qa, qc, qn] <;> omega) (by simp only [qa, qc, qn] <;> omega) (by simp only [qa, qc, qn] <;> omega) F19 F21 cb0) (wq V 54 rfl) (wq V 55 rfl) (nf_sel (wq V 57 rfl)) (wq V 57 rfl) (wq V 56 rfl) (wd38 V) (wq V 58 rfl) F17 [] [] 0 53 (lenOf (pd_32) rfl) D71_50 all0 (by decide) ?_
 rintro T26 h26_ _ _ H26 ⟨a30, a31, k32, rfl, rfl, K33, g34, F35⟩
 have na30 := Nat.le_trans H8.le g34
 show Go _ _ _ _ (T26.setTop (mkF m 53 _ [.ref a30]))
 have K36 : Keep h0 h26_ [] := (Keep.trans K22 K33 all0)
 exact G.retA H26 (t := (.object "java/lang/String")) rfl rfl rfl D71_53 (so := []) all0 (by decide) (by decide) ⟨a30, a31, k32, rfl, rfl, K36, (Nat.le_trans K22.1 g34), F35⟩
theorem m61 (V : Env1 Z a0 n0 uu0 uu1 uu2 uu3 uu4) (p0 : Addr) (p1 : Addr) (d0 : ClassId) (cs0 : List Int32) (h0 : Heap) (hO : Old Z n0 h0) (ln0 : cs0.length ≤ 4000) (f0 : Str Z h0 p0 p1 d0 cs0) :
  Met Z a0 ELs True n0 l ⟨"java/lang/String", "coder", "()B"⟩ Y44 1 (some .byte) ⟨0, 0, 0, 0⟩ #[.ref p0] h0 [] (fun v h so => (v = some (.int 0) ∧ so = [] ∧ h0 = h)) := by
 refine Met.of (EWl V) (by first | decide +kernel | rfl) hO (L0 := #[.val (.ref p0)]) rfl ?_
 intro p e s m below meth c T H
 refine G.getS H (wd115 V) Via.refl (Sta.ext H.old.2 (hv8 V)) D10_0 (J := 3) rfl ?_
 intro T1 H2
 refine G.ifNo H2 D10_3 (J := 6) rfl (XT.i0_eq_f (hv9 V)) ?_
 refine G.aN H2 D10_6 (J := 7) rfl rfl rfl ?_
 refine G.getF H2 (wd30 V) Via.refl f0.2.1 D10_7 (J := 10) rfl ?_
 intro T3 H4
 refine G.go H4 D10_10 (by decide) (J := 14) rfl ?_
 exact G.retN H4 (t := .byte) rfl (by decide) D10_14 (so := []) all0 (by decide) (by decide) ⟨rfl, rfl, rfl⟩
theorem m62 (V : Env1 Z a0 n0 uu0 uu1 uu2 uu3 uu4) (p0 : Addr) (p1 : Addr) (d0 : ClassId) (cs0 : List Int32) (h0 : Heap) (hO : Old Z n0 h0) (ln0 : cs0.length ≤ 4000) (f0 : Str Z h0 p0 p1 d0 cs0) :
  Met Z a0 ELs True n0 l ⟨"java/lang/String", "length", "()I"⟩ Y40 1 (some .int) ⟨1, 0, 0, 13⟩ #[.ref p0] h0 [] (fun v h so => (v = some (.int (Int32.ofNat (cs0.length))) ∧ so = [] ∧ h0 = h)) := by
 refine Met.of (EWl V) (by first | decide +kernel | rfl) hO (L0 := #[.val (.ref p0)]) rfl ?_
 intro p e s m below meth c T H
 refine G.aN H D18_0 (J := 1) rfl rfl rfl ?_
 refine G.getF H (wd29 V) Via.refl f0.2.2.1 D18_1 (J := 4) rfl ?_
 intro T1 H2
 have A3 : Arv Z h0 p1 d0 .byte (Int32.ofNat (cs0.length)) (cs0.map b8) (.int 0) := Str.al f0
 refine G.aR H2 A3 D18_4 (J := 5) rfl ?_
 refine G.aN H2 D18_5 (J := 6) rfl rfl rfl ?_
 refine G.cV H2 (m61 V p0 p1 d0 cs0 h0 H2.old (by omega) f0) (wd110 V) (wd111 V) (nf_sel (wd113 V)) (wd113 V) (wd112 V) (wd11 V) (wd114 V) f0.1 [] [(.int (Int32.ofNat (cs0.length)))] 1 9 (lenOf (pd_10) rfl) D18_6 all0 (by decide) ?_
 rintro T4 h4_ _ _ H4 ⟨rfl, rfl, rfl⟩
 show Go _ _ _ _ (T4.setTop (mkF m 9 _ [.int 0, (.int (Int32.ofNat (cs0.length)))]))
 refine G.ishr H4 D18_9 (J := 10) rfl ?_
 rw [own_shr0]
 exact G.retI H4 rfl D18_10 (so := []) all0 (by decide) (by decide) ⟨rfl, rfl, rfl⟩
theorem m63 (V : Env1 Z a0 n0 uu0 uu1 uu2 uu3 uu4) (p0 : Addr) (p1 : Addr) (p2 : Addr) (d0 : ClassId) (h0 : Heap) (hO : Old Z n0 h0) (f0 : Exa Z h0 p0 "java/lang/String") (f1 : Str Z h0 p0 p2 d0 []) :
  Met Z a0 ELs True n0 l ⟨"com/example/schema_to_form/schematoform/server/PathSegments", "isUnreserved", "(Ljava/lang/String;Ljava/lang/String;)Z"⟩ Y14 4 (some .boolean) ⟨2, 0, 0, 26⟩ #[.ref p0, .ref p1] h0 [] (fun v h so => (v = some (.int 1) ∧ so = [] ∧ h0 = h)) := by
 refine Met.of (EWl V) (by first | decide +kernel | rfl) hO (L0 := #[.val (.ref p0), .val (.ref p1), .unset, .unset]) rfl ?_
 intro p e s m below meth c T H
 refine G.iC H D69_0 (J := 1) rfl (v := 0) rfl ?_
 refine G.sN H (L' := #[.val (.ref p0), .val (.ref p1), .val (.int 0), .unset]) D69_1 (J := 2) rfl rfl ?_
 refine G.iN H D69_2 (J := 3) rfl rfl ?_
 refine G.aN H D69_3 (J := 4) rfl rfl rfl ?_
 refine G.cV H (m17 V p0 p2 d0 h0 H.old f1) (wq V 153 rfl) (wd106 V) (nf_sel (wd108 V)) (wd108 V) (wd107 V) (wd11 V) (wd109 V) f0 [] [.int 0] 1 7 (lenOf (pd_11) rfl) D69_4 all0 (by decide) ?_
 rintro T1 h1_ _ _ H1 ⟨rfl, rfl, rfl⟩
 show Go _ _ _ _ (T1.setTop (mkF m 7 _ [.int 0, .int 0]))
 refine G.cY H1 D69_7 (by decide) (by decide) (J := 39) rfl ?_
 refine G.iC H1 D69_39 (J := 40) rfl (v := 1) rfl ?_
 exact G.retN H1 (t := .boolean) rfl (by decide) D69_40 (so := []) all0 (by decide) (by decide) ⟨rfl, rfl, rfl⟩
theorem m64 (V : Env1 Z a0 n0 uu0 uu1 uu2 uu3 uu4) (p0 : Addr) (j0 : Nat) (p1 : Addr) (d0 : ClassId) (j1 : Nat) (cs0 : List Int32) (h0 : Heap) (hO : Old Z n0 h0) (ln0 : j0 ≤ 4000) (ln1 : j0 ≤ 60) (f2 : Fld Z h0 p0 "java/lang/AbstractStringBuilder" "value" "[B" (.ref p1)) (ln3 : j1 ≤ 4000) (cp4 : j1 = 16 ∨ j1 = 34 ∨ j1 = 70) (ln5 : cs0.length ≤ 4000) (f3 : Arv Z h0 p1 d0 .byte (Int32.ofNat j1) (cs0.map b8) (.int 0)) (f7 : Fld Z h0 p0 "java/lang/AbstractStringBuilder" "coder" "B" (.int 0)) (f8 : Exa Z h0 p0 "java/lang/StringBuilder") (ln9 : j0 < j1 + j1 + 2) (ln10 : cs0.length ≤ j1) (g11 : n0 ≤ p0) :
  Met Z a0 ELs True n0 l ⟨"java/lang/AbstractStringBuilder", "ensureCapacityInternal", "(I)V"⟩ Y18 3 none ⟨3, 1, 70, 55⟩ #[.ref p0, (.int (Int32.ofNat j0))] h0 [] (fun v h so => (∃ a18 : Addr, ∃ k19 : ClassId, (j1 : Nat) < j0 ∧ v = none ∧ so = [a18] ∧ Keep h0 h [p0] ∧ h0.size ≤ a18 ∧ (∀ (O n d : String) (w : Value), Fld Z h0 p0 O n d w → RoadKit.slotOf Z O n d ≠ RoadKit.slotOf Z "java/lang/AbstractStringBuilder" "value" "[B" → Fld Z h p0 O n d w) ∧ Fld Z h p0 "java/lang/AbstractStringBuilder" "value" "[B" (.ref a18) ∧ Fld Z h p0 "java/lang/AbstractStringBuilder" "coder" "B" (.int 0) ∧ Exa Z h p0 "java/lang/StringBuilder" ∧ Arv Z h a18 k19 .byte (Int32.ofNat (j1 + (j1 + 2))) ((([] : List Int32) ++ cs0).map b8) (.int 0) ∧ Exa Z h a18 "[B") ∨ (¬ (j1 : Nat) < j0 ∧ v = none ∧ so = [] ∧ h0 = h)) := by
 refine Met.of (EWl V) (by first | decide +kernel | rfl) hO (L0 := #[.val (.ref p0), .val (.int (Int32.ofNat j0)), .unset]) rfl ?_
 intro p e s m below meth c T H
 refine G.aN H D59_0 (J := 1) rfl rfl rfl ?_
 refine G.getF H (wd50 V) Via.refl f2 D59_1 (J := 4) rfl ?_
 intro T1 H2
 refine G.aR H2 f3 D59_4 (J := 5) rfl ?_
 refine G.aN H2 D59_5 (J := 6) rfl rfl rfl ?_
 refine G.getF H2 (wd52 V) Via.refl f7 D59_6 (J := 9) rfl ?_
 intro T3 H4
 refine G.ishr H4 D59_9 (J := 10) rfl ?_
 rw [own_shr0]
 refine G.sN H4 (L' := #[.val (.ref p0), .val (.int (Int32.ofNat j0)), .val (.int (Int32.ofNat j1))]) D59_10 (J := 11) rfl rfl ?_
 refine G.iN H4 D59_11 (J := 12) rfl rfl ?_
 refine G.iN H4 D59_12 (J := 13) rfl rfl ?_
 refine G.isub H4 D59_13 (J := 14) rfl ?_
 by_cases c5 : (j1 : Nat) < j0
 ·
  refine G.ifNo H4 D59_14 (J := 17) rfl (XT.i0_le_f (own_subT (a := j0) (b := j1) (by omega) (by omega))) ?_
  refine G.aN H4 D59_17 (J := 18) rfl rfl rfl ?_
  refine G.aN H4 D59_18 (J := 19) rfl rfl rfl ?_
  refine G.getF H4 (wd50 V) Via.refl f2 D59_19 (J := 22) rfl ?_
  intro T6 H7
  refine G.aN H7 D59_22 (J := 23) rfl rfl rfl ?_
  refine G.iN H7 D59_23 (J := 24) rfl rfl ?_
  refine G.callV H7 (m8 V p0 j0 p1 d0 j1 cs0 h0 H7.old (by omega) f2 (by omega) cp4 (by omega) f3 f7 (by omega) (by omega)) (wq V 315 rfl) (decl_of (wq V 316 rfl) (wq V 319 rfl)) (nf_sel (wq V 318 rfl)) (wq V 318 rfl) (wq V 316 rfl) (wd46 V) (wq V 319 rfl) (by decide) f8 (argsL := [(.int (Int32.ofNat j0))]) (rest := [.ref p1, .ref p0]) (W := 2) rfl rfl (lenOf (pd_6) rfl) rfl rfl D59_24 (J := 27) rfl (by decide) (by decide) (by decide) (by decide) all0 ?_
  rintro T8 h8_ _ _ H8 ⟨rfl, rfl, rfl⟩
  show Go _ _ _ _ (T8.setTop (mkF m 27 _ [(.int (Int32.ofNat (j1 + (j1 + 2)))), .ref p1, .ref p0]))
  refine G.aN H8 D59_27 (J := 28) rfl rfl rfl ?_
  refine G.getF H8 (wd52 V) Via.refl f7 D59_28 (J := 31) rfl ?_
  intro T12 H13
  refine G.ishl H13 D59_31 (J := 32) rfl ?_
  rw [own_shl0]
  refine G.cS H13 (m10 V p1 (j1 + (j1 + 2)) d0 j1 cs0 h0 H13.old (by omega) (by omega) cp4 (by omega) f3 (by omega) (by omega) (by omega) (by omega)) (wq V 327 rfl) (wd328 V) (wd89 V) (wd329 V) [.ref p1, (.int (Int32.ofNat (j1 + (j1 + 2))))] [.ref p0] 1 35 (lenOf (pd_7) rfl) D59_32 all0 (by decide) ?_
  rintro T14 h14_ _ _ H14 ⟨a18, k19, rfl, rfl, K20, g21, F22, F23⟩
  have na18 := Nat.le_trans H8.le g21
  show Go _ _ _ _ (T14.setTop (mkF m 35 _ [.ref a18, .ref p0]))
  have F24 := (Exa.keep f8 K20)
  have F25 := (Fld.keep f2 K20 nin0)
  refine G.putF H14 (wd50 V) Via.refl F25 F24 (Or.inl (wd51 V)) (wd37 V) (ty := (.array .byte)) (by decide) rfl rfl g11 (Sf.exa F24) D59_35 (J := 38) rfl ?_
  intro T26 h26_ H26 W27
  have F28 : Fld Z h26_ p0 "java/lang/AbstractStringBuilder" "value" "[B" (.ref a18) := Fld.same W27 F25
  have F29 := (Fld.other W27 (Fld.keep f7 K20 nin0) (Or.inr (slot_ne (Or.inl (wd53 V)) (Or.inl (wd51 V)) (by decide) (t := .byte) (t' := (.array .byte)) (by decide) (by decide))))
  have F30 := (Exa.wr W27 F24)
  have N31 : a18 ≠ p0 := Ne.symm (Exa.neArv (Exa.keep f8 K20) F22 (wd37 V))
  have F32 := (Arv.other F22 W27 N31)
  have F33 := (Exa.wr W27 F23)
  have K34 : Keep h0 h26_ [p0] := (Keep.wr (Keep.trans (Keep.refl h0 [p0]) K20 all0) W27 (Or.inl (mG (i := 0) rfl)))
  exact G.retV H26 rfl D59_38 (so := [a18]) (allS (mG (i := 0) rfl) all0) (by decide) (by decide) (Or.inl ⟨a18, k19, c5, rfl, rfl, K34, g21, (fun O n d w F hn0 => (Fld.other W27 (Fld.keep F K20 nin0) (Or.inr hn0))), F28, F29, F30, F32, F33⟩)
 ·
  refine G.ifYes H4 D59_14 (XT.i0_le_t (own_subF (a := j0) (b := j1) (by omega) (by omega))) (by decide) (J := 38) rfl ?_
  exact G.retV H4 rfl D59_38 (so := []) all0 (by decide) (by decide) (Or.inr ⟨c5, rfl, rfl, rfl⟩)
theorem m65 (V : Env1 Z a0 n0 uu0 uu1 uu2 uu3 uu4) (p0 : Addr) (p1 : Addr) (p2 : Addr) (d0 : ClassId) (cs0 : List Int32) (h0 : Heap) (hO : Old Z n0 h0) (f0 : Fld Z h0 p0 "java/lang/AbstractStringBuilder" "coder" "B" (.int 0)) (f1 : Exa Z h0 p1 "java/lang/String") (ln2 : cs0.length ≤ 4000) (f2 : Str Z h0 p1 p2 d0 cs0) :
  Met Z a0 ELs True n0 l ⟨"java/lang/AbstractStringBuilder", "inflateIfNeededFor", "(Ljava/lang/String;)V"⟩ Y54 2 none ⟨1, 0, 0, 13⟩ #[.ref p0, .ref p1] h0 [] (fun v h so => (v = none ∧ so = [] ∧ h0 = h)) := by
 refine Met.of (EWl V) (by first | decide +kernel | rfl) hO (L0 := #[.val (.ref p0), .val (.ref p1)]) rfl ?_
 intro p e s m below meth c T H
 refine G.getS H (wq V 49 rfl) Via.refl (Sta.ext H.old.2 (hv8 V)) D57_0 (J := 3) rfl ?_
 intro T1 H2
 refine G.ifNo H2 D57_3 (J := 6) rfl (XT.i0_eq_f (hv9 V)) ?_
 refine G.aN H2 D57_6 (J := 7) rfl rfl rfl ?_
 refine G.getF H2 (wd52 V) Via.refl f0 D57_7 (J := 10) rfl ?_
 intro T3 H4
 refine G.aN H4 D57_10 (J := 11) rfl rfl rfl ?_
 refine G.cV H4 (m61 V p1 p2 d0 cs0 h0 H4.old (by omega) f2) (wq V 174 rfl) (wd111 V) (nf_sel (wd113 V)) (wd113 V) (wd112 V) (wd11 V) (wd114 V) f1 [] [.int 0] 1 14 (lenOf (pd_10) rfl) D57_11 all0 (by decide) ?_
 rintro T5 h5_ _ _ H5 ⟨rfl, rfl, rfl⟩
 show Go _ _ _ _ (T5.setTop (mkF m 14 _ [.int 0, .int 0]))
 refine G.cY H5 D57_14 (by decide) (by decide) (J := 21) rfl ?_
 exact G.retV H5 rfl D57_21 (so := []) all0 (by decide) (by decide) ⟨rfl, rfl, rfl⟩
theorem m66 (V : Env1 Z a0 n0 uu0 uu1 uu2 uu3 uu4) (p0 : Addr) (p1 : Addr) (j0 : Nat) (p2 : Addr) (d0 : ClassId) (cs0 : List Int32) (d1 : ClassId) (j1 : Nat) (cs1 : List Int32) (h0 : Heap) (hO : Old Z n0 h0) (ln0 : j0 ≤ 4000) (f1 : Exa Z h0 p0 "java/lang/String") (ln2 : cs0.length ≤ 4000) (f2 : Str Z h0 p0 p2 d0 cs0) (ln4 : j1 ≤ 4000) (ln5 : cs1.length ≤ 4000) (f4 : Arv Z h0 p1 d1 .byte (Int32.ofNat j1) (cs1.map b8) (.int 0)) (ln7 : j0 + cs0.length ≤ j1) (ln8 : j0 = cs1.length) (g9 : n0 ≤ p1) :
  Met Z a0 ELs True n0 l ⟨"java/lang/String", "getBytes", "([BIB)V"⟩ Y31 4 none ⟨1, 0, 0, 40⟩ #[.ref p0, .ref p1, (.int (Int32.ofNat j0)), .int 0] h0 [p1] (fun v h so => (v = none ∧ so = [] ∧ Keep h0 h [p1] ∧ Arv Z h p1 d1 .byte (Int32.ofNat j1) ((cs1 ++ cs0).map b8) (.int 0))) := by
 refine Met.of (EWl V) (by first | decide +kernel | rfl) hO (L0 := #[.val (.ref p0), .val (.ref p1), .val (.int (Int32.ofNat j0)), .val (.int 0)]) rfl ?_
 intro p e s m below meth c T H
 refine G.aN H D6_0 (J := 1) rfl rfl rfl ?_
 refine G.cV H (m61 V p0 p2 d0 cs0 h0 H.old (by omega) f2) (wd110 V) (wd111 V) (nf_sel (wd113 V)) (wd113 V) (wd112 V) (wd11 V) (wd114 V) f1 [] [] 0 4 (lenOf (pd_10) rfl) D6_1 all0 (by decide) ?_
 rintro T1 h1_ _ _ H1 ⟨rfl, rfl, rfl⟩
 show Go _ _ _ _ (T1.setTop (mkF m 4 _ [.int 0]))
 refine G.iN H1 D6_4 (J := 5) rfl rfl ?_
 refine G.cN H1 D6_5 (J := 8) rfl (by decide) ?_
 refine G.aN H1 D6_8 (J := 9) rfl rfl rfl ?_
 refine G.getF H1 (wd29 V) Via.refl f2.2.2.1 D6_9 (J := 12) rfl ?_
 intro T5 H6
 refine G.iC H6 D6_12 (J := 13) rfl (v := 0) rfl ?_
 refine G.aN H6 D6_13 (J := 14) rfl rfl rfl ?_
 refine G.iN H6 D6_14 (J := 15) rfl rfl ?_
 refine G.iN H6 D6_15 (J := 16) rfl rfl ?_
 refine G.ishl H6 D6_16 (J := 17) rfl ?_
 rw [own_shl0]
 refine G.aN H6 D6_17 (J := 18) rfl rfl rfl ?_
 refine G.getF H6 (wd29 V) Via.refl f2.2.2.1 D6_18 (J := 21) rfl ?_
 intro T7 H8
 have A9 : Arv Z h0 p2 d0 .byte (Int32.ofNat (cs0.length)) (cs0.map b8) (.int 0) := Str.al f2
 refine G.aR H8 A9 D6_21 (J := 22) rfl ?_
 refine G.copyN H8 (wq V 180 rfl) (wq V 104 rfl) (wq V 102 rfl) (wq V 103 rfl) A9 f4 (nN := cs0.length) (dN := j0) rfl rfl (by omega) (by omega) (own_clg (a := cs0.length) (by omega) (by omega)) (own_clg (a := j1) (by omega) (by omega)) (by omega) (by omega) g9 (Sf.mem (mG (i := 0) rfl)) (st := []) (W := 0) rfl rfl D6_22 (J := 25) rfl (by decide) (by decide) ?_
 intro T10 h10_ H10 K11 A12
 refine G.go H10 D6_25 (by decide) (J := 43) rfl ?_
 have K13 : Keep h0 h10_ [p1] := (Keep.trans (Keep.refl h0 [p1]) K11 (allS (Or.inl (mG (i := 0) rfl)) all0))
 exact G.retV H10 rfl D6_43 (so := []) all0 (by decide) (by decide) ⟨rfl, rfl, K13, A12⟩
theorem m67 (V : Env1 Z a0 n0 uu0 uu1 uu2 uu3 uu4) (p0 : Addr) (j0 : Nat) (p1 : Addr) (p2 : Addr) (d0 : ClassId) (cs0 : List Int32) (p3 : Addr) (d1 : ClassId) (j1 : Nat) (cs1 : List Int32) (h0 : Heap) (hO : Old Z n0 h0) (ln0 : j0 ≤ 4000) (f1 : Exa Z h0 p0 "java/lang/StringBuilder") (f2 : Fld Z h0 p0 "java/lang/AbstractStringBuilder" "coder" "B" (.int 0)) (f3 : Exa Z h0 p1 "java/lang/String") (ln4 : cs0.length ≤ 4000) (f4 : Str Z h0 p1 p2 d0 cs0) (f6 : Fld Z h0 p0 "java/lang/AbstractStringBuilder" "value" "[B" (.ref p3)) (ln7 : j1 ≤ 4000) (ln8 : cs1.length ≤ 4000) (f7 : Arv Z h0 p3 d1 .byte (Int32.ofNat j1) (cs1.map b8) (.int 0)) (ln10 : j0 + cs0.length ≤ j1) (ln11 : j0 = cs1.length) (g12 : n0 ≤ p3) :
  Met Z a0 ELs True n0 l ⟨"java/lang/AbstractStringBuilder", "putStringAt", "(ILjava/lang/String;)V"⟩ Y37 3 none ⟨2, 0, 0, 55⟩ #[.ref p0, (.int (Int32.ofNat j0)), .ref p1] h0 [p3] (fun v h so => (v = none ∧ so = [] ∧ Keep h0 h [p3] ∧ Arv Z h p3 d1 .byte (Int32.ofNat j1) ((cs1 ++ cs0).map b8) (.int 0))) := by
 refine Met.of (EWl V) (by first | decide +kernel | rfl) hO (L0 := #[.val (.ref p0), .val (.int (Int32.ofNat j0)), .val (.ref p1)]) rfl ?_
 intro p e s m below meth c T H
 refine G.aN H D58_0 (J := 1) rfl rfl rfl ?_
 refine G.aN H D58_1 (J := 2) rfl rfl rfl ?_
 refine G.callV H (m65 V p0 p1 p2 d0 cs0 h0 H.old f2 f3 (by omega) f4) (wq V 169 rfl) (decl_of (wq V 170 rfl) (wq V 173 rfl)) (nf_sel (wq V 172 rfl)) (wq V 172 rfl) (wq V 170 rfl) (wd46 V) (wq V 173 rfl) (by decide) f1 (argsL := [.ref p1]) (rest := []) (W := 0) rfl rfl (lenOf (pd_35) rfl) rfl rfl D58_2 (J := 5) rfl (by decide) (by decide) (by decide) (by decide) all0 ?_
 rintro T1 h1_ _ _ H1 ⟨rfl, rfl, rfl⟩
 show Go _ _ _ _ (T1.setTop (mkF m 5 _ []))
 refine G.aN H1 D58_5 (J := 6) rfl rfl rfl ?_
 refine G.aN H1 D58_6 (J := 7) rfl rfl rfl ?_
 refine G.getF H1 (wd50 V) Via.refl f6 D58_7 (J := 10) rfl ?_
 intro T5 H6
 refine G.iN H6 D58_10 (J := 11) rfl rfl ?_
 refine G.aN H6 D58_11 (J := 12) rfl rfl rfl ?_
 refine G.getF H6 (wd52 V) Via.refl f2 D58_12 (J := 15) rfl ?_
 intro T7 H8
 refine G.cV H8 (m66 V p1 p3 j0 p2 d0 cs0 d1 j1 cs1 h0 H8.old (by omega) f3 (by omega) f4 (by omega) (by omega) f7 (by omega) (by omega) g12) (wq V 175 rfl) (wq V 176 rfl) (nf_sel (wq V 178 rfl)) (wq V 178 rfl) (wq V 177 rfl) (wd11 V) (wq V 179 rfl) f3 [.ref p3, (.int (Int32.ofNat j0)), .int 0] [] 0 18 (lenOf (pd_36) rfl) D58_15 (allS (mG (i := 0) rfl) all0) (by decide) ?_
 rintro T9 h9_ _ _ H9 ⟨rfl, rfl, K13, F14⟩
 show Go _ _ _ _ (T9.setTop (mkF m 18 _ []))
 have K15 : Keep h0 h9_ [p3] := (Keep.trans (Keep.refl h0 [p3]) K13 (allS (Or.inl (mG (i := 0) rfl)) all0))
 exact G.retV H9 rfl D58_18 (so := []) all0 (by decide) (by decide) ⟨rfl, rfl, K15, F14⟩
theorem m68 (V : Env1 Z a0 n0 uu0 uu1 uu2 uu3 uu4) (p0 : Addr) (p1 : Addr) (j0 : Nat) (p2 : Addr) (d0 : ClassId) (cs0 : List Int32) (d1 : ClassId) (j1 : Nat) (cs1 : List Int32) (h0 : Heap) (hO : Old Z n0 h0) (ln0 : j0 ≤ 4000) (f1 : Exa Z h0 p0 "java/lang/String") (ln2 : cs0.length ≤ 4000) (f2 : Str Z h0 p0 p2 d0 cs0) (ln4 : j1 ≤ 4000) (cp5 : j1 = 16 ∨ j1 = 34 ∨ j1 = 70) (ln6 : cs1.length ≤ 4000) (f4 : Arv Z h0 p1 d1 .byte (Int32.ofNat j1) (cs1.map b8) (.int 0)) (ln8 : j0 + cs0.length ≤ j1) (ln9 : j0 = cs1.length) (g10 : n0 ≤ p1) :
  Met Z a0 ELs True n0 l ⟨"java/lang/String", "getBytes", "([BIB)V"⟩ Y31 4 none ⟨1, 0, 0, 40⟩ #[.ref p0, .ref p1, (.int (Int32.ofNat j0)), .int 0] h0 [p1] (fun v h so => (v = none ∧ so = [] ∧ Keep h0 h [p1] ∧ Arv Z h p1 d1 .byte (Int32.ofNat j1) ((cs1 ++ cs0).map b8) (.int 0))) := by
 refine Met.of (EWl V) (by first | decide +kernel | rfl) hO (L0 := #[.val (.ref p0), .val (.ref p1), .val (.int (Int32.ofNat j0)), .val (.int 0)]) rfl ?_
 intro p e s m below meth c T H
 refine G.aN H D6_0 (J := 1) rfl rfl rfl ?_
 refine G.cV H (m61 V p0 p2 d0 cs0 h0 H.old (by omega) f2) (wd110 V) (wd111 V) (nf_sel (wd113 V)) (wd113 V) (wd112 V) (wd11 V) (wd114 V) f1 [] [] 0 4 (lenOf (pd_10) rfl) D6_1 all0 (by decide) ?_
 rintro T1 h1_ _ _ H1 ⟨rfl, rfl, rfl⟩
 show Go _ _ _ _ (T1.setTop (mkF m 4 _ [.int 0]))
 refine G.iN H1 D6_4 (J := 5) rfl rfl ?_
 refine G.cN H1 D6_5 (J := 8) rfl (by decide) ?_
 refine G.aN H1 D6_8 (J := 9) rfl rfl rfl ?_
 refine G.getF H1 (wd29 V) Via.refl f2.2.2.1 D6_9 (J := 12) rfl ?_
 intro T5 H6
 refine G.iC H6 D6_12 (J := 13) rfl (v := 0) rfl ?_
 refine G.aN H6 D6_13 (J := 14) rfl rfl rfl ?_
 refine G.iN H6 D6_14 (J := 15) rfl rfl ?_
 refine G.iN H6 D6_15 (J := 16) rfl rfl ?_
 refine G.ishl H6 D6_16 (J := 17) rfl ?_
 rw [own_shl0]
 refine G.aN H6 D6_17 (J := 18) rfl rfl rfl ?_
 refine G.getF H6 (wd29 V) Via.refl f2.2.2.1 D6_18 (J := 21) rfl ?_
 intro T7 H8
 have A9 : Arv Z h0 p2 d0 .byte (Int32.ofNat (cs0.length)) (cs0.map b8) (.int 0) := Str.al f2
 refine G.aR H8 A9 D6_21 (J := 22) rfl ?_
 refine G.copyN H8 (wq V 180 rfl) (wq V 104 rfl) (wq V 102 rfl) (wq V 103 rfl) A9 f4 (nN := cs0.length) (dN := j0) rfl rfl (by omega) (by omega) (own_clg (a := cs0.length) (by omega) (by omega)) (own_clg (a := j1) (by omega) (by omega)) (by omega) (by omega) g10 (Sf.mem (mG (i := 0) rfl)) (st := []) (W := 0) rfl rfl D6_22 (J := 25) rfl (by decide) (by decide) ?_
 intro T10 h10_ H10 K11 A12
 refine G.go H10 D6_25 (by decide) (J := 43) rfl ?_
 have K13 : Keep h0 h10_ [p1] := (Keep.trans (Keep.refl h0 [p1]) K11 (allS (Or.inl (mG (i := 0) rfl)) all0))
 exact G.retV H10 rfl D6_43 (so := []) all0 (by decide) (by decide) ⟨rfl, rfl, K13, A12⟩
theorem m69 (V : Env1 Z a0 n0 uu0 uu1 uu2 uu3 uu4) (p0 : Addr) (j0 : Nat) (p1 : Addr) (p2 : Addr) (d0 : ClassId) (cs0 : List Int32) (p3 : Addr) (d1 : ClassId) (j1 : Nat) (cs1 : List Int32) (h0 : Heap) (hO : Old Z n0 h0) (ln0 : j0 ≤ 4000) (f1 : Exa Z h0 p0 "java/lang/StringBuilder") (f2 : Fld Z h0 p0 "java/lang/AbstractStringBuilder" "coder" "B" (.int 0)) (f3 : Exa Z h0 p1 "java/lang/String") (ln4 : cs0.length ≤ 4000) (f4 : Str Z h0 p1 p2 d0 cs0) (f6 : Fld Z h0 p0 "java/lang/AbstractStringBuilder" "value" "[B" (.ref p3)) (ln7 : j1 ≤ 4000) (cp8 : j1 = 16 ∨ j1 = 34 ∨ j1 = 70) (ln9 : cs1.length ≤ 4000) (f7 : Arv Z h0 p3 d1 .byte (Int32.ofNat j1) (cs1.map b8) (.int 0)) (ln11 : j0 + cs0.length ≤ j1) (ln12 : j0 = cs1.length) (g13 : n0 ≤ p3) :
  Met Z a0 ELs True n0 l ⟨"java/lang/AbstractStringBuilder", "putStringAt", "(ILjava/lang/String;)V"⟩ Y37 3 none ⟨2, 0, 0, 55⟩ #[.ref p0, (.int (Int32.ofNat j0)), .ref p1] h0 [p3] (fun v h so => (v = none ∧ so = [] ∧ Keep h0 h [p3] ∧ Arv Z h p3 d1 .byte (Int32.ofNat j1) ((cs1 ++ cs0).map b8) (.int 0))) := by
 refine Met.of (EWl V) (by first | decide +kernel | rfl) hO (L0 := #[.val (.ref p0), .val (.int (Int32.ofNat j0)), .val (.ref p1)]) rfl ?_
 intro p e s m below meth c T H
 refine G.aN H D58_0 (J := 1) rfl rfl rfl ?_
 refine G.aN H D58_1 (J := 2) rfl rfl rfl ?_
 refine G.callV H (m65 V p0 p1 p2 d0 cs0 h0 H.old f2 f3 (by omega) f4) (wq V 169 rfl) (decl_of (wq V 170 rfl) (wq V 173 rfl)) (nf_sel (wq V 172 rfl)) (wq V 172 rfl) (wq V 170 rfl) (wd46 V) (wq V 173 rfl) (by decide) f1 (argsL := [.ref p1]) (rest := []) (W := 0) rfl rfl (lenOf (pd_35) rfl) rfl rfl D58_2 (J := 5) rfl (by decide) (by decide) (by decide) (by decide) all0 ?_
 rintro T1 h1_ _ _ H1 ⟨rfl, rfl, rfl⟩
 show Go _ _ _ _ (T1.setTop (mkF m 5 _ []))
 refine G.aN H1 D58_5 (J := 6) rfl rfl rfl ?_
 refine G.aN H1 D58_6 (J := 7) rfl rfl rfl ?_
 refine G.getF H1 (wd50 V) Via.refl f6 D58_7 (J := 10) rfl ?_
 intro T5 H6
 refine G.iN H6 D58_10 (J := 11) rfl rfl ?_
 refine G.aN H6 D58_11 (J := 12) rfl rfl rfl ?_
 refine G.getF H6 (wd52 V) Via.refl f2 D58_12 (J := 15) rfl ?_
 intro T7 H8
 refine G.cV H8 (m68 V p1 p3 j0 p2 d0 cs0 d1 j1 cs1 h0 H8.old (by omega) f3 (by omega) f4 (by omega) cp8 (by omega) f7 (by omega) (by omega) g13) (wq V 175 rfl) (wq V 176 rfl) (nf_sel (wq V 178 rfl)) (wq V 178 rfl) (wq V 177 rfl) (wd11 V) (wq V 179 rfl) f3 [.ref p3, (.int (Int32.ofNat j0)), .int 0] [] 0 18 (lenOf (pd_36) rfl) D58_15 (allS (mG (i := 0) rfl) all0) (by decide) ?_
 rintro T9 h9_ _ _ H9 ⟨rfl, rfl, K13, F14⟩
 show Go _ _ _ _ (T9.setTop (mkF m 18 _ []))
 have K15 : Keep h0 h9_ [p3] := (Keep.trans (Keep.refl h0 [p3]) K13 (allS (Or.inl (mG (i := 0) rfl)) all0))
 exact G.retV H9 rfl D58_18 (so := []) all0 (by decide) (by decide) ⟨rfl, rfl, K15, F14⟩
theorem m70 (V : Env1 Z a0 n0 uu0 uu1 uu2 uu3 uu4) (p0 : Addr) (p1 : Addr) (p2 : Addr) (d0 : ClassId) (cs0 : List Int32) (j0 : Nat) (p3 : Addr) (d1 : ClassId) (j1 : Nat) (cs1 : List Int32) (h0 : Heap) (hO : Old Z n0 h0) (f0 : Exa Z h0 p1 "java/lang/String") (ln1 : cs0.length ≤ 4000) (f1 : Str Z h0 p1 p2 d0 cs0) (ln3 : j0 ≤ 4000) (f3 : Fld Z h0 p0 "java/lang/AbstractStringBuilder" "count" "I" (.int (Int32.ofNat j0))) (f5 : Exa Z h0 p0 "java/lang/StringBuilder") (ln6 : j0 + cs0.length ≤ 4000) (ln7 : j0 + cs0.length ≤ 60) (f8 : Fld Z h0 p0 "java/lang/AbstractStringBuilder" "value" "[B" (.ref p3)) (ln9 : j1 ≤ 4000) (cp10 : j1 = 16 ∨ j1 = 34 ∨ j1 = 70) (ln11 : cs1.length ≤ 4000) (f9 : Arv Z h0 p3 d1 .byte (Int32.ofNat j1) (cs1.map b8) (.int 0)) (f13 : Fld Z h0 p0 "java/lang/AbstractStringBuilder" "coder" "B" (.int 0)) (ln14 : j0 + cs0.length < j1 + j1 + 2) (ln15 : cs1.length ≤ j1) (g16 : n0 ≤ p0) (ln17 : j0 = cs1.length) (g18 : n0 ≤ p3) :
  Met Z a0 ELs True n0 l ⟨"java/lang/AbstractStringBuilder", "append", "(Ljava/lang/String;)Ljava/lang/AbstractStringBuilder;"⟩ Y21 3 (some (.object "java/lang/AbstractStringBuilder")) ⟨4, 1, 70, 69⟩ #[.ref p0, .ref p1] h0 [p3] (fun v h so => (∃ a11 : Addr, ∃ k12 : ClassId, (j1 : Nat) < (j0 + cs0.length) ∧ v = some (.ref p0) ∧ so = [a11] ∧ Keep h0 h [p0] ∧ h0.size ≤ a11 ∧ (∀ (O n d : String) (w : Value), Fld Z h0 p0 O n d w → RoadKit.slotOf Z O n d ≠ RoadKit.slotOf Z "java/lang/AbstractStringBuilder" "value" "[B" → RoadKit.slotOf Z O n d ≠ RoadKit.slotOf Z "java/lang/AbstractStringBuilder" "count" "I" → Fld Z h p0 O n d w) ∧ Fld Z h p0 "java/lang/AbstractStringBuilder" "count" "I" (.int (Int32.ofNat (j0 + cs0.length))) ∧ Exa Z h p0 "java/lang/StringBuilder" ∧ Fld Z h p0 "java/lang/AbstractStringBuilder" "value" "[B" (.ref a11) ∧ Fld Z h p0 "java/lang/AbstractStringBuilder" "coder" "B" (.int 0) ∧ Arv Z h a11 k12 .byte (Int32.ofNat (j1 + (j1 + 2))) (((([] : List Int32) ++ cs1) ++ cs0).map b8) (.int 0) ∧ Exa Z h a11 "[B") ∨ (¬ (j1 : Nat) < (j0 + cs0.length) ∧ v = some (.ref p0) ∧ so = [] ∧ Keep h0 h [p3, p0] ∧ (∀ (O n d : String) (w : Value), Fld Z h0 p0 O n d w → RoadKit.slotOf Z O n d ≠ RoadKit.slotOf Z "java/lang/AbstractStringBuilder" "count" "I" → Fld Z h p0 O n d w) ∧ Arv Z h p3 d1 .byte (Int32.ofNat j1) ((cs1 ++ cs0).map b8) (.int 0) ∧ Fld Z h p0 "java/lang/AbstractStringBuilder" "count" "I" (.int (Int32.ofNat (j0 + cs0.length))) ∧ Exa Z h p0 "java/lang/StringBuilder" ∧ Fld Z h p0 "java/lang/AbstractStringBuilder" "value" "[B" (.ref p3) ∧ Fld Z h p0 "java/lang/AbstractStringBuilder" "coder" "B" (.int 0))) := by
 refine Met.of (EWl V) (by first | decide +kernel | rfl) hO (L0 := #[.val (.ref p0), .val (.ref p1), .unset]) rfl ?_
 intro p e s m below meth c T H
 refine G.aN H D51_0 (J := 1) rfl rfl rfl ?_
 refine G.ifnonnullYes H D51_1 (by decide) (J := 9) rfl ?_
 refine G.aN H D51_9 (J := 10) rfl rfl rfl ?_
 refine G.cV H (m62 V p1 p2 d0 cs0 h0 H.old (by omega) f1) (wq V 163 rfl) (wd106 V) (nf_sel (wd108 V)) (wd108 V) (wd107 V) (wd11 V) (wd109 V) f0 [] [] 0 13 (lenOf (pd_11) rfl) D51_10 all0 (by decide) ?_
 rintro T1 h1_ _ _ H1 ⟨rfl, rfl, rfl⟩
 show Go _ _ _ _ (T1.setTop (mkF m 13 _ [(.int (Int32.ofNat (cs0.length)))]))
 refine G.sN H1 (L' := #[.val (.ref p0), .val (.ref p1), .val (.int (Int32.ofNat (cs0.length)))]) D51_13 (J := 14) rfl rfl ?_
 refine G.aN H1 D51_14 (J := 15) rfl rfl rfl ?_
 refine G.aN H1 D51_15 (J := 16) rfl rfl rfl ?_
 refine G.getF H1 (wd80 V) Via.refl f3 D51_16 (J := 19) rfl ?_
 intro T5 H6
 refine G.iN H6 D51_19 (J := 20) rfl rfl ?_
 refine G.iadd H6 D51_20 (J := 21) rfl ?_
 rw [show ((Int32.ofNat j0) + (Int32.ofNat (cs0.length)) : Int32) = (Int32.ofNat (j0 + cs0.length)) from own_addN j0 cs0.length]
 refine G.callV H6 (m64 V p0 (j0 + cs0.length) p3 d1 j1 cs1 h0 H6.old (by omega) (by omega) f8 (by omega) cp10 (by omega) f9 f13 f5 (by omega) (by omega) g16) (wq V 139 rfl) (decl_of (wq V 140 rfl) (wq V 143 rfl)) (nf_sel (wq V 142 rfl)) (wq V 142 rfl) (wq V 140 rfl) (wd46 V) (wq V 143 rfl) (by decide) f5 (argsL := [(.int (Int32.ofNat (j0 + cs0.length)))]) (rest := []) (W := 0) rfl rfl (lenOf (pd_0) rfl) rfl rfl D51_21 (J := 24) rfl (by decide) (by decide) (by decide) (by decide) all0 ?_
 intro T7 h7_ v8 s9 H7 Q10
 rcases Q10 with ⟨a11, k12, c13, rfl, rfl, K14, g15, U16, F17, F18, F19, F20, F21⟩ | ⟨c22, rfl, rfl, rfl⟩
 ·
  have na11 := Nat.le_trans H1.le g15
  show Go _ _ _ _ (T7.setTop (mkF m 24 _ []))
  refine G.aN H7 D51_24 (J := 25) rfl rfl rfl ?_
  refine G.aN H7 D51_25 (J := 26) rfl rfl rfl ?_
  have F23 := (U16 "java/lang/AbstractStringBuilder" "count" "I" (.int (Int32.ofNat j0)) f3 (slot_ne (Or.inl (wd81 V)) (Or.inl (wd51 V)) (by decide) (t := .int) (t' := (.array .byte)) (by decide) (by decide)))
  refine G.getF H7 (wd80 V) Via.refl F23 D51_26 (J := 29) rfl ?_
  intro T24 H25
  refine G.aN H25 D51_29 (J := 30) rfl rfl rfl ?_
  have F26 := (Exa.keep f0 K14)
  have N27 : p1 ≠ p0 := Exa.ne F26 F19 (by decide)
  have N28 : p2 ≠ p0 := Ne.symm (Exa.neArv f5 f1.2.2.2.1 (wd37 V))
  have F29 := (Str.keep f1 K14 (ninS N27 nin0) (ninS N28 nin0))
  refine G.callV H25 (m67 V p0 j0 p1 p2 d0 cs0 a11 k12 (j1 + (j1 + 2)) (([] : List Int32) ++ cs1) h7_ H25.old (by omega) F19 F18 F26 (by omega) F29 F17 (by omega) (by simp only [qa, qc, qn] <;> omega) F20 (by omega) (by simp only [qa, qc, qn] <;> omega) na11) (wq V 164 rfl) (decl_of (wq V 165 rfl) (wq V 168 rfl)) (nf_sel (wq V 167 rfl)) (wq V 167 rfl) (wq V 165 rfl) (wd46 V) (wq V 168 rfl) (by decide) F19 (argsL := [(.int (Int32.ofNat j0)), .ref p1]) (rest := []) (W := 0) rfl rfl (lenOf (pd_37) rfl) rfl rfl D51_30 (J := 33) rfl (by decide) (by decide) (by decide) (by decide) (allS (mG (i := 0) rfl) all0) ?_
  rintro T30 h30_ _ _ H30 ⟨rfl, rfl, K34, F35⟩
  show Go _ _ _ _ (T30.setTop (mkF m 33 _ []))
  refine G.aN H30 D51_33 (J := 34) rfl rfl rfl ?_
  refine G.dup H30 D51_34 (J := 35) rfl rfl ?_
  have N36 : p0 ≠ a11 := Exa.neArv (Exa.keep F19 K34) F35 (wd37 V)
  have F37 := (Fld.keep F23 K34 (ninS N36 nin0))
  refine G.getF H30 (wd80 V) Via.refl F37 D51_35 (J := 38) rfl ?_
  intro T38 H39
  refine G.iN H39 D51_38 (J := 39) rfl rfl ?_
  refine G.iadd H39 D51_39 (J := 40) rfl ?_
  rw [show ((Int32.ofNat j0) + (Int32.ofNat (cs0.length)) : Int32) = (Int32.ofNat (j0 + cs0.length)) from own_addN j0 cs0.length]
  have F40 := (Exa.keep F19 K34)
  refine G.putF H39 (wd80 V) Via.refl F37 F40 (Or.inl (wd81 V)) (wd37 V) (ty := .int) (by decide) rfl rfl g16 (Sf.exa F40) D51_40 (J := 43) rfl ?_
  intro T41 h41_ H41 W42
  have F43 : Fld Z h41_ p0 "java/lang/AbstractStringBuilder" "count" "I" (.int (Int32.ofNat (j0 + cs0.length))) := Fld.same W42 F37
  refine G.aN H41 D51_43 (J := 44) rfl rfl rfl ?_
  have F44 := (Exa.wr W42 F40)
  have F45 := (Fld.other W42 (Fld.keep F17 K34 (ninS N36 nin0)) (Or.inr (slot_ne (Or.inl (wd51 V)) (Or.inl (wd81 V)) (by decide) (t := (.array .byte)) (t' := .int) (by decide) (by decide))))
  have F46 := (Fld.other W42 (Fld.keep F18 K34 (ninS N36 nin0)) (Or.inr (slot_ne (Or.inl (wd53 V)) (Or.inl (wd81 V)) (by decide) (t := .byte) (t' := .int) (by decide) (by decide))))
  have F47 := (Arv.other F35 W42 (Ne.symm N36))
  have K48 : Keep h7_ h41_ [a11, p0] := (Keep.wr (Keep.trans (Keep.refl h7_ [a11, p0]) K34 (allS (Or.inl (mG (i := 0) rfl)) all0)) W42 (Or.inl (mG (i := 1) rfl)))
  have F49 := (Exa.keep F21 K48)
  have K50 : Keep h0 h41_ [p0] := (Keep.wr (Keep.trans (Keep.trans (Keep.refl h0 [p0]) K14 (allS (Or.inl (mG (i := 0) rfl)) all0)) K34 (allS (Or.inr g15) all0)) W42 (Or.inl (mG (i := 0) rfl)))
  exact G.retA H41 (t := (.object "java/lang/AbstractStringBuilder")) rfl rfl rfl D51_44 (so := [a11]) (allS (mG (i := 0) rfl) all0) (by decide) (by decide) (Or.inl ⟨a11, k12, c13, rfl, rfl, K50, g15, (fun O n d w F hn0 hn1 => (Fld.other W42 (Fld.keep (U16 O n d w F hn0) K34 (ninS N36 nin0)) (Or.inr hn1))), F43, F44, F45, F46, F47, F49⟩)
 ·
  show Go _ _ _ _ (T7.setTop (mkF m 24 _ []))
  refine G.aN H7 D51_24 (J := 25) rfl rfl rfl ?_
  refine G.aN H7 D51_25 (J := 26) rfl rfl rfl ?_
  refine G.getF H7 (wd80 V) Via.refl f3 D51_26 (J := 29) rfl ?_
  intro T51 H52
  refine G.aN H52 D51_29 (J := 30) rfl rfl rfl ?_
  refine G.callV H52 (m69 V p0 j0 p1 p2 d0 cs0 p3 d1 j1 cs1 h0 H52.old (by omega) f5 f13 f0 (by omega) f1 f8 (by omega) cp10 (by omega) f9 (by omega) (by omega) g18) (wq V 164 rfl) (decl_of (wq V 165 rfl) (wq V 168 rfl)) (nf_sel (wq V 167 rfl)) (wq V 167 rfl) (wq V 165 rfl) (wd46 V) (wq V 168 rfl) (by decide) f5 (argsL := [(.int (Int32.ofNat j0)), .ref p1]) (rest := []) (W := 0) rfl rfl (lenOf (pd_37) rfl) rfl rfl D51_30 (J := 33) rfl (by decide) (by decide) (by decide) (by decide) (allS (mG (i := 0) rfl) all0) ?_
  rintro T53 h53_ _ _ H53 ⟨rfl, rfl, K57, F58⟩
  show Go _ _ _ _ (T53.setTop (mkF m 33 _ []))
  refine G.aN H53 D51_33 (J := 34) rfl rfl rfl ?_
  refine G.dup H53 D51_34 (J := 35) rfl rfl ?_
  have N59 : p0 ≠ p3 := Exa.neArv (Exa.keep f5 K57) F58 (wd37 V)
  have F60 := (Fld.keep f3 K57 (ninS N59 nin0))
  refine G.getF H53 (wd80 V) Via.refl F60 D51_35 (J := 38) rfl ?_
  intro T61 H62
  refine G.iN H62 D51_38 (J := 39) rfl rfl ?_
  refine G.iadd H62 D51_39 (J := 40) rfl ?_
  rw [show ((Int32.ofNat j0) + (Int32.ofNat (cs0.length)) : Int32) = (Int32.ofNat (j0 + cs0.length)) from own_addN j0 cs0.length]
  have F63 := (Exa.keep f5 K57)
  refine G.putF H62 (wd80 V) Via.refl F60 F63 (Or.inl (wd81 V)) (wd37 V) (ty := .int) (by decide) rfl rfl g16 (Sf.exa F63) D51_40 (J := 43) rfl ?_
  intro T64 h64_ H64 W65
  have F66 : Fld Z h64_ p0 "java/lang/AbstractStringBuilder" "count" "I" (.int (Int32.ofNat (j0 + cs0.length))) := Fld.same W65 F60
  refine G.aN H64 D51_43 (J := 44) rfl rfl rfl ?_
  have F67 := (Arv.other F58 W65 (Ne.symm N59))
  have F68 := (Exa.wr W65 F63)
  have F69 := (Fld.other W65 (Fld.keep f8 K57 (ninS N59 nin0)) (Or.inr (slot_ne (Or.inl (wd51 V)) (Or.inl (wd81 V)) (by decide) (t := (.array .byte)) (t' := .int) (by decide) (by decide))))
  have F70 := (Fld.other W65 (Fld.keep f13 K57 (ninS N59 nin0)) (Or.inr (slot_ne (Or.inl (wd53 V)) (Or.inl (wd81 V)) (by decide) (t := .byte) (t' := .int) (by decide) (by decide))))
  have K71 : Keep h0 h64_ [p3, p0] := (Keep.wr (Keep.trans (Keep.refl h0 [p3, p0]) K57 (allS (Or.inl (mG (i := 0) rfl)) all0)) W65 (Or.inl (mG (i := 1) rfl)))
  exact G.retA H64 (t := (.object "java/lang/AbstractStringBuilder")) rfl rfl rfl D51_44 (so := []) all0 (by decide) (by decide) (Or.inr ⟨c22, rfl, rfl, K71, (fun O n d w F hn0 => (Fld.other W65 (Fld.keep F K57 (ninS N59 nin0)) (Or.inr hn0))), F67, F66, F68, F69, F70⟩)
theorem m71 (V : Env1 Z a0 n0 uu0 uu1 uu2 uu3 uu4) (p0 : Addr) (p1 : Addr) (p2 : Addr) (j0 : Nat) (d0 : ClassId) (j1 : Nat) (cs0 : List Int32) (p3 : Addr) (d1 : ClassId) (cs1 : List Int32) (h0 : Heap) (hO : Old Z n0 h0) (f0 : Fld Z h0 p0 "java/lang/AbstractStringBuilder" "value" "[B" (.ref p2)) (ln1 : j0 ≤ 4000) (f1 : Fld Z h0 p0 "java/lang/AbstractStringBuilder" "count" "I" (.int (Int32.ofNat j0))) (ln3 : j1 ≤ 4000) (cp4 : j1 = 16 ∨ j1 = 34 ∨ j1 = 70) (ln5 : cs0.length ≤ 4000) (f3 : Arv Z h0 p2 d0 .byte (Int32.ofNat j1) (cs0.map b8) (.int 0)) (ln7 : j0 = cs0.length) (ln8 : cs0.length ≤ j1) (ln9 : cs0.length ≤ 39) (ln10 : cs1.length ≤ 4000) (f10 : Str Z h0 p1 p3 d1 cs1) (ln12 : cs1.length ≤ 2) (f13 : Exa Z h0 p0 "java/lang/StringBuilder") (f14 : Fld Z h0 p0 "java/lang/AbstractStringBuilder" "coder" "B" (.int 0)) (g15 : n0 ≤ p0) (g16 : n0 ≤ p2) :
  Met Z a0 ELs True n0 l ⟨"java/lang/StringBuilder", "append", "(Ljava/lang/String;)Ljava/lang/StringBuilder;"⟩ Y63 2 (some (.object "java/lang/StringBuilder")) ⟨5, 1, 70, 83⟩ #[.ref p0, .ref p1] h0 [p2] (fun v h so => (∃ a5 : Addr, ∃ k6 : ClassId, (j1 : Nat) < (j0 + cs1.length) ∧ v = some (.ref p0) ∧ so = [a5] ∧ Keep h0 h [p0] ∧ h0.size ≤ a5 ∧ (∀ (O n d : String) (w : Value), Fld Z h0 p0 O n d w → RoadKit.slotOf Z O n d ≠ RoadKit.slotOf Z "java/lang/AbstractStringBuilder" "value" "[B" → RoadKit.slotOf Z O n d ≠ RoadKit.slotOf Z "java/lang/AbstractStringBuilder" "count" "I" → Fld Z h p0 O n d w) ∧ Fld Z h p0 "java/lang/AbstractStringBuilder" "value" "[B" (.ref a5) ∧ Fld Z h p0 "java/lang/AbstractStringBuilder" "count" "I" (.int (Int32.ofNat (j0 + cs1.length))) ∧ Exa Z h p0 "java/lang/StringBuilder" ∧ Fld Z h p0 "java/lang/AbstractStringBuilder" "coder" "B" (.int 0) ∧ Arv Z h a5 k6 .byte (Int32.ofNat (j1 + (j1 + 2))) (((([] : List Int32) ++ cs0) ++ cs1).map b8) (.int 0) ∧ Exa Z h a5 "[B") ∨ (¬ (j1 : Nat) < (j0 + cs1.length) ∧ v = some (.ref p0) ∧ so = [] ∧ Keep h0 h [p2, p0] ∧ (∀ (O n d : String) (w : Value), Fld Z h0 p0 O n d w → RoadKit.slotOf Z O n d ≠ RoadKit.slotOf Z "java/lang/AbstractStringBuilder" "count" "I" → Fld Z h p0 O n d w) ∧ Arv Z h p2 d0 .byte (Int32.ofNat j1) ((cs0 ++ cs1).map b8) (.int 0) ∧ Fld Z h p0 "java/lang/AbstractStringBuilder" "value" "[B" (.ref p2) ∧ Fld Z h p0 "java/lang/AbstractStringBuilder" "count" "I" (.int (Int32.ofNat (j0 + cs1.length))) ∧ Exa Z h p0 "java/lang/StringBuilder" ∧ Fld Z h p0 "java/lang/AbstractStringBuilder" "coder" "B" (.int 0))) := by
 refine Met.of (EWl V) (by first | decide +kernel | rfl) hO (L0 := #[.val (.ref p0), .val (.ref p1)]) rfl ?_
 intro p e s m below meth c T H
 refine G.aN H D48_0 (J := 1) rfl rfl rfl ?_
 refine G.aN H D48_1 (J := 2) rfl rfl rfl ?_
 refine G.callSup H (m70 V p0 p1 p3 d1 cs1 j0 p2 d0 j1 cs0 h0 H.old f10.1 (by omega) f10 (by omega) f1 f13 (by omega) (by omega) f0 (by omega) cp4 (by omega) f3 f14 (by omega) (by omega) g15 (by omega) g16) (wq V 159 rfl) (same_of (wq V 161 rfl) (wq V 69 rfl) rfl (by decide)) (wq V 160 rfl) (wq V 78 rfl) (by decide) (wd46 V) (wq V 162 rfl) (a := p0) (Ins.self f13) (argsL := [.ref p1]) (rest := []) (W := 0) rfl rfl (lenOf (pd_38) rfl) rfl rfl D48_2 (J := 5) rfl (by decide) (by decide) (by decide) (by decide) (allS (mG (i := 0) rfl) all0) ?_
 intro T1 h1_ v2 s3 H1 Q4
 rcases Q4 with ⟨a5, k6, c7, rfl, rfl, K8, g9, U10, F11, F12, F13, F14, F15, F16⟩ | ⟨c17, rfl, rfl, K18, U19, F20, F21, F22, F23, F24⟩
 ·
  have na5 := Nat.le_trans H.le g9
  show Go _ _ _ _ (T1.setTop (mkF m 5 _ [.ref p0]))
  refine G.pop H1 D48_5 (J := 6) rfl rfl ?_
  refine G.aN H1 D48_6 (J := 7) rfl rfl rfl ?_
  have K25 : Keep h0 h1_ [p0] := (Keep.trans (Keep.refl h0 [p0]) K8 (allS (Or.inl (mG (i := 0) rfl)) all0))
  exact G.retA H1 (t := (.object "java/lang/StringBuilder")) rfl rfl rfl D48_7 (so := [a5]) (allS (mG (i := 0) rfl) all0) (by decide) (by decide) (Or.inl ⟨a5, k6, c7, rfl, rfl, K25, g9, (fun O n d w F hn0 hn1 => (U10 O n d w F hn0 hn1)), F13, F11, F12, F14, F15, F16⟩)
 ·
  show Go _ _ _ _ (T1.setTop (mkF m 5 _ [.ref p0]))
  refine G.pop H1 D48_5 (J := 6) rfl rfl ?_
  refine G.aN H1 D48_6 (J := 7) rfl rfl rfl ?_
  have K26 : Keep h0 h1_ [p2, p0] := (Keep.trans (Keep.refl h0 [p2, p0]) K18 (allS (Or.inl (mG (i := 0) rfl)) (allS (Or.inl (mG (i := 1) rfl)) all0)))
  exact G.retA H1 (t := (.object "java/lang/StringBuilder")) rfl rfl rfl D48_7 (so := []) all0 (by decide) (by decide) (Or.inr ⟨c17, rfl, rfl, K26, (fun O n d w F hn0 => (U19 O n d w F hn0)), F20, F23, F21, F22, F24⟩)
theorem m72 (V : Env1 Z a0 n0 uu0 uu1 uu2 uu3 uu4) (p0 : Addr) (p1 : Addr) (d0 : ClassId) (x0 : Int32) (h0 : Heap) (hO : Old Z n0 h0) (f0 : Str Z h0 p0 p1 d0 [x0]) :
  Met Z a0 ELs True n0 l ⟨"java/lang/String", "coder", "()B"⟩ Y44 1 (some .byte) ⟨0, 0, 0, 0⟩ #[.ref p0] h0 [] (fun v h so => (v = some (.int 0) ∧ so = [] ∧ h0 = h)) := by
 refine Met.of (EWl V) (by first | decide +kernel | rfl) hO (L0 := #[.val (.ref p0)]) rfl ?_
 intro p e s m below meth c T H
 refine G.getS H (wd115 V) Via.refl (Sta.ext H.old.2 (hv8 V)) D10_0 (J := 3) rfl ?_
 intro T1 H2
 refine G.ifNo H2 D10_3 (J := 6) rfl (XT.i0_eq_f (hv9 V)) ?_
 refine G.aN H2 D10_6 (J := 7) rfl rfl rfl ?_
 refine G.getF H2 (wd30 V) Via.refl f0.2.1 D10_7 (J := 10) rfl ?_
 intro T3 H4
 refine G.go H4 D10_10 (by decide) (J := 14) rfl ?_
 exact G.retN H4 (t := .byte) rfl (by decide) D10_14 (so := []) all0 (by decide) (by decide) ⟨rfl, rfl, rfl⟩
theorem m73 (V : Env1 Z a0 n0 uu0 uu1 uu2 uu3 uu4) (p0 : Addr) (p1 : Addr) (d0 : ClassId) (x0 : Int32) (h0 : Heap) (hO : Old Z n0 h0) (f0 : Str Z h0 p0 p1 d0 [x0]) :
  Met Z a0 ELs True n0 l ⟨"java/lang/String", "length", "()I"⟩ Y40 1 (some .int) ⟨1, 0, 0, 13⟩ #[.ref p0] h0 [] (fun v h so => (v = some (.int 1) ∧ so = [] ∧ h0 = h)) := by
 refine Met.of (EWl V) (by first | decide +kernel | rfl) hO (L0 := #[.val (.ref p0)]) rfl ?_
 intro p e s m below meth c T H
 refine G.aN H D18_0 (J := 1) rfl rfl rfl ?_
 refine G.getF H (wd29 V) Via.refl f0.2.2.1 D18_1 (J := 4) rfl ?_
 intro T1 H2
 have A3 : Arv Z h0 p1 d0 .byte 1 [(.int (x0.toInt8.toInt32))] (.int 0) := f0.2.2.2.1
 refine G.aR H2 A3 D18_4 (J := 5) rfl ?_
 refine G.aN H2 D18_5 (J := 6) rfl rfl rfl ?_
 refine G.cV H2 (m72 V p0 p1 d0 x0 h0 H2.old f0) (wd110 V) (wd111 V) (nf_sel (wd113 V)) (wd113 V) (wd112 V) (wd11 V) (wd114 V) f0.1 [] [.int 1] 1 9 (lenOf (pd_10) rfl) D18_6 all0 (by decide) ?_
 rintro T4 h4_ _ _ H4 ⟨rfl, rfl, rfl⟩
 show Go _ _ _ _ (T4.setTop (mkF m 9 _ [.int 0, .int 1]))
 refine G.ishr H4 D18_9 (J := 10) rfl ?_
 show Go _ _ _ _ (T4.setTop (mkF m 10 _ [.int 1]))
 exact G.retI H4 rfl D18_10 (so := []) all0 (by decide) (by decide) ⟨rfl, rfl, rfl⟩
theorem m74 (V : Env1 Z a0 n0 uu0 uu1 uu2 uu3 uu4) (p0 : Addr) (p1 : Addr) (d0 : ClassId) (x0 : Int32) (h0 : Heap) (hO : Old Z n0 h0) (f0 : Str Z h0 p0 p1 d0 [x0]) :
  Met Z a0 ELs True n0 l ⟨"java/lang/String", "isLatin1", "()Z"⟩ Y35 1 (some .boolean) ⟨0, 0, 0, 0⟩ #[.ref p0] h0 [] (fun v h so => (v = some (.int 1) ∧ so = [] ∧ h0 = h)) := by
 refine Met.of (EWl V) (by first | decide +kernel | rfl) hO (L0 := #[.val (.ref p0)]) rfl ?_
 intro p e s m below meth c T H
 refine G.getS H (wd115 V) Via.refl (Sta.ext H.old.2 (hv8 V)) D11_0 (J := 3) rfl ?_
 intro T1 H2
 refine G.ifNo H2 D11_3 (J := 6) rfl (XT.i0_eq_f (hv9 V)) ?_
 refine G.aN H2 D11_6 (J := 7) rfl rfl rfl ?_
 refine G.getF H2 (wd30 V) Via.refl f0.2.1 D11_7 (J := 10) rfl ?_
 intro T3 H4
 refine G.ifNo H4 D11_10 (J := 13) rfl (by decide) ?_
 refine G.iC H4 D11_13 (J := 14) rfl (v := 1) rfl ?_
 refine G.go H4 D11_14 (by decide) (J := 18) rfl ?_
 exact G.retN H4 (t := .boolean) rfl (by decide) D11_18 (so := []) all0 (by decide) (by decide) ⟨rfl, rfl, rfl⟩
theorem m75 (V : Env1 Z a0 n0 uu0 uu1 uu2 uu3 uu4)  (h0 : Heap) (hO : Old Z n0 h0)  :
  Met Z a0 ELs True n0 l ⟨"jdk/internal/util/Preconditions", "checkIndex", "(IILjava/util/function/BiFunction;)I"⟩ Y46 3 (some .int) ⟨0, 0, 0, 0⟩ #[.int 0, .int 1, uu3] h0 [] (fun v h so => (v = some (.int 0) ∧ so = [] ∧ h0 = h)) := by
 refine Met.of (EWl V) (by first | decide +kernel | rfl) hO (L0 := #[.val (.int 0), .val (.int 1), .val uu3]) (by rcases XT.refc (hv11 V) with rfl | ⟨_, rfl⟩ <;> rfl) ?_
 intro p e s m below meth c T H
 refine G.iN H D4_0 (J := 1) rfl rfl ?_
 refine G.ifNo H D4_1 (J := 4) rfl (by decide) ?_
 refine G.iN H D4_4 (J := 5) rfl rfl ?_
 refine G.iN H D4_5 (J := 6) rfl rfl ?_
 refine G.cY H D4_6 (by decide) (by decide) (J := 16) rfl ?_
 refine G.iN H D4_16 (J := 17) rfl rfl ?_
 exact G.retI H rfl D4_17 (so := []) all0 (by decide) (by decide) ⟨rfl, rfl, rfl⟩
theorem m76 (V : Env1 Z a0 n0 uu0 uu1 uu2 uu3 uu4)  (h0 : Heap) (hO : Old Z n0 h0)  :
  Met Z a0 ELs True n0 l ⟨"java/lang/String", "checkIndex", "(II)V"⟩ Y50 2 none ⟨1, 0, 0, 14⟩ #[.int 0, .int 1] h0 [] (fun v h so => (v = none ∧ so = [] ∧ h0 = h)) := by
 refine Met.of (EWl V) (by first | decide +kernel | rfl) hO (L0 := #[.val (.int 0), .val (.int 1)]) rfl ?_
 intro p e s m below meth c T H
 refine G.iN H D12_0 (J := 1) rfl rfl ?_
 refine G.iN H D12_1 (J := 2) rfl rfl ?_
 refine G.getS H (wq V 197 rfl) Via.refl (Sta.ext H.old.2 (hv10 V)) D12_2 (J := 5) rfl ?_
 intro T1 H2
 refine G.cS H2 (m75 V h0 H2.old) (wq V 199 rfl) (wq V 200 rfl) (wq V 198 rfl) (wq V 201 rfl) [.int 0, .int 1, uu3] [] 0 8 (lenOf (pd_40) rfl) D12_5 all0 (by decide) ?_
 rintro T3 h3_ _ _ H3 ⟨rfl, rfl, rfl⟩
 show Go _ _ _ _ (T3.setTop (mkF m 8 _ [.int 0]))
 refine G.pop H3 D12_8 (J := 9) rfl rfl ?_
 exact G.retV H3 rfl D12_9 (so := []) all0 (by decide) (by decide) ⟨rfl, rfl, rfl⟩
theorem m77 (V : Env1 Z a0 n0 uu0 uu1 uu2 uu3 uu4) (p0 : Addr) (d0 : ClassId) (x0 : Int32) (h0 : Heap) (hO : Old Z n0 h0) (f0 : Arv Z h0 p0 d0 .byte 1 [(.int (x0.toInt8.toInt32))] (.int 0)) (r1 : ¬ x0 < 0 ∧ ¬ 255 < x0) :
  Met Z a0 ELs True n0 l ⟨"java/lang/StringLatin1", "charAt", "([BI)C"⟩ Y34 2 (some .char) ⟨2, 0, 0, 27⟩ #[.ref p0, .int 0] h0 [] (fun v h so => (v = some (.int x0) ∧ so = [] ∧ h0 = h)) := by
 refine Met.of (EWl V) (by first | decide +kernel | rfl) hO (L0 := #[.val (.ref p0), .val (.int 0)]) rfl ?_
 intro p e s m below meth c T H
 refine G.iN H D24_0 (J := 1) rfl rfl ?_
 refine G.aN H D24_1 (J := 2) rfl rfl rfl ?_
 refine G.aR H f0 D24_2 (J := 3) rfl ?_
 refine G.cS H (m76 V h0 H.old) (wq V 194 rfl) (wq V 195 rfl) (wd11 V) (wq V 196 rfl) [.int 0, .int 1] [] 0 6 (lenOf (pd_28) rfl) D24_3 all0 (by decide) ?_
 rintro T1 h1_ _ _ H1 ⟨rfl, rfl, rfl⟩
 show Go _ _ _ _ (T1.setTop (mkF m 6 _ []))
 refine G.aN H1 D24_6 (J := 7) rfl rfl rfl ?_
 refine G.iN H1 D24_7 (J := 8) rfl rfl ?_
 refine G.baloadG H1 f0 (j := 0) (v := (.int (x0.toInt8.toInt32))) (by decide) rfl D24_8 (J := 9) rfl ?_
 refine G.sP H1 D24_9 (J := 12) rfl (v := 255) rfl ?_
 refine G.iand H1 D24_12 (J := 13) rfl ?_
 rw [own_b8and r1]
 refine G.i2c H1 (y := x0) D24_13 (J := 14) rfl (own_c16 (own_u16 r1)) ?_
 exact G.retN H1 (t := .char) rfl (by decide) D24_14 (so := []) all0 (by decide) (by decide) ⟨(congrArg (fun q => some (Value.int q)) (own_narC (own_u16 r1))), rfl, rfl⟩
theorem m78 (V : Env1 Z a0 n0 uu0 uu1 uu2 uu3 uu4) (p0 : Addr) (p1 : Addr) (d0 : ClassId) (x0 : Int32) (h0 : Heap) (hO : Old Z n0 h0) (f0 : Exa Z h0 p0 "java/lang/String") (f1 : Str Z h0 p0 p1 d0 [x0]) (r2 : ¬ x0 < 0 ∧ ¬ 255 < x0) :
  Met Z a0 ELs True n0 l ⟨"java/lang/String", "charAt", "(I)C"⟩ Y28 2 (some .char) ⟨3, 0, 0, 40⟩ #[.ref p0, .int 0] h0 [] (fun v h so => (v = some (.int x0) ∧ so = [] ∧ h0 = h)) := by
 refine Met.of (EWl V) (by first | decide +kernel | rfl) hO (L0 := #[.val (.ref p0), .val (.int 0)]) rfl ?_
 intro p e s m below meth c T H
 refine G.aN H D19_0 (J := 1) rfl rfl rfl ?_
 refine G.cV H (m74 V p0 p1 d0 x0 h0 H.old f1) (wq V 186 rfl) (wq V 187 rfl) (nf_sel (wd189 V)) (wd189 V) (wq V 188 rfl) (wd11 V) (wq V 190 rfl) f0 [] [] 0 4 (lenOf (pd_1) rfl) D19_1 all0 (by decide) ?_
 rintro T1 h1_ _ _ H1 ⟨rfl, rfl, rfl⟩
 show Go _ _ _ _ (T1.setTop (mkF m 4 _ [.int 1]))
 refine G.ifNo H1 D19_4 (J := 7) rfl (by decide) ?_
 refine G.aN H1 D19_7 (J := 8) rfl rfl rfl ?_
 refine G.getF H1 (wd29 V) Via.refl f1.2.2.1 D19_8 (J := 11) rfl ?_
 intro T5 H6
 refine G.iN H6 D19_11 (J := 12) rfl rfl ?_
 have A7 : Arv Z h0 p1 d0 .byte 1 [(.int (x0.toInt8.toInt32))] (.int 0) := f1.2.2.2.1
 refine G.cS H6 (m77 V p1 d0 x0 h0 H6.old A7 r2) (wq V 191 rfl) (wq V 192 rfl) (wd121 V) (wq V 193 rfl) [.ref p1, .int 0] [] 0 15 (lenOf (pd_23) rfl) D19_12 all0 (by decide) ?_
 rintro T8 h8_ _ _ H8 ⟨rfl, rfl, rfl⟩
 show Go _ _ _ _ (T8.setTop (mkF m 15 _ [.int x0]))
 exact G.retN H8 (t := .char) rfl (by decide) D19_15 (so := []) all0 (by decide) (by decide) ⟨(congrArg (fun q => some (Value.int q)) (own_narC (own_u16 r2))), rfl, rfl⟩
theorem m79 (V : Env1 Z a0 n0 uu0 uu1 uu2 uu3 uu4) (p0 : Addr) (p1 : Addr) (p2 : Addr) (d0 : ClassId) (x0 : Int32) (p3 : Addr) (d1 : ClassId) (h0 : Heap) (hO : Old Z n0 h0) (f0 : Exa Z h0 p0 "java/lang/String") (f1 : Str Z h0 p0 p2 d0 [x0]) (r2 : ¬ x0 < 0 ∧ ¬ 255 < x0) (f3 : Exa Z h0 p1 "java/lang/String") (f4 : Str Z h0 p1 p3 d1 []) :
  Met Z a0 ELs True n0 l ⟨"com/example/schema_to_form/schematoform/server/PathSegments", "isUnreserved", "(Ljava/lang/String;Ljava/lang/String;)Z"⟩ Y14 4 (some .boolean) ⟨4, 0, 0, 55⟩ #[.ref p0, .ref p1] h0 [] (fun v h so => (¬ (unrB x0) = 0 ∧ v = some (.int 1) ∧ so = [] ∧ h0 = h) ∨ (v = some (.int 0) ∧ so = [] ∧ h0 = h)) := by
 refine Met.of (EWl V) (by first | decide +kernel | rfl) hO (L0 := #[.val (.ref p0), .val (.ref p1), .unset, .unset]) rfl ?_
 intro p e s m below meth c T H
 refine G.iC H D69_0 (J := 1) rfl (v := 0) rfl ?_
 refine G.sN H (L' := #[.val (.ref p0), .val (.ref p1), .val (.int 0), .unset]) D69_1 (J := 2) rfl rfl ?_
 refine G.iN H D69_2 (J := 3) rfl rfl ?_
 refine G.aN H D69_3 (J := 4) rfl rfl rfl ?_
 refine G.cV H (m73 V p0 p2 d0 x0 h0 H.old f1) (wq V 153 rfl) (wd106 V) (nf_sel (wd108 V)) (wd108 V) (wd107 V) (wd11 V) (wd109 V) f0 [] [.int 0] 1 7 (lenOf (pd_11) rfl) D69_4 all0 (by decide) ?_
 rintro T1 h1_ _ _ H1 ⟨rfl, rfl, rfl⟩
 show Go _ _ _ _ (T1.setTop (mkF m 7 _ [.int 1, .int 0]))
 refine G.cN H1 D69_7 (J := 10) rfl (by decide) ?_
 refine G.aN H1 D69_10 (J := 11) rfl rfl rfl ?_
 refine G.iN H1 D69_11 (J := 12) rfl rfl ?_
 refine G.cV H1 (m78 V p0 p2 d0 x0 h0 H1.old f0 f1 r2) (wq V 181 rfl) (wq V 182 rfl) (nf_sel (wd184 V)) (wd184 V) (wq V 183 rfl) (wd11 V) (wq V 185 rfl) f0 [.int 0] [] 0 15 (lenOf (pd_41) rfl) D69_12 all0 (by decide) ?_
 rintro T5 h5_ _ _ H5 ⟨rfl, rfl, rfl⟩
 show Go _ _ _ _ (T5.setTop (mkF m 15 _ [.int x0]))
 refine G.sN H5 (L' := #[.val (.ref p0), .val (.ref p1), .val (.int 0), .val (.int x0)]) D69_15 (J := 16) rfl rfl ?_
 refine G.iN H5 D69_16 (J := 17) rfl rfl ?_
 refine G.cS H5 (m14 V x0 h0 H5.old) (wq V 202 rfl) (wq V 203 rfl) (wd34 V) (wq V 204 rfl) [.int x0] [] 0 20 (lenOf (pd_9) rfl) D69_17 all0 (by decide) ?_
 rintro T9 h9_ _ _ H9 ⟨rfl, rfl, r13, rfl⟩
 show Go _ _ _ _ (T9.setTop (mkF m 20 _ [(.int (unrB x0))]))
 by_cases c14 : (unrB x0) = 0
 ·
  refine G.ifNo H9 D69_20 (J := 23) rfl (XT.i0_ne_f c14) ?_
  refine G.aN H9 D69_23 (J := 24) rfl rfl rfl ?_
  refine G.iN H9 D69_24 (J := 25) rfl rfl ?_
  refine G.cV H9 (m23 V p1 x0 p3 d1 h0 H9.old f3 f4) (wq V 205 rfl) (wq V 206 rfl) (nf_sel (wd208 V)) (wd208 V) (wq V 207 rfl) (wd11 V) (wq V 209 rfl) f3 [.int x0] [] 0 28 (lenOf (pd_6) rfl) D69_25 all0 (by decide) ?_
  rintro T15 h15_ _ _ H15 ⟨rfl, rfl, rfl⟩
  show Go _ _ _ _ (T15.setTop (mkF m 28 _ [(.int (-1 : Int32))]))
  refine G.ifNo H15 D69_28 (J := 31) rfl (by decide) ?_
  refine G.iC H15 D69_31 (J := 32) rfl (v := 0) rfl ?_
  exact G.retN H15 (t := .boolean) rfl (by decide) D69_32 (so := []) all0 (by decide) (by decide) (Or.inr ⟨rfl, rfl, rfl⟩)
 ·
  refine G.ifYes H9 D69_20 (XT.i0_ne_t c14) (by decide) (J := 33) rfl ?_
  refine G.iI H9 (v := 1) (L' := #[.val (.ref p0), .val (.ref p1), .val (.int 1), .val (.int x0)]) D69_33 (J := 36) rfl rfl rfl rfl ?_
  refine G.go H9 D69_36 (by decide) (J := 2) rfl ?_
  show Go _ _ _ _ (T9.setTop (mkF m 2 _ []))
  refine G.iN H9 D69_2 (J := 3) rfl rfl ?_
  refine G.aN H9 D69_3 (J := 4) rfl rfl rfl ?_
  refine G.cV H9 (m73 V p0 p2 d0 x0 h0 H9.old f1) (wq V 153 rfl) (wd106 V) (nf_sel (wd108 V)) (wd108 V) (wd107 V) (wd11 V) (wd109 V) f0 [] [.int 1] 1 7 (lenOf (pd_11) rfl) D69_4 all0 (by decide) ?_
  rintro T19 h19_ _ _ H19 ⟨rfl, rfl, rfl⟩
  show Go _ _ _ _ (T19.setTop (mkF m 7 _ [.int 1, .int 1]))
  refine G.cY H19 D69_7 (by decide) (by decide) (J := 39) rfl ?_
  refine G.iC H19 D69_39 (J := 40) rfl (v := 1) rfl ?_
  exact G.retN H19 (t := .boolean) rfl (by decide) D69_40 (so := []) all0 (by decide) (by decide) (Or.inl ⟨c14, rfl, rfl, rfl⟩)
theorem m80 (V : Env1 Z a0 n0 uu0 uu1 uu2 uu3 uu4) (p0 : Addr) (d0 : ClassId) (x0 : Int32) (h0 : Heap) (hO : Old Z n0 h0) (f0 : Arv Z h0 p0 d0 .byte 1 [(.int (x0.toInt8.toInt32))] (.int 0)) :
  Met Z a0 ELs True n0 l ⟨"java/lang/StringCoding", "countPositives", "([BII)I"⟩ Y25 5 (some .int) ⟨0, 0, 0, 0⟩ #[.ref p0, .int 0, .int 1] h0 [] (fun v h so => ((x0.toInt8.toInt32) < 0 ∧ v = some (.int 0) ∧ so = [] ∧ h0 = h) ∨ (¬ (x0.toInt8.toInt32) < 0 ∧ v = some (.int 1) ∧ so = [] ∧ h0 = h)) := by
 refine Met.of (EWl V) (by first | decide +kernel | rfl) hO (L0 := #[.val (.ref p0), .val (.int 0), .val (.int 1), .unset, .unset]) rfl ?_
 intro p e s m below meth c T H
 refine G.iN H D1_0 (J := 1) rfl rfl ?_
 refine G.iN H D1_1 (J := 2) rfl rfl ?_
 refine G.iadd H D1_2 (J := 3) rfl ?_
 show Go _ _ _ _ (T.setTop (mkF m 3 _ [.int 1]))
 refine G.sN H (L' := #[.val (.ref p0), .val (.int 0), .val (.int 1), .val (.int 1), .unset]) D1_3 (J := 4) rfl rfl ?_
 refine G.iN H D1_4 (J := 5) rfl rfl ?_
 refine G.sI H (L' := #[.val (.ref p0), .val (.int 0), .val (.int 1), .val (.int 1), .val (.int 0)]) D1_5 (J := 7) rfl rfl ?_
 refine G.iL H D1_7 (J := 9) rfl rfl ?_
 refine G.iN H D1_9 (J := 10) rfl rfl ?_
 refine G.cN H D1_10 (J := 13) rfl (by decide) ?_
 refine G.aN H D1_13 (J := 14) rfl rfl rfl ?_
 refine G.iL H D1_14 (J := 16) rfl rfl ?_
 refine G.baloadG H f0 (j := 0) (v := (.int (x0.toInt8.toInt32))) (by decide) rfl D1_16 (J := 17) rfl ?_
 by_cases c1 : (x0.toInt8.toInt32) < 0
 ·
  refine G.ifNo H D1_17 (J := 20) rfl (XT.i0_ge_f c1) ?_
  refine G.iL H D1_20 (J := 22) rfl rfl ?_
  refine G.iN H D1_22 (J := 23) rfl rfl ?_
  refine G.isub H D1_23 (J := 24) rfl ?_
  show Go _ _ _ _ (T.setTop (mkF m 24 _ [.int 0]))
  exact G.retI H rfl D1_24 (so := []) all0 (by decide) (by decide) (Or.inl ⟨c1, rfl, rfl, rfl⟩)
 ·
  refine G.ifYes H D1_17 (XT.i0_ge_t c1) (by decide) (J := 25) rfl ?_
  refine G.iI H (v := 1) (L' := #[.val (.ref p0), .val (.int 0), .val (.int 1), .val (.int 1), .val (.int 1)]) D1_25 (J := 28) rfl rfl rfl rfl ?_
  refine G.go H D1_28 (by decide) (J := 7) rfl ?_
  show Go _ _ _ _ (T.setTop (mkF m 7 _ []))
  refine G.iL H D1_7 (J := 9) rfl rfl ?_
  refine G.iN H D1_9 (J := 10) rfl rfl ?_
  refine G.cY H D1_10 (by decide) (by decide) (J := 31) rfl ?_
  refine G.iN H D1_31 (J := 32) rfl rfl ?_
  exact G.retI H rfl D1_32 (so := []) all0 (by decide) (by decide) (Or.inr ⟨c1, rfl, rfl, rfl⟩)
theorem m81 (V : Env1 Z a0 n0 uu0 uu1 uu2 uu3 uu4) (p0 : Addr) (d0 : ClassId) (x0 : Int32) (h0 : Heap) (hO : Old Z n0 h0) (f0 : Arv Z h0 p0 d0 .byte 1 [(.int (x0.toInt8.toInt32))] (.int 0)) :
  Met Z a0 ELs True n0 l ⟨"java/lang/StringCoding", "hasNegatives", "([BII)Z"⟩ Y42 3 (some .boolean) ⟨1, 0, 0, 16⟩ #[.ref p0, .int 0, .int 1] h0 [] (fun v h so => ((x0.toInt8.toInt32) < 0 ∧ v = some (.int 1) ∧ so = [] ∧ h0 = h) ∨ (¬ (x0.toInt8.toInt32) < 0 ∧ v = some (.int 0) ∧ so = [] ∧ h0 = h)) := by
 refine Met.of (EWl V) (by first | decide +kernel | rfl) hO (L0 := #[.val (.ref p0), .val (.int 0), .val (.int 1)]) rfl ?_
 intro p e s m below meth c T H
 refine G.aN H D0_0 (J := 1) rfl rfl rfl ?_
 refine G.iN H D0_1 (J := 2) rfl rfl ?_
 refine G.iN H D0_2 (J := 3) rfl rfl ?_
 refine G.cS H (m80 V p0 d0 x0 h0 H.old f0) (wq V 245 rfl) (wq V 246 rfl) (wq V 243 rfl) (wq V 247 rfl) [.ref p0, .int 0, .int 1] [] 0 6 (lenOf (pd_42) rfl) D0_3 all0 (by decide) ?_
 intro T1 h1_ v2 s3 H1 Q4
 rcases Q4 with ⟨c5, rfl, rfl, rfl⟩ | ⟨c6, rfl, rfl, rfl⟩
 ·
  show Go _ _ _ _ (T1.setTop (mkF m 6 _ [.int 0]))
  refine G.iN H1 D0_6 (J := 7) rfl rfl ?_
  refine G.cN H1 D0_7 (J := 10) rfl (by decide) ?_
  refine G.iC H1 D0_10 (J := 11) rfl (v := 1) rfl ?_
  refine G.go H1 D0_11 (by decide) (J := 15) rfl ?_
  exact G.retN H1 (t := .boolean) rfl (by decide) D0_15 (so := []) all0 (by decide) (by decide) (Or.inl ⟨c5, rfl, rfl, rfl⟩)
 ·
  show Go _ _ _ _ (T1.setTop (mkF m 6 _ [.int 1]))
  refine G.iN H1 D0_6 (J := 7) rfl rfl ?_
  refine G.cY H1 D0_7 (by decide) (by decide) (J := 14) rfl ?_
  refine G.iC H1 D0_14 (J := 15) rfl (v := 0) rfl ?_
  exact G.retN H1 (t := .boolean) rfl (by decide) D0_15 (so := []) all0 (by decide) (by decide) (Or.inr ⟨c6, rfl, rfl, rfl⟩)
theorem m82 (V : Env1 Z a0 n0 uu0 uu1 uu2 uu3 uu4)  (h0 : Heap) (hO : Old Z n0 h0)  :
  Met Z a0 ELs True n0 l ⟨"java/lang/StringUTF16", "newBytesLength", "(I)I"⟩ Y47 1 (some .int) ⟨0, 0, 0, 0⟩ #[.int 1] h0 [] (fun v h so => (v = some (.int 2) ∧ so = [] ∧ h0 = h)) := by
 refine Met.of (EWl V) (by first | decide +kernel | rfl) hO (L0 := #[.val (.int 1)]) rfl ?_
 intro p e s m below meth c T H
 refine G.iN H D35_0 (J := 1) rfl rfl ?_
 refine G.ifYes H D35_1 (by decide) (by decide) (J := 12) rfl ?_
 refine G.iN H D35_12 (J := 13) rfl rfl ?_
 refine G.ldcI H (wq V 255 rfl) D35_13 (J := 15) rfl ?_
 refine G.cY H D35_15 (by decide) (by decide) (J := 55) rfl ?_
 refine G.iN H D35_55 (J := 56) rfl rfl ?_
 refine G.iC H D35_56 (J := 57) rfl (v := 1) rfl ?_
 refine G.ishl H D35_57 (J := 58) rfl ?_
 show Go _ _ _ _ (T.setTop (mkF m 58 _ [.int 2]))
 exact G.retI H rfl D35_58 (so := []) all0 (by decide) (by decide) ⟨rfl, rfl, rfl⟩
theorem m83 (V : Env1 Z a0 n0 uu0 uu1 uu2 uu3 uu4)  (h0 : Heap) (hO : Old Z n0 h0)  :
  Met Z a0 ELs True n0 l ⟨"java/lang/StringUTF16", "newBytesFor", "(I)[B"⟩ Y67 1 (some (.array .byte)) ⟨1, 1, 2, 12⟩ #[.int 1] h0 [] (fun v h so => (∃ a6 : Addr, ∃ k9 : ClassId, v = some (.ref a6) ∧ so = [a6] ∧ Keep h0 h [] ∧ h0.size ≤ a6 ∧ Arv Z h a6 k9 .byte 2 [.int 0, .int 0] (.int 0) ∧ Exa Z h a6 "[B")) := by
 refine Met.of (EWl V) (by first | decide +kernel | rfl) hO (L0 := #[.val (.int 1)]) rfl ?_
 intro p e s m below meth c T H
 refine G.iN H D34_0 (J := 1) rfl rfl ?_
 refine G.cS H (m82 V h0 H.old) (wq V 252 rfl) (wq V 253 rfl) (wd250 V) (wq V 254 rfl) [.int 1] [] 0 4 (lenOf (pd_6) rfl) D34_1 all0 (by decide) ?_
 rintro T1 h1_ _ _ H1 ⟨rfl, rfl, rfl⟩
 show Go _ _ _ _ (T1.setTop (mkF m 4 _ [.int 2]))
 refine G.newP H1 (aty := .byte) (wd24 V) D34_4 (J := 6) rfl (by decide) (cap := 2) (by decide) (by decide) (by decide) (by decide) (vs := [.int 0, .int 0]) rfl (ad := "[B") rfl ?_
 intro T5 h5_ a6 k9 ga6 H5 E7 A8 X10
 have na6 := H1.nle ga6
 replace A8 : Arv Z h5_ a6 k9 .byte 2 [.int 0, .int 0] (.int 0) := A8
 have K11 : Keep h0 h5_ [] := (Keep.ext (Keep.refl h0 []) E7)
 exact G.retA H5 (t := (.array .byte)) rfl rfl rfl D34_6 (so := [a6]) (allS (mG (i := 0) rfl) all0) (by decide) (by decide) ⟨a6, k9, rfl, rfl, K11, (Nat.le_of_eq ga6.symm), A8, X10⟩
theorem m84 (V : Env1 Z a0 n0 uu0 uu1 uu2 uu3 uu4) (p0 : Addr) (d0 : ClassId) (x0 : Int32) (h0 : Heap) (hO : Old Z n0 h0) (f0 : Arv Z h0 p0 d0 .byte 1 [(.int (x0.toInt8.toInt32))] (.int 0)) (r1 : ¬ x0 < 0 ∧ ¬ 255 < x0) (f2 : Exa Z h0 p0 "[B") :
  Met Z a0 ELs True n0 l ⟨"java/lang/String", "encodeUTF8", "(B[BZ)[B"⟩ Y2 9 (some (.array .byte)) ⟨2, 1, 2, 30⟩ #[.int 0, .ref p0, .int 1] h0 [] (fun v h so => (∃ a : Addr, ∃ kc : ClassId, ∃ bs : List Int32, v = some (.ref a) ∧ so = [] ∧ Keep h0 h [] ∧ h0.size ≤ a ∧ Arv Z h a kc .byte (Int32.ofNat bs.length) (bs.map Value.int) (.int 0) ∧ bs.length ≤ 6 ∧ encBs bs = encS [x0])) := by
 refine Met.of (EWl V) (by first | decide +kernel | rfl) hO (L0 := #[.val (.int 0), .val (.ref p0), .val (.int 1), .unset, .unset, .unset, .unset, .unset, .unset]) rfl ?_
 intro p e s m below meth c T H
 refine G.iN H D15_0 (J := 1) rfl rfl ?_
 refine G.iC H D15_1 (J := 2) rfl (v := 1) rfl ?_
 refine G.cY H D15_2 (by decide) (by decide) (J := 11) rfl ?_
 refine G.aN H D15_11 (J := 12) rfl rfl rfl ?_
 refine G.iC H D15_12 (J := 13) rfl (v := 0) rfl ?_
 refine G.aN H D15_13 (J := 14) rfl rfl rfl ?_
 refine G.aR H f0 D15_14 (J := 15) rfl ?_
 refine G.cS H (m81 V p0 d0 x0 h0 H.old f0) (wq V 241 rfl) (wq V 242 rfl) (wq V 243 rfl) (wq V 244 rfl) [.ref p0, .int 0, .int 1] [] 0 18 (lenOf (pd_43) rfl) D15_15 all0 (by decide) ?_
 intro T1 h1_ v2 s3 H1 Q4
 rcases Q4 with ⟨c5, rfl, rfl, rfl⟩ | ⟨c6, rfl, rfl, rfl⟩
 ·
  show Go _ _ _ _ (T1.setTop (mkF m 18 _ [.int 1]))
  refine G.ifYes H1 D15_18 (by decide) (by decide) (J := 29) rfl ?_
  refine G.iC H1 D15_29 (J := 30) rfl (v := 0) rfl ?_
  refine G.sN H1 (L' := #[.val (.int 0), .val (.ref p0), .val (.int 1), .val (.int 0), .unset, .unset, .unset, .unset, .unset]) D15_30 (J := 31) rfl rfl ?_
  refine G.aN H1 D15_31 (J := 32) rfl rfl rfl ?_
  refine G.aR H1 f0 D15_32 (J := 33) rfl ?_
  refine G.cS H1 (m83 V h0 H1.old) (wq V 248 rfl) (wq V 249 rfl) (wd250 V) (wq V 251 rfl) [.int 1] [] 0 36 (lenOf (pd_21) rfl) D15_33 all0 (by decide) ?_
  rintro T7 h7_ _ _ H7 ⟨a11, k12, rfl, rfl, K13, g14, F15, F16⟩
  have na11 := Nat.le_trans H1.le g14
  show Go _ _ _ _ (T7.setTop (mkF m 36 _ [.ref a11]))
  refine G.astore H7 (L' := #[.val (.int 0), .val (.ref p0), .val (.int 1), .val (.int 0), .val (.ref a11), .unset, .unset, .unset, .unset]) D15_36 (J := 38) rfl rfl rfl ?_
  refine G.aN H7 D15_38 (J := 39) rfl rfl rfl ?_
  refine G.astore H7 (L' := #[.val (.int 0), .val (.ref p0), .val (.int 1), .val (.int 0), .val (.ref a11), .val (.ref p0), .unset, .unset, .unset]) D15_39 (J := 41) rfl rfl rfl ?_
  refine G.aL H7 D15_41 (J := 43) rfl rfl rfl ?_
  have F17 := (Arv.keep f0 K13 nin0)
  refine G.aR H7 F17 D15_43 (J := 44) rfl ?_
  refine G.sI H7 (L' := #[.val (.int 0), .val (.ref p0), .val (.int 1), .val (.int 0), .val (.ref a11), .val (.ref p0), .val (.int 1), .unset, .unset]) D15_44 (J := 46) rfl rfl ?_
  refine G.iC H7 D15_46 (J := 47) rfl (v := 0) rfl ?_
  refine G.sI H7 (L' := #[.val (.int 0), .val (.ref p0), .val (.int 1), .val (.int 0), .val (.ref a11), .val (.ref p0), .val (.int 1), .val (.int 0), .unset]) D15_47 (J := 49) rfl rfl ?_
  refine G.iL H7 D15_49 (J := 51) rfl rfl ?_
  refine G.iL H7 D15_51 (J := 53) rfl rfl ?_
  refine G.cN H7 D15_53 (J := 56) rfl (by decide) ?_
  refine G.aL H7 D15_56 (J := 58) rfl rfl rfl ?_
  refine G.iL H7 D15_58 (J := 60) rfl rfl ?_
  refine G.baloadG H7 F17 (j := 0) (v := (.int (x0.toInt8.toInt32))) (by decide) rfl D15_60 (J := 61) rfl ?_
  refine G.sI H7 (L' := #[.val (.int 0), .val (.ref p0), .val (.int 1), .val (.int 0), .val (.ref a11), .val (.ref p0), .val (.int 1), .val (.int 0), .val (.int (x0.toInt8.toInt32))]) D15_61 (J := 63) rfl rfl ?_
  refine G.iL H7 D15_63 (J := 65) rfl rfl ?_
  refine G.ifNo H7 D15_65 (J := 68) rfl (XT.i0_ge_f c5) ?_
  refine G.aL H7 D15_68 (J := 70) rfl rfl rfl ?_
  refine G.iN H7 D15_70 (J := 71) rfl rfl ?_
  refine G.iI H7 (v := 1) (L' := #[.val (.int 0), .val (.ref p0), .val (.int 1), .val (.int 1), .val (.ref a11), .val (.ref p0), .val (.int 1), .val (.int 0), .val (.int (x0.toInt8.toInt32))]) D15_71 (J := 74) rfl rfl rfl rfl ?_
  refine G.sP H7 D15_74 (J := 77) rfl (v := 192) rfl ?_
  refine G.iL H7 D15_77 (J := 79) rfl rfl ?_
  refine G.sP H7 D15_79 (J := 82) rfl (v := 255) rfl ?_
  refine G.iand H7 D15_82 (J := 83) rfl ?_
  rw [own_b8and r1]
  refine G.bP H7 D15_83 (J := 85) rfl (v := 6) rfl ?_
  refine G.ishr H7 D15_85 (J := 86) rfl ?_
  refine G.ior H7 D15_86 (J := 87) rfl ?_
  refine G.i2b H7 D15_87 (J := 88) rfl ?_
  obtain ⟨u18, eu18⟩ : ∃ q, q = ((192 ||| (x0 >>> ((6 : Int32) &&& 31))) : Int32).toInt8.toInt32 := ⟨_, rfl⟩
  rw [← eu18]
  refine G.stB H7 F15 (by decide) (i := 0) rfl lB na11 (Sf.mem (mG (i := 0) rfl)) (y := u18) (own_narBg eu18) D15_88 (J := 89) rfl ?_
  intro T19 h19_ H19 W20 A21
  replace A21 : Arv Z h19_ a11 k12 .byte 2 [.int u18, .int 0] (.int 0) := A21
  refine G.aL H19 D15_89 (J := 91) rfl rfl rfl ?_
  refine G.iN H19 D15_91 (J := 92) rfl rfl ?_
  refine G.iI H19 (v := 2) (L' := #[.val (.int 0), .val (.ref p0), .val (.int 1), .val (.int 2), .val (.ref a11), .val (.ref p0), .val (.int 1), .val (.int 0), .val (.int (x0.toInt8.toInt32))]) D15_92 (J := 95) rfl rfl rfl rfl ?_
  refine G.sP H19 D15_95 (J := 98) rfl (v := 128) rfl ?_
  refine G.iL H19 D15_98 (J := 100) rfl rfl ?_
  refine G.bP H19 D15_100 (J := 102) rfl (v := 63) rfl ?_
  refine G.iand H19 D15_102 (J := 103) rfl ?_
  refine G.ior H19 D15_103 (J := 104) rfl ?_
  refine G.i2b H19 D15_104 (J := 105) rfl ?_
  obtain ⟨u22, eu22⟩ : ∃ q, q = ((128 ||| ((x0.toInt8.toInt32) &&& 63)) : Int32).toInt8.toInt32 := ⟨_, rfl⟩
  rw [← eu22]
  have F26 := (Exa.wr W20 F16)
  refine G.stB H19 A21 (by decide) (i := 1) rfl lB na11 (Sf.mem (mG (i := 0) rfl)) (y := u22) (own_narBg eu22) D15_105 (J := 106) rfl ?_
  intro T23 h23_ H23 W24 A25
  replace A25 : Arv Z h23_ a11 k12 .byte 2 [.int u18, .int u22] (.int 0) := A25
  refine G.go H23 D15_106 (by decide) (J := 118) rfl ?_
  refine G.iI H23 (v := 1) (L' := #[.val (.int 0), .val (.ref p0), .val (.int 1), .val (.int 2), .val (.ref a11), .val (.ref p0), .val (.int 1), .val (.int 1), .val (.int (x0.toInt8.toInt32))]) D15_118 (J := 121) rfl rfl rfl rfl ?_
  refine G.go H23 D15_121 (by decide) (J := 49) rfl ?_
  show Go _ _ _ _ (T23.setTop (mkF m 49 _ []))
  refine G.iL H23 D15_49 (J := 51) rfl rfl ?_
  refine G.iL H23 D15_51 (J := 53) rfl rfl ?_
  refine G.cY H23 D15_53 (by decide) (by decide) (J := 124) rfl ?_
  refine G.iN H23 D15_124 (J := 125) rfl rfl ?_
  refine G.aL H23 D15_125 (J := 127) rfl rfl rfl ?_
  refine G.aR H23 A25 D15_127 (J := 128) rfl ?_
  refine G.cN H23 D15_128 (J := 131) rfl (by decide) ?_
  refine G.aL H23 D15_131 (J := 133) rfl rfl rfl ?_
  have F27 := (Exa.wr W24 F26)
  have K28 : Keep h0 h23_ [] := (Keep.wr (Keep.wr (Keep.trans (Keep.refl h0 []) K13 all0) W20 (Or.inr g14)) W24 (Or.inr g14))
  exact G.retA H23 (t := (.array .byte)) rfl rfl rfl D15_133 (so := []) all0 (by decide) (by decide) ⟨a11, k12, [u18, u22], rfl, rfl, K28, g14, A25, lB, (by subst eu18; subst eu22; rw [own_e1, own_k3 r1 c5]; simp only [encBs, List.flatMap_cons, List.flatMap_nil, List.append_nil, List.append_assoc])⟩
 ·
  show Go _ _ _ _ (T1.setTop (mkF m 18 _ [.int 0]))
  refine G.ifNo H1 D15_18 (J := 21) rfl (by decide) ?_
  refine G.aN H1 D15_21 (J := 22) rfl rfl rfl ?_
  refine G.clone H1 (wq V 331 rfl) (wq V 332 rfl) (wq V 336 rfl) (wq V 334 rfl) (wq V 335 rfl) (wq V 337 rfl) f0 f2 (st := []) (W := 0) (cap := 1) rfl rfl D15_22 (J := 25) rfl (by decide) (by decide) (by decide) (by decide) (by decide) ?_
  intro T29 h29_ a30 ga30 H29 E31 A32 X33
  have na30 := H1.nle ga30
  refine G.castY H29 (wq V 338 rfl) (Ins.self X33) D15_25 (J := 28) rfl ?_
  intro T34 H35
  have K36 : Keep h0 h29_ [] := (Keep.ext (Keep.refl h0 []) E31)
  exact G.retA H35 (t := (.array .byte)) rfl rfl rfl D15_28 (so := []) all0 (by decide) (by decide) ⟨a30, d0, [(x0.toInt8.toInt32)], rfl, rfl, K36, (Nat.le_of_eq ga30.symm), A32, lB, (by rw [own_e1, own_k2 r1 c6]; simp only [encBs, List.flatMap_cons, List.flatMap_nil, List.append_nil, List.append_assoc])⟩
theorem m85 (V : Env1 Z a0 n0 uu0 uu1 uu2 uu3 uu4) (p0 : Addr) (d0 : ClassId) (x0 : Int32) (h0 : Heap) (hO : Old Z n0 h0) (f0 : Arv Z h0 p0 d0 .byte 1 [(.int (x0.toInt8.toInt32))] (.int 0)) (r1 : ¬ x0 < 0 ∧ ¬ 255 < x0) (f2 : Exa Z h0 p0 "[B") :
  Met Z a0 ELs True n0 l ⟨"java/lang/String", "encode", "(Ljava/nio/charset/Charset;B[B)[B"⟩ Y41 3 (some (.array .byte)) ⟨3, 1, 2, 50⟩ #[.ref uu1, .int 0, .ref p0] h0 [] (fun v h so => (∃ a : Addr, ∃ kc : ClassId, ∃ bs : List Int32, v = some (.ref a) ∧ so = [] ∧ Keep h0 h [] ∧ h0.size ≤ a ∧ Arv Z h a kc .byte (Int32.ofNat bs.length) (bs.map Value.int) (.int 0) ∧ bs.length ≤ 6 ∧ encBs bs = encS [x0])) := by
 refine Met.of (EWl V) (by first | decide +kernel | rfl) hO (L0 := #[.val (.ref uu1), .val (.int 0), .val (.ref p0)]) rfl ?_
 intro p e s m below meth c T H
 refine G.aN H D13_0 (J := 1) rfl rfl rfl ?_
 refine G.getS H (wq V 236 rfl) Via.refl (Sta.ext H.old.2 (hv1 V)) D13_1 (J := 4) rfl ?_
 intro T1 H2
 refine G.acmpNo H2 D13_4 (J := 7) rfl rfl rfl (XT.aa_ne_f rfl) ?_
 refine G.iN H2 D13_7 (J := 8) rfl rfl ?_
 refine G.aN H2 D13_8 (J := 9) rfl rfl rfl ?_
 refine G.iC H2 D13_9 (J := 10) rfl (v := 1) rfl ?_
 refine G.cS H2 (m84 V p0 d0 x0 h0 H2.old f0 r1 f2) (wq V 238 rfl) (wq V 239 rfl) (wd11 V) (wq V 240 rfl) [.int 0, .ref p0, .int 1] [] 0 13 (lenOf (pd_44) rfl) D13_10 all0 (by decide) ?_
 rintro T3 h3_ _ _ H3 ⟨a7, k8, l9, rfl, rfl, K10, g11, F12, R13, R14⟩
 have na7 := Nat.le_trans H.le g11
 show Go _ _ _ _ (T3.setTop (mkF m 13 _ [.ref a7]))
 have K15 : Keep h0 h3_ [] := (Keep.trans (Keep.refl h0 []) K10 all0)
 exact G.retA H3 (t := (.array .byte)) rfl rfl rfl D13_13 (so := []) all0 (by decide) (by decide) ⟨a7, k8, l9, rfl, rfl, K15, g11, F12, (by omega), R14⟩
theorem m86 (V : Env1 Z a0 n0 uu0 uu1 uu2 uu3 uu4) (p0 : Addr) (p1 : Addr) (d0 : ClassId) (x0 : Int32) (h0 : Heap) (hO : Old Z n0 h0) (f0 : Str Z h0 p0 p1 d0 [x0]) (r1 : ¬ x0 < 0 ∧ ¬ 255 < x0) (f2 : Exa Z h0 p1 "[B") :
  Met Z a0 ELs True n0 l ⟨"java/lang/String", "getBytes", "(Ljava/nio/charset/Charset;)[B"⟩ Y38 2 (some (.array .byte)) ⟨4, 1, 2, 64⟩ #[.ref p0, .ref uu1] h0 [] (fun v h so => (∃ a : Addr, ∃ kc : ClassId, ∃ bs : List Int32, v = some (.ref a) ∧ so = [] ∧ Keep h0 h [] ∧ h0.size ≤ a ∧ Arv Z h a kc .byte (Int32.ofNat bs.length) (bs.map Value.int) (.int 0) ∧ bs.length ≤ 6 ∧ encBs bs = encS [x0])) := by
 refine Met.of (EWl V) (by first | decide +kernel | rfl) hO (L0 := #[.val (.ref p0), .val (.ref uu1)]) rfl ?_
 intro p e s m below meth c T H
 have A1 : Arv Z h0 p1 d0 .byte 1 [(.int (x0.toInt8.toInt32))] (.int 0) := f0.2.2.2.1
 refine G.aN H D20_0 (J := 1) rfl rfl rfl ?_
 refine G.ifnonnullYes H D20_1 (by decide) (J := 12) rfl ?_
 refine G.aN H D20_12 (J := 13) rfl rfl rfl ?_
 refine G.aN H D20_13 (J := 14) rfl rfl rfl ?_
 refine G.cV H (m72 V p0 p1 d0 x0 h0 H.old f0) (wd110 V) (wd111 V) (nf_sel (wd113 V)) (wd113 V) (wd112 V) (wd11 V) (wd114 V) f0.1 [] [.ref uu1] 1 17 (lenOf (pd_10) rfl) D20_14 all0 (by decide) ?_
 rintro T2 h2_ _ _ H2 ⟨rfl, rfl, rfl⟩
 show Go _ _ _ _ (T2.setTop (mkF m 17 _ [.int 0, .ref uu1]))
 refine G.aN H2 D20_17 (J := 18) rfl rfl rfl ?_
 refine G.getF H2 (wd29 V) Via.refl f0.2.2.1 D20_18 (J := 21) rfl ?_
 intro T6 H7
 refine G.cS H7 (m85 V p1 d0 x0 h0 H7.old A1 r1 f2) (wq V 233 rfl) (wq V 234 rfl) (wd11 V) (wq V 235 rfl) [.ref uu1, .int 0, .ref p1] [] 0 24 (lenOf (pd_45) rfl) D20_21 all0 (by decide) ?_
 rintro T8 h8_ _ _ H8 ⟨a12, k13, l14, rfl, rfl, K15, g16, F17, R18, R19⟩
 have na12 := Nat.le_trans H2.le g16
 show Go _ _ _ _ (T8.setTop (mkF m 24 _ [.ref a12]))
 have K20 : Keep h0 h8_ [] := (Keep.trans (Keep.refl h0 []) K15 all0)
 exact G.retA H8 (t := (.array .byte)) rfl rfl rfl D20_24 (so := []) all0 (by decide) (by decide) ⟨a12, k13, l14, rfl, rfl, K20, g16, F17, (by omega), R19⟩
theorem m87 (V : Env1 Z a0 n0 uu0 uu1 uu2 uu3 uu4) (p0 : Addr) (h0 : Heap) (hO : Old Z n0 h0) (f0 : Fld Z h0 p0 "java/lang/String" "coder" "B" (.int 1)) :
  Met Z a0 ELs True n0 l ⟨"java/lang/String", "coder", "()B"⟩ Y44 1 (some .byte) ⟨0, 0, 0, 0⟩ #[.ref p0] h0 [] (fun v h so => (v = some (.int 1) ∧ so = [] ∧ h0 = h)) := by
 refine Met.of (EWl V) (by first | decide +kernel | rfl) hO (L0 := #[.val (.ref p0)]) rfl ?_
 intro p e s m below meth c T H
 refine G.getS H (wd115 V) Via.refl (Sta.ext H.old.2 (hv8 V)) D10_0 (J := 3) rfl ?_
 intro T1 H2
 refine G.ifNo H2 D10_3 (J := 6) rfl (XT.i0_eq_f (hv9 V)) ?_
 refine G.aN H2 D10_6 (J := 7) rfl rfl rfl ?_
 refine G.getF H2 (wd30 V) Via.refl f0 D10_7 (J := 10) rfl ?_
 intro T3 H4
 refine G.go H4 D10_10 (by decide) (J := 14) rfl ?_
 exact G.retN H4 (t := .byte) rfl (by decide) D10_14 (so := []) all0 (by decide) (by decide) ⟨rfl, rfl, rfl⟩
theorem m88 (V : Env1 Z a0 n0 uu0 uu1 uu2 uu3 uu4) (p0 : Addr) (p1 : Addr) (d0 : ClassId) (x0 : Int32) (h0 : Heap) (hO : Old Z n0 h0) (f0 : Fld Z h0 p0 "java/lang/String" "value" "[B" (.ref p1)) (f1 : Arv Z h0 p1 d0 .byte 2 [(.int (x0.toInt8.toInt32)), (.int ((x0 >>> ((8 : Int32) &&& 31)).toInt8.toInt32))] (.int 0)) (f2 : Exa Z h0 p0 "java/lang/String") (f3 : Fld Z h0 p0 "java/lang/String" "coder" "B" (.int 1)) :
  Met Z a0 ELs True n0 l ⟨"java/lang/String", "length", "()I"⟩ Y40 1 (some .int) ⟨1, 0, 0, 13⟩ #[.ref p0] h0 [] (fun v h so => (v = some (.int 1) ∧ so = [] ∧ h0 = h)) := by
 refine Met.of (EWl V) (by first | decide +kernel | rfl) hO (L0 := #[.val (.ref p0)]) rfl ?_
 intro p e s m below meth c T H
 refine G.aN H D18_0 (J := 1) rfl rfl rfl ?_
 refine G.getF H (wd29 V) Via.refl f0 D18_1 (J := 4) rfl ?_
 intro T1 H2
 refine G.aR H2 f1 D18_4 (J := 5) rfl ?_
 refine G.aN H2 D18_5 (J := 6) rfl rfl rfl ?_
 refine G.cV H2 (m87 V p0 h0 H2.old f3) (wd110 V) (wd111 V) (nf_sel (wd113 V)) (wd113 V) (wd112 V) (wd11 V) (wd114 V) f2 [] [.int 2] 1 9 (lenOf (pd_10) rfl) D18_6 all0 (by decide) ?_
 rintro T3 h3_ _ _ H3 ⟨rfl, rfl, rfl⟩
 show Go _ _ _ _ (T3.setTop (mkF m 9 _ [.int 1, .int 2]))
 refine G.ishr H3 D18_9 (J := 10) rfl ?_
 show Go _ _ _ _ (T3.setTop (mkF m 10 _ [.int 1]))
 exact G.retI H3 rfl D18_10 (so := []) all0 (by decide) (by decide) ⟨rfl, rfl, rfl⟩
theorem m89 (V : Env1 Z a0 n0 uu0 uu1 uu2 uu3 uu4) (p0 : Addr) (h0 : Heap) (hO : Old Z n0 h0) (f0 : Fld Z h0 p0 "java/lang/String" "coder" "B" (.int 1)) :
  Met Z a0 ELs True n0 l ⟨"java/lang/String", "isLatin1", "()Z"⟩ Y35 1 (some .boolean) ⟨0, 0, 0, 0⟩ #[.ref p0] h0 [] (fun v h so => (v = some (.int 0) ∧ so = [] ∧ h0 = h)) := by
 refine Met.of (EWl V) (by first | decide +kernel | rfl) hO (L0 := #[.val (.ref p0)]) rfl ?_
 intro p e s m below meth c T H
 refine G.getS H (wd115 V) Via.refl (Sta.ext H.old.2 (hv8 V)) D11_0 (J := 3) rfl ?_
 intro T1 H2
 refine G.ifNo H2 D11_3 (J := 6) rfl (XT.i0_eq_f (hv9 V)) ?_
 refine G.aN H2 D11_6 (J := 7) rfl rfl rfl ?_
 refine G.getF H2 (wd30 V) Via.refl f0 D11_7 (J := 10) rfl ?_
 intro T3 H4
 refine G.ifYes H4 D11_10 (by decide) (by decide) (J := 17) rfl ?_
 refine G.iC H4 D11_17 (J := 18) rfl (v := 0) rfl ?_
 exact G.retN H4 (t := .boolean) rfl (by decide) D11_18 (so := []) all0 (by decide) (by decide) ⟨rfl, rfl, rfl⟩
theorem m90 (V : Env1 Z a0 n0 uu0 uu1 uu2 uu3 uu4) (p0 : Addr) (d0 : ClassId) (x0 : Int32) (h0 : Heap) (hO : Old Z n0 h0) (f0 : Arv Z h0 p0 d0 .byte 2 [(.int (x0.toInt8.toInt32)), (.int ((x0 >>> ((8 : Int32) &&& 31)).toInt8.toInt32))] (.int 0)) :
  Met Z a0 ELs True n0 l ⟨"java/lang/StringUTF16", "length", "([B)I"⟩ Y62 1 (some .int) ⟨0, 0, 0, 0⟩ #[.ref p0] h0 [] (fun v h so => (v = some (.int 1) ∧ so = [] ∧ h0 = h)) := by
 refine Met.of (EWl V) (by first | decide +kernel | rfl) hO (L0 := #[.val (.ref p0)]) rfl ?_
 intro p e s m below meth c T H
 refine G.aN H D38_0 (J := 1) rfl rfl rfl ?_
 refine G.aR H f0 D38_1 (J := 2) rfl ?_
 refine G.iC H D38_2 (J := 3) rfl (v := 1) rfl ?_
 refine G.ishr H D38_3 (J := 4) rfl ?_
 show Go _ _ _ _ (T.setTop (mkF m 4 _ [.int 1]))
 exact G.retI H rfl D38_4 (so := []) all0 (by decide) (by decide) ⟨rfl, rfl, rfl⟩
theorem m91 (V : Env1 Z a0 n0 uu0 uu1 uu2 uu3 uu4) (p0 : Addr) (d0 : ClassId) (x0 : Int32) (h0 : Heap) (hO : Old Z n0 h0) (f0 : Arv Z h0 p0 d0 .byte 2 [(.int (x0.toInt8.toInt32)), (.int ((x0 >>> ((8 : Int32) &&& 31)).toInt8.toInt32))] (.int 0)) :
  Met Z a0 ELs True n0 l ⟨"java/lang/StringUTF16", "checkIndex", "(I[B)V"⟩ Y61 2 none ⟨2, 0, 0, 27⟩ #[.int 0, .ref p0] h0 [] (fun v h so => (v = none ∧ so = [] ∧ h0 = h)) := by
 refine Met.of (EWl V) (by first | decide +kernel | rfl) hO (L0 := #[.val (.int 0), .val (.ref p0)]) rfl ?_
 intro p e s m below meth c T H
 refine G.iN H D40_0 (J := 1) rfl rfl ?_
 refine G.aN H D40_1 (J := 2) rfl rfl rfl ?_
 refine G.cS H (m90 V p0 d0 x0 h0 H.old f0) (wq V 302 rfl) (wq V 303 rfl) (wd250 V) (wq V 304 rfl) [.ref p0] [.int 0] 1 5 (lenOf (pd_47) rfl) D40_2 all0 (by decide) ?_
 rintro T1 h1_ _ _ H1 ⟨rfl, rfl, rfl⟩
 show Go _ _ _ _ (T1.setTop (mkF m 5 _ [.int 1, .int 0]))
 refine G.cS H1 (m76 V h0 H1.old) (wq V 305 rfl) (wq V 195 rfl) (wd11 V) (wq V 196 rfl) [.int 0, .int 1] [] 0 8 (lenOf (pd_28) rfl) D40_5 all0 (by decide) ?_
 rintro T5 h5_ _ _ H5 ⟨rfl, rfl, rfl⟩
 show Go _ _ _ _ (T5.setTop (mkF m 8 _ []))
 exact G.retV H5 rfl D40_8 (so := []) all0 (by decide) (by decide) ⟨rfl, rfl, rfl⟩
theorem m92 (V : Env1 Z a0 n0 uu0 uu1 uu2 uu3 uu4) (p0 : Addr) (d0 : ClassId) (x0 : Int32) (h0 : Heap) (hO : Old Z n0 h0) (f0 : Arv Z h0 p0 d0 .byte 2 [(.int (x0.toInt8.toInt32)), (.int ((x0 >>> ((8 : Int32) &&& 31)).toInt8.toInt32))] (.int 0)) (r1 : ¬ x0 < 0 ∧ ¬ 65535 < x0) :
  Met Z a0 ELs True n0 l ⟨"java/lang/StringUTF16", "getChar", "([BI)C"⟩ Y16 2 (some .char) ⟨0, 0, 0, 0⟩ #[.ref p0, .int 0] h0 [] (fun v h so => (v = some (.int x0) ∧ so = [] ∧ h0 = h)) := by
 refine Met.of (EWl V) (by first | decide +kernel | rfl) hO (L0 := #[.val (.ref p0), .val (.int 0)]) rfl ?_
 intro p e s m below meth c T H
 refine G.getS H (wq V 287 rfl) Via.refl (Sta.ext H.old.2 (hv5 V)) D37_0 (J := 3) rfl ?_
 intro T1 H2
 refine G.ifYes H2 D37_3 (by decide) (by decide) (J := 28) rfl ?_
 refine G.iN H2 D37_28 (J := 29) rfl rfl ?_
 refine G.iC H2 D37_29 (J := 30) rfl (v := 1) rfl ?_
 refine G.ishl H2 D37_30 (J := 31) rfl ?_
 show Go _ _ _ _ (T1.setTop (mkF m 31 _ [.int 0]))
 refine G.sN H2 (L' := #[.val (.ref p0), .val (.int 0)]) D37_31 (J := 32) rfl rfl ?_
 refine G.aN H2 D37_32 (J := 33) rfl rfl rfl ?_
 refine G.iN H2 D37_33 (J := 34) rfl rfl ?_
 refine G.iI H2 (v := 1) (L' := #[.val (.ref p0), .val (.int 1)]) D37_34 (J := 37) rfl rfl rfl rfl ?_
 refine G.baloadG H2 f0 (j := 0) (v := (.int (x0.toInt8.toInt32))) (by decide) rfl D37_37 (J := 38) rfl ?_
 refine G.sP H2 D37_38 (J := 41) rfl (v := 255) rfl ?_
 refine G.iand H2 D37_41 (J := 42) rfl ?_
 refine G.getS H2 (wq V 288 rfl) Via.refl (Sta.ext H2.old.2 (hv6 V)) D37_42 (J := 45) rfl ?_
 intro T3 H4
 refine G.ishl H4 D37_45 (J := 46) rfl ?_
 rw [own_shl0]
 refine G.aN H4 D37_46 (J := 47) rfl rfl rfl ?_
 refine G.iN H4 D37_47 (J := 48) rfl rfl ?_
 refine G.baloadG H4 f0 (j := 1) (v := (.int ((x0 >>> ((8 : Int32) &&& 31)).toInt8.toInt32))) (by decide) rfl D37_48 (J := 49) rfl ?_
 refine G.sP H4 D37_49 (J := 52) rfl (v := 255) rfl ?_
 refine G.iand H4 D37_52 (J := 53) rfl ?_
 refine G.getS H4 (wq V 289 rfl) Via.refl (Sta.ext H4.old.2 (hv7 V)) D37_53 (J := 56) rfl ?_
 intro T5 H6
 refine G.ishl H6 D37_56 (J := 57) rfl ?_
 refine G.ior H6 D37_57 (J := 58) rfl ?_
 rw [own_rec0 r1]
 refine G.i2c H6 (y := x0) D37_58 (J := 59) rfl (own_c16 r1) ?_
 exact G.retN H6 (t := .char) rfl (by decide) D37_59 (so := []) all0 (by decide) (by decide) ⟨(congrArg (fun q => some (Value.int q)) (own_narC r1)), rfl, rfl⟩
theorem m93 (V : Env1 Z a0 n0 uu0 uu1 uu2 uu3 uu4) (p0 : Addr) (d0 : ClassId) (x0 : Int32) (h0 : Heap) (hO : Old Z n0 h0) (f0 : Arv Z h0 p0 d0 .byte 2 [(.int (x0.toInt8.toInt32)), (.int ((x0 >>> ((8 : Int32) &&& 31)).toInt8.toInt32))] (.int 0)) (r1 : ¬ x0 < 0 ∧ ¬ 65535 < x0) :
  Met Z a0 ELs True n0 l ⟨"java/lang/StringUTF16", "charAt", "([BI)C"⟩ Y53 2 (some .char) ⟨3, 0, 0, 40⟩ #[.ref p0, .int 0] h0 [] (fun v h so => (v = some (.int x0) ∧ so = [] ∧ h0 = h)) := by
 refine Met.of (EWl V) (by first | decide +kernel | rfl) hO (L0 := #[.val (.ref p0), .val (.int 0)]) rfl ?_
 intro p e s m below meth c T H
 refine G.iN H D39_0 (J := 1) rfl rfl ?_
 refine G.aN H D39_1 (J := 2) rfl rfl rfl ?_
 refine G.cS H (m91 V p0 d0 x0 h0 H.old f0) (wq V 299 rfl) (wq V 300 rfl) (wd250 V) (wq V 301 rfl) [.int 0, .ref p0] [] 0 5 (lenOf (pd_48) rfl) D39_2 all0 (by decide) ?_
 rintro T1 h1_ _ _ H1 ⟨rfl, rfl, rfl⟩
 show Go _ _ _ _ (T1.setTop (mkF m 5 _ []))
 refine G.aN H1 D39_5 (J := 6) rfl rfl rfl ?_
 refine G.iN H1 D39_6 (J := 7) rfl rfl ?_
 refine G.cS H1 (m92 V p0 d0 x0 h0 H1.old f0 r1) (wq V 290 rfl) (wd291 V) (wd250 V) (wd292 V) [.ref p0, .int 0] [] 0 10 (lenOf (pd_23) rfl) D39_7 all0 (by decide) ?_
 rintro T5 h5_ _ _ H5 ⟨rfl, rfl, rfl⟩
 show Go _ _ _ _ (T5.setTop (mkF m 10 _ [.int x0]))
 exact G.retN H5 (t := .char) rfl (by decide) D39_10 (so := []) all0 (by decide) (by decide) ⟨(congrArg (fun q => some (Value.int q)) (own_narC r1)), rfl, rfl⟩
theorem m94 (V : Env1 Z a0 n0 uu0 uu1 uu2 uu3 uu4) (p0 : Addr) (p1 : Addr) (d0 : ClassId) (x0 : Int32) (h0 : Heap) (hO : Old Z n0 h0) (f0 : Exa Z h0 p0 "java/lang/String") (f1 : Fld Z h0 p0 "java/lang/String" "coder" "B" (.int 1)) (f2 : Fld Z h0 p0 "java/lang/String" "value" "[B" (.ref p1)) (f3 : Arv Z h0 p1 d0 .byte 2 [(.int (x0.toInt8.toInt32)), (.int ((x0 >>> ((8 : Int32) &&& 31)).toInt8.toInt32))] (.int 0)) (r4 : ¬ x0 < 0 ∧ ¬ 65535 < x0) :
  Met Z a0 ELs True n0 l ⟨"java/lang/String", "charAt", "(I)C"⟩ Y28 2 (some .char) ⟨4, 0, 0, 53⟩ #[.ref p0, .int 0] h0 [] (fun v h so => (v = some (.int x0) ∧ so = [] ∧ h0 = h)) := by
 refine Met.of (EWl V) (by first | decide +kernel | rfl) hO (L0 := #[.val (.ref p0), .val (.int 0)]) rfl ?_
 intro p e s m below meth c T H
 refine G.aN H D19_0 (J := 1) rfl rfl rfl ?_
 refine G.cV H (m89 V p0 h0 H.old f1) (wq V 186 rfl) (wq V 187 rfl) (nf_sel (wd189 V)) (wd189 V) (wq V 188 rfl) (wd11 V) (wq V 190 rfl) f0 [] [] 0 4 (lenOf (pd_1) rfl) D19_1 all0 (by decide) ?_
 rintro T1 h1_ _ _ H1 ⟨rfl, rfl, rfl⟩
 show Go _ _ _ _ (T1.setTop (mkF m 4 _ [.int 0]))
 refine G.ifYes H1 D19_4 (by decide) (by decide) (J := 16) rfl ?_
 refine G.aN H1 D19_16 (J := 17) rfl rfl rfl ?_
 refine G.getF H1 (wd29 V) Via.refl f2 D19_17 (J := 20) rfl ?_
 intro T5 H6
 refine G.iN H6 D19_20 (J := 21) rfl rfl ?_
 refine G.cS H6 (m93 V p1 d0 x0 h0 H6.old f3 r4) (wq V 296 rfl) (wq V 297 rfl) (wd250 V) (wq V 298 rfl) [.ref p1, .int 0] [] 0 24 (lenOf (pd_23) rfl) D19_21 all0 (by decide) ?_
 rintro T7 h7_ _ _ H7 ⟨rfl, rfl, rfl⟩
 show Go _ _ _ _ (T7.setTop (mkF m 24 _ [.int x0]))
 exact G.retN H7 (t := .char) rfl (by decide) D19_24 (so := []) all0 (by decide) (by decide) ⟨(congrArg (fun q => some (Value.int q)) (own_narC r4)), rfl, rfl⟩
theorem m95 (V : Env1 Z a0 n0 uu0 uu1 uu2 uu3 uu4) (x0 : Int32) (h0 : Heap) (hO : Old Z n0 h0) (cc0 : ¬ x0 < 97) (cc1 : 122 < x0) (cc2 : ¬ x0 < 65) (cc3 : 90 < x0) (cc4 : ¬ x0 < 48) (cc5 : 57 < x0) (cc6 : ¬ x0 = 45) (cc7 : ¬ x0 = 46) (cc8 : ¬ x0 = 95) (cc9 : ¬ x0 = 126) :
  Met Z a0 ELs True n0 l ⟨"com/example/schema_to_form/schematoform/server/PathSegments", "isUnreserved", "(I)Z"⟩ Y9 1 (some .boolean) ⟨0, 0, 0, 0⟩ #[.int x0] h0 [] (fun v h so => (v = some (.int 0) ∧ so = [] ∧ h0 = h)) := by
 refine Met.of (EWl V) (by first | decide +kernel | rfl) hO (L0 := #[.val (.int x0)]) rfl ?_
 intro p e s m below meth c T H
 refine G.iN H D70_0 (J := 1) rfl rfl ?_
 refine G.bP H D70_1 (J := 3) rfl (v := 97) rfl ?_
 refine G.cN H D70_3 (J := 6) rfl (XT.ii_lt_f cc0) ?_
 refine G.iN H D70_6 (J := 7) rfl rfl ?_
 refine G.bP H D70_7 (J := 9) rfl (v := 122) rfl ?_
 refine G.cN H D70_9 (J := 12) rfl (XT.ii_le_f cc1) ?_
 refine G.iN H D70_12 (J := 13) rfl rfl ?_
 refine G.bP H D70_13 (J := 15) rfl (v := 65) rfl ?_
 refine G.cN H D70_15 (J := 18) rfl (XT.ii_lt_f cc2) ?_
 refine G.iN H D70_18 (J := 19) rfl rfl ?_
 refine G.bP H D70_19 (J := 21) rfl (v := 90) rfl ?_
 refine G.cN H D70_21 (J := 24) rfl (XT.ii_le_f cc3) ?_
 refine G.iN H D70_24 (J := 25) rfl rfl ?_
 refine G.bP H D70_25 (J := 27) rfl (v := 48) rfl ?_
 refine G.cN H D70_27 (J := 30) rfl (XT.ii_lt_f cc4) ?_
 refine G.iN H D70_30 (J := 31) rfl rfl ?_
 refine G.bP H D70_31 (J := 33) rfl (v := 57) rfl ?_
 refine G.cN H D70_33 (J := 36) rfl (XT.ii_le_f cc5) ?_
 refine G.iN H D70_36 (J := 37) rfl rfl ?_
 refine G.bP H D70_37 (J := 39) rfl (v := 45) rfl ?_
 refine G.cN H D70_39 (J := 42) rfl (XT.ii_eq_f cc6) ?_
 refine G.iN H D70_42 (J := 43) rfl rfl ?_
 refine G.bP H D70_43 (J := 45) rfl (v := 46) rfl ?_
 refine G.cN H D70_45 (J := 48) rfl (XT.ii_eq_f cc7) ?_
 refine G.iN H D70_48 (J := 49) rfl rfl ?_
 refine G.bP H D70_49 (J := 51) rfl (v := 95) rfl ?_
 refine G.cN H D70_51 (J := 54) rfl (XT.ii_eq_f cc8) ?_
 refine G.iN H D70_54 (J := 55) rfl rfl ?_
 refine G.bP H D70_55 (J := 57) rfl (v := 126) rfl ?_
 refine G.cY H D70_57 (XT.ii_ne_t cc9) (by decide) (J := 64) rfl ?_
 refine G.iC H D70_64 (J := 65) rfl (v := 0) rfl ?_
 exact G.retN H (t := .boolean) rfl (by decide) D70_65 (so := []) all0 (by decide) (by decide) ⟨rfl, rfl, rfl⟩
theorem m96 (V : Env1 Z a0 n0 uu0 uu1 uu2 uu3 uu4) (p0 : Addr) (p1 : Addr) (p2 : Addr) (d0 : ClassId) (x0 : Int32) (p3 : Addr) (d1 : ClassId) (h0 : Heap) (hO : Old Z n0 h0) (f0 : Exa Z h0 p0 "java/lang/String") (f1 : Fld Z h0 p0 "java/lang/String" "value" "[B" (.ref p2)) (f2 : Arv Z h0 p2 d0 .byte 2 [(.int (x0.toInt8.toInt32)), (.int ((x0 >>> ((8 : Int32) &&& 31)).toInt8.toInt32))] (.int 0)) (f3 : Fld Z h0 p0 "java/lang/String" "coder" "B" (.int 1)) (r4 : ¬ x0 < 0 ∧ ¬ 65535 < x0) (cc5 : ¬ x0 < 97) (cc6 : 122 < x0) (cc7 : ¬ x0 < 65) (cc8 : 90 < x0) (cc9 : ¬ x0 < 48) (cc10 : 57 < x0) (cc11 : ¬ x0 = 45) (cc12 : ¬ x0 = 46) (cc13 : ¬ x0 = 95) (cc14 : ¬ x0 = 126) (f15 : Exa Z h0 p1 "java/lang/String") (f16 : Str Z h0 p1 p3 d1 []) :
  Met Z a0 ELs True n0 l ⟨"com/example/schema_to_form/schematoform/server/PathSegments", "isUnreserved", "(Ljava/lang/String;Ljava/lang/String;)Z"⟩ Y14 4 (some .boolean) ⟨5, 0, 0, 66⟩ #[.ref p0, .ref p1] h0 [] (fun v h so => (v = some (.int 0) ∧ so = [] ∧ h0 = h)) := by
 refine Met.of (EWl V) (by first | decide +kernel | rfl) hO (L0 := #[.val (.ref p0), .val (.ref p1), .unset, .unset]) rfl ?_
 intro p e s m below meth c T H
 refine G.iC H D69_0 (J := 1) rfl (v := 0) rfl ?_
 refine G.sN H (L' := #[.val (.ref p0), .val (.ref p1), .val (.int 0), .unset]) D69_1 (J := 2) rfl rfl ?_
 refine G.iN H D69_2 (J := 3) rfl rfl ?_
 refine G.aN H D69_3 (J := 4) rfl rfl rfl ?_
 refine G.cV H (m88 V p0 p2 d0 x0 h0 H.old f1 f2 f0 f3) (wq V 153 rfl) (wd106 V) (nf_sel (wd108 V)) (wd108 V) (wd107 V) (wd11 V) (wd109 V) f0 [] [.int 0] 1 7 (lenOf (pd_11) rfl) D69_4 all0 (by decide) ?_
 rintro T1 h1_ _ _ H1 ⟨rfl, rfl, rfl⟩
 show Go _ _ _ _ (T1.setTop (mkF m 7 _ [.int 1, .int 0]))
 refine G.cN H1 D69_7 (J := 10) rfl (by decide) ?_
 refine G.aN H1 D69_10 (J := 11) rfl rfl rfl ?_
 refine G.iN H1 D69_11 (J := 12) rfl rfl ?_
 refine G.cV H1 (m94 V p0 p2 d0 x0 h0 H1.old f0 f3 f1 f2 r4) (wq V 181 rfl) (wq V 182 rfl) (nf_sel (wd184 V)) (wd184 V) (wq V 183 rfl) (wd11 V) (wq V 185 rfl) f0 [.int 0] [] 0 15 (lenOf (pd_41) rfl) D69_12 all0 (by decide) ?_
 rintro T5 h5_ _ _ H5 ⟨rfl, rfl, rfl⟩
 show Go _ _ _ _ (T5.setTop (mkF m 15 _ [.int x0]))
 refine G.sN H5 (L' := #[.val (.ref p0), .val (.ref p1), .val (.int 0), .val (.int x0)]) D69_15 (J := 16) rfl rfl ?_
 refine G.iN H5 D69_16 (J := 17) rfl rfl ?_
 refine G.cS H5 (m95 V x0 h0 H5.old cc5 cc6 cc7 cc8 cc9 cc10 cc11 cc12 cc13 cc14) (wq V 202 rfl) (wq V 203 rfl) (wd34 V) (wq V 204 rfl) [.int x0] [] 0 20 (lenOf (pd_9) rfl) D69_17 all0 (by decide) ?_
 rintro T9 h9_ _ _ H9 ⟨rfl, rfl, rfl⟩
 show Go _ _ _ _ (T9.setTop (mkF m 20 _ [.int 0]))
 refine G.ifNo H9 D69_20 (J := 23) rfl (by decide) ?_
 refine G.aN H9 D69_23 (J := 24) rfl rfl rfl ?_
 refine G.iN H9 D69_24 (J := 25) rfl rfl ?_
 refine G.cV H9 (m23 V p1 x0 p3 d1 h0 H9.old f15 f16) (wq V 205 rfl) (wq V 206 rfl) (nf_sel (wd208 V)) (wd208 V) (wq V 207 rfl) (wd11 V) (wq V 209 rfl) f15 [.int x0] [] 0 28 (lenOf (pd_6) rfl) D69_25 all0 (by decide) ?_
 rintro T13 h13_ _ _ H13 ⟨rfl, rfl, rfl⟩
 show Go _ _ _ _ (T13.setTop (mkF m 28 _ [(.int (-1 : Int32))]))
 refine G.ifNo H13 D69_28 (J := 31) rfl (by decide) ?_
 refine G.iC H13 D69_31 (J := 32) rfl (v := 0) rfl ?_
 exact G.retN H13 (t := .boolean) rfl (by decide) D69_32 (so := []) all0 (by decide) (by decide) ⟨rfl, rfl, rfl⟩
theorem m97 (V : Env1 Z a0 n0 uu0 uu1 uu2 uu3 uu4) (j0 : Nat) (j1 : Nat) (h0 : Heap) (hO : Old Z n0 h0) (ln0 : j0 ≤ 4000) (ln1 : j1 ≤ 4000) (ln2 : j1 < j0) :
  Met Z a0 ELs True n0 l ⟨"java/lang/Math", "min", "(II)I"⟩ Y43 2 (some .int) ⟨0, 0, 0, 0⟩ #[(.int (Int32.ofNat j0)), (.int (Int32.ofNat j1))] h0 [] (fun v h so => (v = some (.int (Int32.ofNat j1)) ∧ so = [] ∧ h0 = h)) := by
 refine Met.of (EWl V) (by first | decide +kernel | rfl) hO (L0 := #[.val (.int (Int32.ofNat j0)), .val (.int (Int32.ofNat j1))]) rfl ?_
 intro p e s m below meth c T H
 refine G.iN H D3_0 (J := 1) rfl rfl ?_
 refine G.iN H D3_1 (J := 2) rfl rfl ?_
 refine G.cY H D3_2 (XT.ii_gt_t (own_ltT (a := j1) (b := j0) (by omega) (by omega) (by omega))) (by decide) (J := 9) rfl ?_
 refine G.iN H D3_9 (J := 10) rfl rfl ?_
 exact G.retI H rfl D3_10 (so := []) all0 (by decide) (by decide) ⟨rfl, rfl, rfl⟩
theorem m98 (V : Env1 Z a0 n0 uu0 uu1 uu2 uu3 uu4) (p0 : Addr) (j0 : Nat) (d0 : ClassId) (j1 : Nat) (cs0 : List Int32) (h0 : Heap) (hO : Old Z n0 h0) (ln0 : j0 ≤ 4000) (ln1 : j1 ≤ 4000) (ln2 : cs0.length ≤ 4000) (f1 : Arv Z h0 p0 d0 .byte (Int32.ofNat j1) (cs0.map Value.int) (.int 0)) (ln4 : ¬ j0 = j1) (ln5 : j0 ≤ 24) (ln6 : j0 < j1) (ln7 : cs0.length ≤ j0) :
  Met Z a0 ELs True n0 l ⟨"java/util/Arrays", "copyOf", "([BI)[B"⟩ Y26 3 (some (.array .byte)) ⟨1, 1, 24, 40⟩ #[.ref p0, (.int (Int32.ofNat j0))] h0 [] (fun v h so => (∃ a2 : Addr, ∃ k5 : ClassId, v = some (.ref a2) ∧ so = [a2] ∧ Keep h0 h [] ∧ h0.size ≤ a2 ∧ Arv Z h a2 k5 .byte (Int32.ofNat j0) ((([] : List Int32) ++ cs0).map Value.int) (.int 0) ∧ Exa Z h a2 "[B")) := by
 refine Met.of (EWl V) (by first | decide +kernel | rfl) hO (L0 := #[.val (.ref p0), .val (.int (Int32.ofNat j0)), .unset]) rfl ?_
 intro p e s m below meth c T H
 refine G.iN H D41_0 (J := 1) rfl rfl ?_
 refine G.aN H D41_1 (J := 2) rfl rfl rfl ?_
 refine G.aR H f1 D41_2 (J := 3) rfl ?_
 refine G.cY H D41_3 (XT.ii_ne_t (own_eqF (a := j0) (b := j1) (by omega) (by omega) (by omega))) (by decide) (J := 14) rfl ?_
 refine G.iN H D41_14 (J := 15) rfl rfl ?_
 refine G.newPn H (aty := .byte) (wd24 V) D41_15 (J := 17) rfl (own_nn (a := j0) (by omega)) (cap := 24) (own_clc (a := j0) (by omega) (by omega)) (by decide) (by decide) (by decide) (ad := "[B") rfl ?_
 intro T1 h1_ a2 k5 ga2 H1 E3 A4 X6
 have na2 := H.nle ga2
 replace A4 : Arv Z h1_ a2 k5 .byte (Int32.ofNat j0) (([] : List Int32).map b8) (.int 0) := A4
 refine G.astoreN H1 (L' := #[.val (.ref p0), .val (.int (Int32.ofNat j0)), .val (.ref a2)]) D41_17 (J := 18) rfl rfl rfl ?_
 refine G.aN H1 D41_18 (J := 19) rfl rfl rfl ?_
 refine G.iC H1 D41_19 (J := 20) rfl (v := 0) rfl ?_
 refine G.aN H1 D41_20 (J := 21) rfl rfl rfl ?_
 refine G.iC H1 D41_21 (J := 22) rfl (v := 0) rfl ?_
 refine G.aN H1 D41_22 (J := 23) rfl rfl rfl ?_
 have F7 := (Arv.ext f1 E3)
 refine G.aR H1 F7 D41_23 (J := 24) rfl ?_
 refine G.iN H1 D41_24 (J := 25) rfl rfl ?_
 refine G.cS H1 (m97 V j1 j0 h1_ H1.old (by omega) (by omega) (by omega)) (wq V 97 rfl) (wq V 98 rfl) (wq V 99 rfl) (wq V 100 rfl) [(.int (Int32.ofNat j1)), (.int (Int32.ofNat j0))] [.int 0, .ref a2, .int 0, .ref p0] 4 28 (lenOf (pd_4) rfl) D41_25 all0 (by decide) ?_
 rintro T8 h8_ _ _ H8 ⟨rfl, rfl, rfl⟩
 show Go _ _ _ _ (T8.setTop (mkF m 28 _ [(.int (Int32.ofNat j0)), .int 0, .ref a2, .int 0, .ref p0]))
 refine G.copyN H8 (f := Value.int) (X := cs0) (D := ([] : List Int32)) (wq V 101 rfl) (wq V 104 rfl) (wq V 102 rfl) (wq V 103 rfl) F7 A4 (nN := j0) (dN := 0) rfl rfl (by omega) (by omega) (own_clg (a := j1) (by omega) (by omega)) (own_clg (a := j0) (by omega) (by omega)) (by omega) (by simp only [qa, qc, qn] <;> omega) na2 (Sf.mem (mG (i := 0) rfl)) (st := []) (W := 0) rfl rfl D41_28 (J := 31) rfl (by decide) (by decide) ?_
 intro T12 h12_ H12 K13 A14
 refine G.aN H12 D41_31 (J := 32) rfl rfl rfl ?_
 have F15 := (Exa.keep X6 K13)
 have K16 : Keep h0 h12_ [] := (Keep.trans (Keep.ext (Keep.refl h0 []) E3) K13 (allS (Or.inr (Nat.le_of_eq ga2.symm)) all0))
 exact G.retA H12 (t := (.array .byte)) rfl rfl rfl D41_32 (so := [a2]) (allS (mG (i := 0) rfl) all0) (by decide) (by decide) ⟨a2, k5, rfl, rfl, K16, (Nat.le_of_eq ga2.symm), A14, F15⟩
theorem m99 (V : Env1 Z a0 n0 uu0 uu1 uu2 uu3 uu4) (x0 : Int32) (h0 : Heap) (hO : Old Z n0 h0) (ns0 : x0 < 55296 ∨ ¬ x0 < 57344) :
  Met Z a0 ELs True n0 l ⟨"java/lang/Character", "isSurrogate", "(C)Z"⟩ Y57 1 (some .boolean) ⟨0, 0, 0, 0⟩ #[.int x0] h0 [] (fun v h so => (v = some (.int 0) ∧ so = [] ∧ h0 = h)) := by
 refine Met.of (EWl V) (by first | decide +kernel | rfl) hO (L0 := #[.val (.int x0)]) rfl ?_
 intro p e s m below meth c T H
 refine G.iN H D60_0 (J := 1) rfl rfl ?_
 refine G.ldcI H (wq V 314 rfl) D60_1 (J := 3) rfl ?_
 by_cases c1 : x0 < 55296
 ·
  refine G.cY H D60_3 (XT.ii_lt_t c1) (by decide) (J := 16) rfl ?_
  refine G.iC H D60_16 (J := 17) rfl (v := 0) rfl ?_
  exact G.retN H (t := .boolean) rfl (by decide) D60_17 (so := []) all0 (by decide) (by decide) ⟨rfl, rfl, rfl⟩
 ·
  refine G.cN H D60_3 (J := 6) rfl (XT.ii_lt_f c1) ?_
  refine G.iN H D60_6 (J := 7) rfl rfl ?_
  refine G.ldcI H (wq V 349 rfl) D60_7 (J := 9) rfl ?_
  refine G.cY H D60_9 (XT.ii_ge_t (ns0.resolve_left c1)) (by decide) (J := 16) rfl ?_
  refine G.iC H D60_16 (J := 17) rfl (v := 0) rfl ?_
  exact G.retN H (t := .boolean) rfl (by decide) D60_17 (so := []) all0 (by decide) (by decide) ⟨rfl, rfl, rfl⟩
theorem m100 (V : Env1 Z a0 n0 uu0 uu1 uu2 uu3 uu4) (p0 : Addr) (d0 : ClassId) (x0 : Int32) (h0 : Heap) (hO : Old Z n0 h0) (f0 : Arv Z h0 p0 d0 .byte 2 [(.int (x0.toInt8.toInt32)), (.int ((x0 >>> ((8 : Int32) &&& 31)).toInt8.toInt32))] (.int 0)) (r1 : ¬ x0 < 0 ∧ ¬ 65535 < x0) (cc2 : ¬ x0 < 128) (ns3 : x0 < 55296 ∨ ¬ x0 < 57344) :
  Met Z a0 ELs True n0 l ⟨"java/lang/String", "encodeUTF8_UTF16", "([BZ)[B"⟩ Y1 9 (some (.array .byte)) ⟨2, 2, 27, 54⟩ #[.ref p0, .int 1] h0 [] (fun v h so => (∃ a : Addr, ∃ kc : ClassId, ∃ bs : List Int32, v = some (.ref a) ∧ so = [] ∧ Keep h0 h [] ∧ h0.size ≤ a ∧ Arv Z h a kc .byte (Int32.ofNat bs.length) (bs.map Value.int) (.int 0) ∧ bs.length ≤ 6 ∧ encBs bs = encS [x0])) := by
 refine Met.of (EWl V) (by first | decide +kernel | rfl) hO (L0 := #[.val (.ref p0), .val (.int 1), .unset, .unset, .unset, .unset, .unset, .unset, .unset]) rfl ?_
 intro p e s m below meth c T H
 refine G.iC H D16_0 (J := 1) rfl (v := 0) rfl ?_
 refine G.sN H (L' := #[.val (.ref p0), .val (.int 1), .val (.int 0), .unset, .unset, .unset, .unset, .unset, .unset]) D16_1 (J := 2) rfl rfl ?_
 refine G.iC H D16_2 (J := 3) rfl (v := 0) rfl ?_
 refine G.sN H (L' := #[.val (.ref p0), .val (.int 1), .val (.int 0), .val (.int 0), .unset, .unset, .unset, .unset, .unset]) D16_3 (J := 4) rfl rfl ?_
 refine G.aN H D16_4 (J := 5) rfl rfl rfl ?_
 refine G.aR H f0 D16_5 (J := 6) rfl ?_
 refine G.iC H D16_6 (J := 7) rfl (v := 1) rfl ?_
 refine G.ishr H D16_7 (J := 8) rfl ?_
 show Go _ _ _ _ (T.setTop (mkF m 8 _ [.int 1]))
 refine G.sI H (L' := #[.val (.ref p0), .val (.int 1), .val (.int 0), .val (.int 0), .val (.int 1), .unset, .unset, .unset, .unset]) D16_8 (J := 10) rfl rfl ?_
 refine G.iL H D16_10 (J := 12) rfl rfl ?_
 refine G.iC H D16_12 (J := 13) rfl (v := 3) rfl ?_
 refine G.imul H D16_13 (J := 14) rfl ?_
 show Go _ _ _ _ (T.setTop (mkF m 14 _ [.int 3]))
 refine G.newP H (aty := .byte) (wd24 V) D16_14 (J := 16) rfl (by decide) (cap := 3) (by decide) (by decide) (by decide) (by decide) (vs := [.int 0, .int 0, .int 0]) rfl (ad := "[B") rfl ?_
 intro T1 h1_ a2 k5 ga2 H1 E3 A4 X6
 have na2 := H.nle ga2
 replace A4 : Arv Z h1_ a2 k5 .byte 3 [.int 0, .int 0, .int 0] (.int 0) := A4
 refine G.astore H1 (L' := #[.val (.ref p0), .val (.int 1), .val (.int 0), .val (.int 0), .val (.int 1), .val (.ref a2), .unset, .unset, .unset]) D16_16 (J := 18) rfl rfl rfl ?_
 refine G.iN H1 D16_18 (J := 19) rfl rfl ?_
 refine G.iL H1 D16_19 (J := 21) rfl rfl ?_
 refine G.cN H1 D16_21 (J := 24) rfl (by decide) ?_
 refine G.aN H1 D16_24 (J := 25) rfl rfl rfl ?_
 refine G.iN H1 D16_25 (J := 26) rfl rfl ?_
 have F7 := (Arv.ext f0 E3)
 refine G.cS H1 (m92 V p0 d0 x0 h1_ H1.old F7 r1) (wq V 309 rfl) (wd291 V) (wd250 V) (wd292 V) [.ref p0, .int 0] [] 0 29 (lenOf (pd_23) rfl) D16_26 all0 (by decide) ?_
 rintro T8 h8_ _ _ H8 ⟨rfl, rfl, rfl⟩
 show Go _ _ _ _ (T8.setTop (mkF m 29 _ [.int x0]))
 refine G.sI H8 (L' := #[.val (.ref p0), .val (.int 1), .val (.int 0), .val (.int 0), .val (.int 1), .val (.ref a2), .val (.int x0), .unset, .unset]) D16_29 (J := 31) rfl rfl ?_
 refine G.iL H8 D16_31 (J := 33) rfl rfl ?_
 refine G.sP H8 D16_33 (J := 36) rfl (v := 128) rfl ?_
 refine G.cN H8 D16_36 (J := 39) rfl (XT.ii_lt_f cc2) ?_
 refine G.go H8 D16_39 (by decide) (J := 58) rfl ?_
 refine G.iN H8 D16_58 (J := 59) rfl rfl ?_
 refine G.iL H8 D16_59 (J := 61) rfl rfl ?_
 refine G.cN H8 D16_61 (J := 64) rfl (by decide) ?_
 refine G.aN H8 D16_64 (J := 65) rfl rfl rfl ?_
 refine G.iN H8 D16_65 (J := 66) rfl rfl ?_
 refine G.iI H8 (v := 1) (L' := #[.val (.ref p0), .val (.int 1), .val (.int 0), .val (.int 1), .val (.int 1), .val (.ref a2), .val (.int x0), .unset, .unset]) D16_66 (J := 69) rfl rfl rfl rfl ?_
 refine G.cS H8 (m92 V p0 d0 x0 h1_ H8.old F7 r1) (wq V 309 rfl) (wd291 V) (wd250 V) (wd292 V) [.ref p0, .int 0] [] 0 72 (lenOf (pd_23) rfl) D16_69 all0 (by decide) ?_
 rintro T12 h12_ _ _ H12 ⟨rfl, rfl, rfl⟩
 show Go _ _ _ _ (T12.setTop (mkF m 72 _ [.int x0]))
 refine G.sI H12 (L' := #[.val (.ref p0), .val (.int 1), .val (.int 0), .val (.int 1), .val (.int 1), .val (.ref a2), .val (.int x0), .unset, .unset]) D16_72 (J := 74) rfl rfl ?_
 refine G.iL H12 D16_74 (J := 76) rfl rfl ?_
 refine G.sP H12 D16_76 (J := 79) rfl (v := 128) rfl ?_
 refine G.cY H12 D16_79 (XT.ii_ge_t cc2) (by decide) (J := 95) rfl ?_
 refine G.iL H12 D16_95 (J := 97) rfl rfl ?_
 refine G.sP H12 D16_97 (J := 100) rfl (v := 2048) rfl ?_
 by_cases c16 : x0 < 2048
 ·
  refine G.cN H12 D16_100 (J := 103) rfl (XT.ii_ge_f c16) ?_
  refine G.aL H12 D16_103 (J := 105) rfl rfl rfl ?_
  refine G.iN H12 D16_105 (J := 106) rfl rfl ?_
  refine G.iI H12 (v := 1) (L' := #[.val (.ref p0), .val (.int 1), .val (.int 1), .val (.int 1), .val (.int 1), .val (.ref a2), .val (.int x0), .unset, .unset]) D16_106 (J := 109) rfl rfl rfl rfl ?_
  refine G.sP H12 D16_109 (J := 112) rfl (v := 192) rfl ?_
  refine G.iL H12 D16_112 (J := 114) rfl rfl ?_
  refine G.bP H12 D16_114 (J := 116) rfl (v := 6) rfl ?_
  refine G.ishr H12 D16_116 (J := 117) rfl ?_
  refine G.ior H12 D16_117 (J := 118) rfl ?_
  refine G.i2b H12 D16_118 (J := 119) rfl ?_
  obtain ⟨u17, eu17⟩ : ∃ q, q = ((192 ||| (x0 >>> ((6 : Int32) &&& 31))) : Int32).toInt8.toInt32 := ⟨_, rfl⟩
  rw [← eu17]
  refine G.stB H12 A4 (by decide) (i := 0) rfl lB na2 (Sf.mem (mG (i := 0) rfl)) (y := u17) (own_narBg eu17) D16_119 (J := 120) rfl ?_
  intro T18 h18_ H18 W19 A20
  replace A20 : Arv Z h18_ a2 k5 .byte 3 [.int u17, .int 0, .int 0] (.int 0) := A20
  refine G.aL H18 D16_120 (J := 122) rfl rfl rfl ?_
  refine G.iN H18 D16_122 (J := 123) rfl rfl ?_
  refine G.iI H18 (v := 2) (L' := #[.val (.ref p0), .val (.int 1), .val (.int 2), .val (.int 1), .val (.int 1), .val (.ref a2), .val (.int x0), .unset, .unset]) D16_123 (J := 126) rfl rfl rfl rfl ?_
  refine G.sP H18 D16_126 (J := 129) rfl (v := 128) rfl ?_
  refine G.iL H18 D16_129 (J := 131) rfl rfl ?_
  refine G.bP H18 D16_131 (J := 133) rfl (v := 63) rfl ?_
  refine G.iand H18 D16_133 (J := 134) rfl ?_
  refine G.ior H18 D16_134 (J := 135) rfl ?_
  refine G.i2b H18 D16_135 (J := 136) rfl ?_
  obtain ⟨u21, eu21⟩ : ∃ q, q = ((128 ||| (x0 &&& 63)) : Int32).toInt8.toInt32 := ⟨_, rfl⟩
  rw [← eu21]
  have F25 := (Exa.wr W19 X6)
  refine G.stB H18 A20 (by decide) (i := 1) rfl lB na2 (Sf.mem (mG (i := 0) rfl)) (y := u21) (own_narBg eu21) D16_136 (J := 137) rfl ?_
  intro T22 h22_ H22 W23 A24
  replace A24 : Arv Z h22_ a2 k5 .byte 3 [.int u17, .int u21, .int 0] (.int 0) := A24
  refine G.go H22 D16_137 (by decide) (J := 352) rfl ?_
  refine G.go H22 D16_352 (by decide) (J := 58) rfl ?_
  show Go _ _ _ _ (T22.setTop (mkF m 58 _ []))
  refine G.iN H22 D16_58 (J := 59) rfl rfl ?_
  refine G.iL H22 D16_59 (J := 61) rfl rfl ?_
  refine G.cY H22 D16_61 (by decide) (by decide) (J := 355) rfl ?_
  refine G.iN H22 D16_355 (J := 356) rfl rfl ?_
  refine G.aL H22 D16_356 (J := 358) rfl rfl rfl ?_
  refine G.aR H22 A24 D16_358 (J := 359) rfl ?_
  refine G.cY H22 D16_359 (by decide) (by decide) (J := 365) rfl ?_
  refine G.aL H22 D16_365 (J := 367) rfl rfl rfl ?_
  refine G.iN H22 D16_367 (J := 368) rfl rfl ?_
  refine G.cS H22 (m98 V a2 2 k5 3 ([u17, u21] : List Int32) h22_ H22.old (by omega) (by omega) (by simp only [qa, qc, qn] <;> omega) (Arv.pad A24 (fun i => (pad_rep (([u17, u21] : List Int32).map Value.int) (.int 0) 1 i).symm)) (by omega) (by omega) (by omega) (by simp only [qa, qc, qn] <;> omega)) (wd346 V) (wd328 V) (wd89 V) (wd329 V) [.ref a2, .int 2] [] 0 371 (lenOf (pd_7) rfl) D16_368 all0 (by decide) ?_
  rintro T26 h26_ _ _ H26 ⟨a30, k31, rfl, rfl, K32, g33, F34, F35⟩
  have na30 := Nat.le_trans H22.le g33
  show Go _ _ _ _ (T26.setTop (mkF m 371 _ [.ref a30]))
  have K36 : Keep h0 h26_ [] := (Keep.trans (Keep.wr (Keep.wr (Keep.ext (Keep.refl h0 []) E3) W19 (Or.inr (Nat.le_of_eq ga2.symm))) W23 (Or.inr (Nat.le_of_eq ga2.symm))) K32 all0)
  have K37 : Keep h0 h22_ [] := (Keep.wr (Keep.wr (Keep.ext (Keep.refl h0 []) E3) W19 (Or.inr (Nat.le_of_eq ga2.symm))) W23 (Or.inr (Nat.le_of_eq ga2.symm)))
  exact G.retA H26 (t := (.array .byte)) rfl rfl rfl D16_371 (so := []) all0 (by decide) (by decide) ⟨a30, k31, [u17, u21], rfl, rfl, K36, (Nat.le_trans K37.1 g33), F34, lB, (by subst eu17; subst eu21; rw [own_e1, own_k5 r1 cc2 c16]; simp only [encBs, List.flatMap_cons, List.flatMap_nil, List.append_nil, List.append_assoc])⟩
 ·
  refine G.cY H12 D16_100 (XT.ii_ge_t c16) (by decide) (J := 140) rfl ?_
  refine G.iL H12 D16_140 (J := 142) rfl rfl ?_
  refine G.cS H12 (m99 V x0 h1_ H12.old ns3) (wq V 310 rfl) (wq V 311 rfl) (wq V 312 rfl) (wq V 313 rfl) [.int x0] [] 0 145 (lenOf (pd_2) rfl) D16_142 all0 (by decide) ?_
  rintro T38 h38_ _ _ H38 ⟨rfl, rfl, rfl⟩
  show Go _ _ _ _ (T38.setTop (mkF m 145 _ [.int 0]))
  refine G.ifYes H38 D16_145 (by decide) (by decide) (J := 298) rfl ?_
  refine G.aL H38 D16_298 (J := 300) rfl rfl rfl ?_
  refine G.iN H38 D16_300 (J := 301) rfl rfl ?_
  refine G.iI H38 (v := 1) (L' := #[.val (.ref p0), .val (.int 1), .val (.int 1), .val (.int 1), .val (.int 1), .val (.ref a2), .val (.int x0), .unset, .unset]) D16_301 (J := 304) rfl rfl rfl rfl ?_
  refine G.sP H38 D16_304 (J := 307) rfl (v := 224) rfl ?_
  refine G.iL H38 D16_307 (J := 309) rfl rfl ?_
  refine G.bP H38 D16_309 (J := 311) rfl (v := 12) rfl ?_
  refine G.ishr H38 D16_311 (J := 312) rfl ?_
  refine G.ior H38 D16_312 (J := 313) rfl ?_
  refine G.i2b H38 D16_313 (J := 314) rfl ?_
  obtain ⟨u42, eu42⟩ : ∃ q, q = ((224 ||| (x0 >>> ((12 : Int32) &&& 31))) : Int32).toInt8.toInt32 := ⟨_, rfl⟩
  rw [← eu42]
  refine G.stB H38 A4 (by decide) (i := 0) rfl lB na2 (Sf.mem (mG (i := 0) rfl)) (y := u42) (own_narBg eu42) D16_314 (J := 315) rfl ?_
  intro T43 h43_ H43 W44 A45
  replace A45 : Arv Z h43_ a2 k5 .byte 3 [.int u42, .int 0, .int 0] (.int 0) := A45
  refine G.aL H43 D16_315 (J := 317) rfl rfl rfl ?_
  refine G.iN H43 D16_317 (J := 318) rfl rfl ?_
  refine G.iI H43 (v := 2) (L' := #[.val (.ref p0), .val (.int 1), .val (.int 2), .val (.int 1), .val (.int 1), .val (.ref a2), .val (.int x0), .unset, .unset]) D16_318 (J := 321) rfl rfl rfl rfl ?_
  refine G.sP H43 D16_321 (J := 324) rfl (v := 128) rfl ?_
  refine G.iL H43 D16_324 (J := 326) rfl rfl ?_
  refine G.bP H43 D16_326 (J := 328) rfl (v := 6) rfl ?_
  refine G.ishr H43 D16_328 (J := 329) rfl ?_
  refine G.bP H43 D16_329 (J := 331) rfl (v := 63) rfl ?_
  refine G.iand H43 D16_331 (J := 332) rfl ?_
  refine G.ior H43 D16_332 (J := 333) rfl ?_
  refine G.i2b H43 D16_333 (J := 334) rfl ?_
  obtain ⟨u46, eu46⟩ : ∃ q, q = ((128 ||| ((x0 >>> ((6 : Int32) &&& 31)) &&& 63)) : Int32).toInt8.toInt32 := ⟨_, rfl⟩
  rw [← eu46]
  have F50 := (Exa.wr W44 X6)
  refine G.stB H43 A45 (by decide) (i := 1) rfl lB na2 (Sf.mem (mG (i := 0) rfl)) (y := u46) (own_narBg eu46) D16_334 (J := 335) rfl ?_
  intro T47 h47_ H47 W48 A49
  replace A49 : Arv Z h47_ a2 k5 .byte 3 [.int u42, .int u46, .int 0] (.int 0) := A49
  refine G.aL H47 D16_335 (J := 337) rfl rfl rfl ?_
  refine G.iN H47 D16_337 (J := 338) rfl rfl ?_
  refine G.iI H47 (v := 3) (L' := #[.val (.ref p0), .val (.int 1), .val (.int 3), .val (.int 1), .val (.int 1), .val (.ref a2), .val (.int x0), .unset, .unset]) D16_338 (J := 341) rfl rfl rfl rfl ?_
  refine G.sP H47 D16_341 (J := 344) rfl (v := 128) rfl ?_
  refine G.iL H47 D16_344 (J := 346) rfl rfl ?_
  refine G.bP H47 D16_346 (J := 348) rfl (v := 63) rfl ?_
  refine G.iand H47 D16_348 (J := 349) rfl ?_
  refine G.ior H47 D16_349 (J := 350) rfl ?_
  refine G.i2b H47 D16_350 (J := 351) rfl ?_
  obtain ⟨u51, eu51⟩ : ∃ q, q = ((128 ||| (x0 &&& 63)) : Int32).toInt8.toInt32 := ⟨_, rfl⟩
  rw [← eu51]
  have F55 := (Exa.wr W48 F50)
  refine G.stB H47 A49 (by decide) (i := 2) rfl lB na2 (Sf.mem (mG (i := 0) rfl)) (y := u51) (own_narBg eu51) D16_351 (J := 352) rfl ?_
  intro T52 h52_ H52 W53 A54
  replace A54 : Arv Z h52_ a2 k5 .byte 3 [.int u42, .int u46, .int u51] (.int 0) := A54
  refine G.go H52 D16_352 (by decide) (J := 58) rfl ?_
  show Go _ _ _ _ (T52.setTop (mkF m 58 _ []))
  refine G.iN H52 D16_58 (J := 59) rfl rfl ?_
  refine G.iL H52 D16_59 (J := 61) rfl rfl ?_
  refine G.cY H52 D16_61 (by decide) (by decide) (J := 355) rfl ?_
  refine G.iN H52 D16_355 (J := 356) rfl rfl ?_
  refine G.aL H52 D16_356 (J := 358) rfl rfl rfl ?_
  refine G.aR H52 A54 D16_358 (J := 359) rfl ?_
  refine G.cN H52 D16_359 (J := 362) rfl (by decide) ?_
  refine G.aL H52 D16_362 (J := 364) rfl rfl rfl ?_
  have F56 := (Exa.wr W53 F55)
  have K57 : Keep h0 h52_ [] := (Keep.wr (Keep.wr (Keep.wr (Keep.ext (Keep.refl h0 []) E3) W44 (Or.inr (Nat.le_of_eq ga2.symm))) W48 (Or.inr (Nat.le_of_eq ga2.symm))) W53 (Or.inr (Nat.le_of_eq ga2.symm)))
  exact G.retA H52 (t := (.array .byte)) rfl rfl rfl D16_364 (so := []) all0 (by decide) (by decide) ⟨a2, k5, [u42, u46, u51], rfl, rfl, K57, (Nat.le_of_eq ga2.symm), A54, lB, (by subst eu42; subst eu46; subst eu51; rw [own_e1, own_k6 r1 cc2 c16]; simp only [encBs, List.flatMap_cons, List.flatMap_nil, List.append_nil, List.append_assoc])⟩
theorem m101 (V : Env1 Z a0 n0 uu0 uu1 uu2 uu3 uu4) (p0 : Addr) (d0 : ClassId) (x0 : Int32) (h0 : Heap) (hO : Old Z n0 h0) (f0 : Arv Z h0 p0 d0 .byte 2 [(.int (x0.toInt8.toInt32)), (.int ((x0 >>> ((8 : Int32) &&& 31)).toInt8.toInt32))] (.int 0)) (r1 : ¬ x0 < 0 ∧ ¬ 65535 < x0) (cc2 : ¬ x0 < 128) (ns3 : x0 < 55296 ∨ ¬ x0 < 57344) :
  Met Z a0 ELs True n0 l ⟨"java/lang/String", "encodeUTF8", "(B[BZ)[B"⟩ Y2 9 (some (.array .byte)) ⟨3, 2, 27, 74⟩ #[.int 1, .ref p0, .int 1] h0 [] (fun v h so => (∃ a : Addr, ∃ kc : ClassId, ∃ bs : List Int32, v = some (.ref a) ∧ so = [] ∧ Keep h0 h [] ∧ h0.size ≤ a ∧ Arv Z h a kc .byte (Int32.ofNat bs.length) (bs.map Value.int) (.int 0) ∧ bs.length ≤ 6 ∧ encBs bs = encS [x0])) := by
 refine Met.of (EWl V) (by first | decide +kernel | rfl) hO (L0 := #[.val (.int 1), .val (.ref p0), .val (.int 1), .unset, .unset, .unset, .unset, .unset, .unset]) rfl ?_
 intro p e s m below meth c T H
 refine G.iN H D15_0 (J := 1) rfl rfl ?_
 refine G.iC H D15_1 (J := 2) rfl (v := 1) rfl ?_
 refine G.cN H D15_2 (J := 5) rfl (by decide) ?_
 refine G.aN H D15_5 (J := 6) rfl rfl rfl ?_
 refine G.iN H D15_6 (J := 7) rfl rfl ?_
 refine G.cS H (m100 V p0 d0 x0 h0 H.old f0 r1 cc2 ns3) (wq V 306 rfl) (wq V 307 rfl) (wd11 V) (wq V 308 rfl) [.ref p0, .int 1] [] 0 10 (lenOf (pd_49) rfl) D15_7 all0 (by decide) ?_
 rintro T1 h1_ _ _ H1 ⟨a5, k6, l7, rfl, rfl, K8, g9, F10, R11, R12⟩
 have na5 := Nat.le_trans H.le g9
 show Go _ _ _ _ (T1.setTop (mkF m 10 _ [.ref a5]))
 have K13 : Keep h0 h1_ [] := (Keep.trans (Keep.refl h0 []) K8 all0)
 exact G.retA H1 (t := (.array .byte)) rfl rfl rfl D15_10 (so := []) all0 (by decide) (by decide) ⟨a5, k6, l7, rfl, rfl, K13, g9, F10, (by omega), R12⟩
theorem m102 (V : Env1 Z a0 n0 uu0 uu1 uu2 uu3 uu4) (p0 : Addr) (d0 : ClassId) (x0 : Int32) (h0 : Heap) (hO : Old Z n0 h0) (f0 : Arv Z h0 p0 d0 .byte 2 [(.int (x0.toInt8.toInt32)), (.int ((x0 >>> ((8 : Int32) &&& 31)).toInt8.toInt32))] (.int 0)) (r1 : ¬ x0 < 0 ∧ ¬ 65535 < x0) (cc2 : ¬ x0 < 128) (ns3 : x0 < 55296 ∨ ¬ x0 < 57344) :
  Met Z a0 ELs True n0 l ⟨"java/lang/String", "encode", "(Ljava/nio/charset/Charset;B[B)[B"⟩ Y41 3 (some (.array .byte)) ⟨4, 2, 27, 94⟩ #[.ref uu1, .int 1, .ref p0] h0 [] (fun v h so => (∃ a : Addr, ∃ kc : ClassId, ∃ bs : List Int32, v = some (.ref a) ∧ so = [] ∧ Keep h0 h [] ∧ h0.size ≤ a ∧ Arv Z h a kc .byte (Int32.ofNat bs.length) (bs.map Value.int) (.int 0) ∧ bs.length ≤ 6 ∧ encBs bs = encS [x0])) := by
 refine Met.of (EWl V) (by first | decide +kernel | rfl) hO (L0 := #[.val (.ref uu1), .val (.int 1), .val (.ref p0)]) rfl ?_
 intro p e s m below meth c T H
 refine G.aN H D13_0 (J := 1) rfl rfl rfl ?_
 refine G.getS H (wq V 236 rfl) Via.refl (Sta.ext H.old.2 (hv1 V)) D13_1 (J := 4) rfl ?_
 intro T1 H2
 refine G.acmpNo H2 D13_4 (J := 7) rfl rfl rfl (XT.aa_ne_f rfl) ?_
 refine G.iN H2 D13_7 (J := 8) rfl rfl ?_
 refine G.aN H2 D13_8 (J := 9) rfl rfl rfl ?_
 refine G.iC H2 D13_9 (J := 10) rfl (v := 1) rfl ?_
 refine G.cS H2 (m101 V p0 d0 x0 h0 H2.old f0 r1 cc2 ns3) (wq V 238 rfl) (wq V 239 rfl) (wd11 V) (wq V 240 rfl) [.int 1, .ref p0, .int 1] [] 0 13 (lenOf (pd_44) rfl) D13_10 all0 (by decide) ?_
 rintro T3 h3_ _ _ H3 ⟨a7, k8, l9, rfl, rfl, K10, g11, F12, R13, R14⟩
 have na7 := Nat.le_trans H.le g11
 show Go _ _ _ _ (T3.setTop (mkF m 13 _ [.ref a7]))
 have K15 : Keep h0 h3_ [] := (Keep.trans (Keep.refl h0 []) K10 all0)
 exact G.retA H3 (t := (.array .byte)) rfl rfl rfl D13_13 (so := []) all0 (by decide) (by decide) ⟨a7, k8, l9, rfl, rfl, K15, g11, F12, (by omega), R14⟩
theorem m103 (V : Env1 Z a0 n0 uu0 uu1 uu2 uu3 uu4) (p0 : Addr) (p1 : Addr) (d0 : ClassId) (x0 : Int32) (h0 : Heap) (hO : Old Z n0 h0) (f0 : Fld Z h0 p0 "java/lang/String" "value" "[B" (.ref p1)) (f1 : Arv Z h0 p1 d0 .byte 2 [(.int (x0.toInt8.toInt32)), (.int ((x0 >>> ((8 : Int32) &&& 31)).toInt8.toInt32))] (.int 0)) (f2 : Exa Z h0 p0 "java/lang/String") (f3 : Fld Z h0 p0 "java/lang/String" "coder" "B" (.int 1)) (r4 : ¬ x0 < 0 ∧ ¬ 65535 < x0) (cc5 : ¬ x0 < 128) (ns6 : x0 < 55296 ∨ ¬ x0 < 57344) :
  Met Z a0 ELs True n0 l ⟨"java/lang/String", "getBytes", "(Ljava/nio/charset/Charset;)[B"⟩ Y38 2 (some (.array .byte)) ⟨5, 2, 27, 108⟩ #[.ref p0, .ref uu1] h0 [] (fun v h so => (∃ a : Addr, ∃ kc : ClassId, ∃ bs : List Int32, v = some (.ref a) ∧ so = [] ∧ Keep h0 h [] ∧ h0.size ≤ a ∧ Arv Z h a kc .byte (Int32.ofNat bs.length) (bs.map Value.int) (.int 0) ∧ bs.length ≤ 6 ∧ encBs bs = encS [x0])) := by
 refine Met.of (EWl V) (by first | decide +kernel | rfl) hO (L0 := #[.val (.ref p0), .val (.ref uu1)]) rfl ?_
 intro p e s m below meth c T H
 refine G.aN H D20_0 (J := 1) rfl rfl rfl ?_
 refine G.ifnonnullYes H D20_1 (by decide) (J := 12) rfl ?_
 refine G.aN H D20_12 (J := 13) rfl rfl rfl ?_
 refine G.aN H D20_13 (J := 14) rfl rfl rfl ?_
 refine G.cV H (m87 V p0 h0 H.old f3) (wd110 V) (wd111 V) (nf_sel (wd113 V)) (wd113 V) (wd112 V) (wd11 V) (wd114 V) f2 [] [.ref uu1] 1 17 (lenOf (pd_10) rfl) D20_14 all0 (by decide) ?_
 rintro T1 h1_ _ _ H1 ⟨rfl, rfl, rfl⟩
 show Go _ _ _ _ (T1.setTop (mkF m 17 _ [.int 1, .ref uu1]))
 refine G.aN H1 D20_17 (J := 18) rfl rfl rfl ?_
 refine G.getF H1 (wd29 V) Via.refl f0 D20_18 (J := 21) rfl ?_
 intro T5 H6
 refine G.cS H6 (m102 V p1 d0 x0 h0 H6.old f1 r4 cc5 ns6) (wq V 233 rfl) (wq V 234 rfl) (wd11 V) (wq V 235 rfl) [.ref uu1, .int 1, .ref p1] [] 0 24 (lenOf (pd_45) rfl) D20_21 all0 (by decide) ?_
 rintro T7 h7_ _ _ H7 ⟨a11, k12, l13, rfl, rfl, K14, g15, F16, R17, R18⟩
 have na11 := Nat.le_trans H1.le g15
 show Go _ _ _ _ (T7.setTop (mkF m 24 _ [.ref a11]))
 have K19 : Keep h0 h7_ [] := (Keep.trans (Keep.refl h0 []) K14 all0)
 exact G.retA H7 (t := (.array .byte)) rfl rfl rfl D20_24 (so := []) all0 (by decide) (by decide) ⟨a11, k12, l13, rfl, rfl, K19, g15, F16, (by omega), R18⟩
theorem m104 (V : Env1 Z a0 n0 uu0 uu1 uu2 uu3 uu4) (p0 : Addr) (p1 : Addr) (d0 : ClassId) (x0 : Int32) (x1 : Int32) (h0 : Heap) (hO : Old Z n0 h0) (f0 : Str Z h0 p0 p1 d0 [x0, x1]) :
  Met Z a0 ELs True n0 l ⟨"java/lang/String", "coder", "()B"⟩ Y44 1 (some .byte) ⟨0, 0, 0, 0⟩ #[.ref p0] h0 [] (fun v h so => (v = some (.int 0) ∧ so = [] ∧ h0 = h)) := by
 refine Met.of (EWl V) (by first | decide +kernel | rfl) hO (L0 := #[.val (.ref p0)]) rfl ?_
 intro p e s m below meth c T H
 refine G.getS H (wd115 V) Via.refl (Sta.ext H.old.2 (hv8 V)) D10_0 (J := 3) rfl ?_
 intro T1 H2
 refine G.ifNo H2 D10_3 (J := 6) rfl (XT.i0_eq_f (hv9 V)) ?_
 refine G.aN H2 D10_6 (J := 7) rfl rfl rfl ?_
 refine G.getF H2 (wd30 V) Via.refl f0.2.1 D10_7 (J := 10) rfl ?_
 intro T3 H4
 refine G.go H4 D10_10 (by decide) (J := 14) rfl ?_
 exact G.retN H4 (t := .byte) rfl (by decide) D10_14 (so := []) all0 (by decide) (by decide) ⟨rfl, rfl, rfl⟩
theorem m105 (V : Env1 Z a0 n0 uu0 uu1 uu2 uu3 uu4) (p0 : Addr) (p1 : Addr) (d0 : ClassId) (x0 : Int32) (x1 : Int32) (h0 : Heap) (hO : Old Z n0 h0) (f0 : Str Z h0 p0 p1 d0 [x0, x1]) :
  Met Z a0 ELs True n0 l ⟨"java/lang/String", "length", "()I"⟩ Y40 1 (some .int) ⟨1, 0, 0, 13⟩ #[.ref p0] h0 [] (fun v h so => (v = some (.int 2) ∧ so = [] ∧ h0 = h)) := by
 refine Met.of (EWl V) (by first | decide +kernel | rfl) hO (L0 := #[.val (.ref p0)]) rfl ?_
 intro p e s m below meth c T H
 refine G.aN H D18_0 (J := 1) rfl rfl rfl ?_
 refine G.getF H (wd29 V) Via.refl f0.2.2.1 D18_1 (J := 4) rfl ?_
 intro T1 H2
 have A3 : Arv Z h0 p1 d0 .byte 2 [(.int (x0.toInt8.toInt32)), (.int (x1.toInt8.toInt32))] (.int 0) := f0.2.2.2.1
 refine G.aR H2 A3 D18_4 (J := 5) rfl ?_
 refine G.aN H2 D18_5 (J := 6) rfl rfl rfl ?_
 refine G.cV H2 (m104 V p0 p1 d0 x0 x1 h0 H2.old f0) (wd110 V) (wd111 V) (nf_sel (wd113 V)) (wd113 V) (wd112 V) (wd11 V) (wd114 V) f0.1 [] [.int 2] 1 9 (lenOf (pd_10) rfl) D18_6 all0 (by decide) ?_
 rintro T4 h4_ _ _ H4 ⟨rfl, rfl, rfl⟩
 show Go _ _ _ _ (T4.setTop (mkF m 9 _ [.int 0, .int 2]))
 refine G.ishr H4 D18_9 (J := 10) rfl ?_
 show Go _ _ _ _ (T4.setTop (mkF m 10 _ [.int 2]))
 exact G.retI H4 rfl D18_10 (so := []) all0 (by decide) (by decide) ⟨rfl, rfl, rfl⟩
theorem m106 (V : Env1 Z a0 n0 uu0 uu1 uu2 uu3 uu4) (p0 : Addr) (p1 : Addr) (d0 : ClassId) (x0 : Int32) (x1 : Int32) (h0 : Heap) (hO : Old Z n0 h0) (f0 : Str Z h0 p0 p1 d0 [x0, x1]) :
  Met Z a0 ELs True n0 l ⟨"java/lang/String", "isLatin1", "()Z"⟩ Y35 1 (some .boolean) ⟨0, 0, 0, 0⟩ #[.ref p0] h0 [] (fun v h so => (v = some (.int 1) ∧ so = [] ∧ h0 = h)) := by
 refine Met.of (EWl V) (by first | decide +kernel | rfl) hO (L0 := #[.val (.ref p0)]) rfl ?_
 intro p e s m below meth c T H
 refine G.getS H (wd115 V) Via.refl (Sta.ext H.old.2 (hv8 V)) D11_0 (J := 3) rfl ?_
 intro T1 H2
 refine G.ifNo H2 D11_3 (J := 6) rfl (XT.i0_eq_f (hv9 V)) ?_
 refine G.aN H2 D11_6 (J := 7) rfl rfl rfl ?_
 refine G.getF H2 (wd30 V) Via.refl f0.2.1 D11_7 (J := 10) rfl ?_
 intro T3 H4
 refine G.ifNo H4 D11_10 (J := 13) rfl (by decide) ?_
 refine G.iC H4 D11_13 (J := 14) rfl (v := 1) rfl ?_
 refine G.go H4 D11_14 (by decide) (J := 18) rfl ?_
 exact G.retN H4 (t := .boolean) rfl (by decide) D11_18 (so := []) all0 (by decide) (by decide) ⟨rfl, rfl, rfl⟩
theorem m107 (V : Env1 Z a0 n0 uu0 uu1 uu2 uu3 uu4)  (h0 : Heap) (hO : Old Z n0 h0)  :
  Met Z a0 ELs True n0 l ⟨"jdk/internal/util/Preconditions", "checkIndex", "(IILjava/util/function/BiFunction;)I"⟩ Y46 3 (some .int) ⟨0, 0, 0, 0⟩ #[.int 0, .int 2, uu3] h0 [] (fun v h so => (v = some (.int 0) ∧ so = [] ∧ h0 = h)) := by
 refine Met.of (EWl V) (by first | decide +kernel | rfl) hO (L0 := #[.val (.int 0), .val (.int 2), .val uu3]) (by rcases XT.refc (hv11 V) with rfl | ⟨_, rfl⟩ <;> rfl) ?_
 intro p e s m below meth c T H
 refine G.iN H D4_0 (J := 1) rfl rfl ?_
 refine G.ifNo H D4_1 (J := 4) rfl (by decide) ?_
 refine G.iN H D4_4 (J := 5) rfl rfl ?_
 refine G.iN H D4_5 (J := 6) rfl rfl ?_
 refine G.cY H D4_6 (by decide) (by decide) (J := 16) rfl ?_
 refine G.iN H D4_16 (J := 17) rfl rfl ?_
 exact G.retI H rfl D4_17 (so := []) all0 (by decide) (by decide) ⟨rfl, rfl, rfl⟩
theorem m108 (V : Env1 Z a0 n0 uu0 uu1 uu2 uu3 uu4)  (h0 : Heap) (hO : Old Z n0 h0)  :
  Met Z a0 ELs True n0 l ⟨"java/lang/String", "checkIndex", "(II)V"⟩ Y50 2 none ⟨1, 0, 0, 14⟩ #[.int 0, .int 2] h0 [] (fun v h so => (v = none ∧ so = [] ∧ h0 = h)) := by
 refine Met.of (EWl V) (by first | decide +kernel | rfl) hO (L0 := #[.val (.int 0), .val (.int 2)]) rfl ?_
 intro p e s m below meth c T H
 refine G.iN H D12_0 (J := 1) rfl rfl ?_
 refine G.iN H D12_1 (J := 2) rfl rfl ?_
 refine G.getS H (wq V 197 rfl) Via.refl (Sta.ext H.old.2 (hv10 V)) D12_2 (J := 5) rfl ?_
 intro T1 H2
 refine G.cS H2 (m107 V h0 H2.old) (wq V 199 rfl) (wq V 200 rfl) (wq V 198 rfl) (wq V 201 rfl) [.int 0, .int 2, uu3] [] 0 8 (lenOf (pd_40) rfl) D12_5 all0 (by decide) ?_
 rintro T3 h3_ _ _ H3 ⟨rfl, rfl, rfl⟩
 show Go _ _ _ _ (T3.setTop (mkF m 8 _ [.int 0]))
 refine G.pop H3 D12_8 (J := 9) rfl rfl ?_
 exact G.retV H3 rfl D12_9 (so := []) all0 (by decide) (by decide) ⟨rfl, rfl, rfl⟩
theorem m109 (V : Env1 Z a0 n0 uu0 uu1 uu2 uu3 uu4) (p0 : Addr) (d0 : ClassId) (x0 : Int32) (x1 : Int32) (h0 : Heap) (hO : Old Z n0 h0) (f0 : Arv Z h0 p0 d0 .byte 2 [(.int (x0.toInt8.toInt32)), (.int (x1.toInt8.toInt32))] (.int 0)) (r1 : ¬ x0 < 0 ∧ ¬ 255 < x0) :
  Met Z a0 ELs True n0 l ⟨"java/lang/StringLatin1", "charAt", "([BI)C"⟩ Y34 2 (some .char) ⟨2, 0, 0, 27⟩ #[.ref p0, .int 0] h0 [] (fun v h so => (v = some (.int x0) ∧ so = [] ∧ h0 = h)) := by
 refine Met.of (EWl V) (by first | decide +kernel | rfl) hO (L0 := #[.val (.ref p0), .val (.int 0)]) rfl ?_
 intro p e s m below meth c T H
 refine G.iN H D24_0 (J := 1) rfl rfl ?_
 refine G.aN H D24_1 (J := 2) rfl rfl rfl ?_
 refine G.aR H f0 D24_2 (J := 3) rfl ?_
 refine G.cS H (m108 V h0 H.old) (wq V 194 rfl) (wq V 195 rfl) (wd11 V) (wq V 196 rfl) [.int 0, .int 2] [] 0 6 (lenOf (pd_28) rfl) D24_3 all0 (by decide) ?_
 rintro T1 h1_ _ _ H1 ⟨rfl, rfl, rfl⟩
 show Go _ _ _ _ (T1.setTop (mkF m 6 _ []))
 refine G.aN H1 D24_6 (J := 7) rfl rfl rfl ?_
 refine G.iN H1 D24_7 (J := 8) rfl rfl ?_
 refine G.baloadG H1 f0 (j := 0) (v := (.int (x0.toInt8.toInt32))) (by decide) rfl D24_8 (J := 9) rfl ?_
 refine G.sP H1 D24_9 (J := 12) rfl (v := 255) rfl ?_
 refine G.iand H1 D24_12 (J := 13) rfl ?_
 rw [own_b8and r1]
 refine G.i2c H1 (y := x0) D24_13 (J := 14) rfl (own_c16 (own_u16 r1)) ?_
 exact G.retN H1 (t := .char) rfl (by decide) D24_14 (so := []) all0 (by decide) (by decide) ⟨(congrArg (fun q => some (Value.int q)) (own_narC (own_u16 r1))), rfl, rfl⟩
theorem m110 (V : Env1 Z a0 n0 uu0 uu1 uu2 uu3 uu4) (p0 : Addr) (p1 : Addr) (d0 : ClassId) (x0 : Int32) (x1 : Int32) (h0 : Heap) (hO : Old Z n0 h0) (f0 : Exa Z h0 p0 "java/lang/String") (f1 : Str Z h0 p0 p1 d0 [x0, x1]) (r2 : ¬ x0 < 0 ∧ ¬ 255 < x0) :
  Met Z a0 ELs True n0 l ⟨"java/lang/String", "charAt", "(I)C"⟩ Y28 2 (some .char) ⟨3, 0, 0, 40⟩ #[.ref p0, .int 0] h0 [] (fun v h so => (v = some (.int x0) ∧ so = [] ∧ h0 = h)) := by
 refine Met.of (EWl V) (by first | decide +kernel | rfl) hO (L0 := #[.val (.ref p0), .val (.int 0)]) rfl ?_
 intro p e s m below meth c T H
 refine G.aN H D19_0 (J := 1) rfl rfl rfl ?_
 refine G.cV H (m106 V p0 p1 d0 x0 x1 h0 H.old f1) (wq V 186 rfl) (wq V 187 rfl) (nf_sel (wd189 V)) (wd189 V) (wq V 188 rfl) (wd11 V) (wq V 190 rfl) f0 [] [] 0 4 (lenOf (pd_1) rfl) D19_1 all0 (by decide) ?_
 rintro T1 h1_ _ _ H1 ⟨rfl, rfl, rfl⟩
 show Go _ _ _ _ (T1.setTop (mkF m 4 _ [.int 1]))
 refine G.ifNo H1 D19_4 (J := 7) rfl (by decide) ?_
 refine G.aN H1 D19_7 (J := 8) rfl rfl rfl ?_
 refine G.getF H1 (wd29 V) Via.refl f1.2.2.1 D19_8 (J := 11) rfl ?_
 intro T5 H6
 refine G.iN H6 D19_11 (J := 12) rfl rfl ?_
 have A7 : Arv Z h0 p1 d0 .byte 2 [(.int (x0.toInt8.toInt32)), (.int (x1.toInt8.toInt32))] (.int 0) := f1.2.2.2.1
 refine G.cS H6 (m109 V p1 d0 x0 x1 h0 H6.old A7 r2) (wq V 191 rfl) (wq V 192 rfl) (wd121 V) (wq V 193 rfl) [.ref p1, .int 0] [] 0 15 (lenOf (pd_23) rfl) D19_12 all0 (by decide) ?_
 rintro T8 h8_ _ _ H8 ⟨rfl, rfl, rfl⟩
 show Go _ _ _ _ (T8.setTop (mkF m 15 _ [.int x0]))
 exact G.retN H8 (t := .char) rfl (by decide) D19_15 (so := []) all0 (by decide) (by decide) ⟨(congrArg (fun q => some (Value.int q)) (own_narC (own_u16 r2))), rfl, rfl⟩
theorem m111 (V : Env1 Z a0 n0 uu0 uu1 uu2 uu3 uu4)  (h0 : Heap) (hO : Old Z n0 h0)  :
  Met Z a0 ELs True n0 l ⟨"jdk/internal/util/Preconditions", "checkIndex", "(IILjava/util/function/BiFunction;)I"⟩ Y46 3 (some .int) ⟨0, 0, 0, 0⟩ #[.int 1, .int 2, uu3] h0 [] (fun v h so => (v = some (.int 1) ∧ so = [] ∧ h0 = h)) := by
 refine Met.of (EWl V) (by first | decide +kernel | rfl) hO (L0 := #[.val (.int 1), .val (.int 2), .val uu3]) (by rcases XT.refc (hv11 V) with rfl | ⟨_, rfl⟩ <;> rfl) ?_
 intro p e s m below meth c T H
 refine G.iN H D4_0 (J := 1) rfl rfl ?_
 refine G.ifNo H D4_1 (J := 4) rfl (by decide) ?_
 refine G.iN H D4_4 (J := 5) rfl rfl ?_
 refine G.iN H D4_5 (J := 6) rfl rfl ?_
 refine G.cY H D4_6 (by decide) (by decide) (J := 16) rfl ?_
 refine G.iN H D4_16 (J := 17) rfl rfl ?_
 exact G.retI H rfl D4_17 (so := []) all0 (by decide) (by decide) ⟨rfl, rfl, rfl⟩
theorem m112 (V : Env1 Z a0 n0 uu0 uu1 uu2 uu3 uu4)  (h0 : Heap) (hO : Old Z n0 h0)  :
  Met Z a0 ELs True n0 l ⟨"java/lang/String", "checkIndex", "(II)V"⟩ Y50 2 none ⟨1, 0, 0, 14⟩ #[.int 1, .int 2] h0 [] (fun v h so => (v = none ∧ so = [] ∧ h0 = h)) := by
 refine Met.of (EWl V) (by first | decide +kernel | rfl) hO (L0 := #[.val (.int 1), .val (.int 2)]) rfl ?_
 intro p e s m below meth c T H
 refine G.iN H D12_0 (J := 1) rfl rfl ?_
 refine G.iN H D12_1 (J := 2) rfl rfl ?_
 refine G.getS H (wq V 197 rfl) Via.refl (Sta.ext H.old.2 (hv10 V)) D12_2 (J := 5) rfl ?_
 intro T1 H2
 refine G.cS H2 (m111 V h0 H2.old) (wq V 199 rfl) (wq V 200 rfl) (wq V 198 rfl) (wq V 201 rfl) [.int 1, .int 2, uu3] [] 0 8 (lenOf (pd_40) rfl) D12_5 all0 (by decide) ?_
 rintro T3 h3_ _ _ H3 ⟨rfl, rfl, rfl⟩
 show Go _ _ _ _ (T3.setTop (mkF m 8 _ [.int 1]))
 refine G.pop H3 D12_8 (J := 9) rfl rfl ?_
 exact G.retV H3 rfl D12_9 (so := []) all0 (by decide) (by decide) ⟨rfl, rfl, rfl⟩
theorem m113 (V : Env1 Z a0 n0 uu0 uu1 uu2 uu3 uu4) (p0 : Addr) (d0 : ClassId) (x0 : Int32) (x1 : Int32) (h0 : Heap) (hO : Old Z n0 h0) (f0 : Arv Z h0 p0 d0 .byte 2 [(.int (x0.toInt8.toInt32)), (.int (x1.toInt8.toInt32))] (.int 0)) (r1 : ¬ x1 < 0 ∧ ¬ 255 < x1) :
  Met Z a0 ELs True n0 l ⟨"java/lang/StringLatin1", "charAt", "([BI)C"⟩ Y34 2 (some .char) ⟨2, 0, 0, 27⟩ #[.ref p0, .int 1] h0 [] (fun v h so => (v = some (.int x1) ∧ so = [] ∧ h0 = h)) := by
 refine Met.of (EWl V) (by first | decide +kernel | rfl) hO (L0 := #[.val (.ref p0), .val (.int 1)]) rfl ?_
 intro p e s m below meth c T H
 refine G.iN H D24_0 (J := 1) rfl rfl ?_
 refine G.aN H D24_1 (J := 2) rfl rfl rfl ?_
 refine G.aR H f0 D24_2 (J := 3) rfl ?_
 refine G.cS H (m112 V h0 H.old) (wq V 194 rfl) (wq V 195 rfl) (wd11 V) (wq V 196 rfl) [.int 1, .int 2] [] 0 6 (lenOf (pd_28) rfl) D24_3 all0 (by decide) ?_
 rintro T1 h1_ _ _ H1 ⟨rfl, rfl, rfl⟩
 show Go _ _ _ _ (T1.setTop (mkF m 6 _ []))
 refine G.aN H1 D24_6 (J := 7) rfl rfl rfl ?_
 refine G.iN H1 D24_7 (J := 8) rfl rfl ?_
 refine G.baloadG H1 f0 (j := 1) (v := (.int (x1.toInt8.toInt32))) (by decide) rfl D24_8 (J := 9) rfl ?_
 refine G.sP H1 D24_9 (J := 12) rfl (v := 255) rfl ?_
 refine G.iand H1 D24_12 (J := 13) rfl ?_
 rw [own_b8and r1]
 refine G.i2c H1 (y := x1) D24_13 (J := 14) rfl (own_c16 (own_u16 r1)) ?_
 exact G.retN H1 (t := .char) rfl (by decide) D24_14 (so := []) all0 (by decide) (by decide) ⟨(congrArg (fun q => some (Value.int q)) (own_narC (own_u16 r1))), rfl, rfl⟩
theorem m114 (V : Env1 Z a0 n0 uu0 uu1 uu2 uu3 uu4) (p0 : Addr) (p1 : Addr) (d0 : ClassId) (x0 : Int32) (x1 : Int32) (h0 : Heap) (hO : Old Z n0 h0) (f0 : Exa Z h0 p0 "java/lang/String") (f1 : Str Z h0 p0 p1 d0 [x0, x1]) (r2 : ¬ x1 < 0 ∧ ¬ 255 < x1) :
  Met Z a0 ELs True n0 l ⟨"java/lang/String", "charAt", "(I)C"⟩ Y28 2 (some .char) ⟨3, 0, 0, 40⟩ #[.ref p0, .int 1] h0 [] (fun v h so => (v = some (.int x1) ∧ so = [] ∧ h0 = h)) := by
 refine Met.of (EWl V) (by first | decide +kernel | rfl) hO (L0 := #[.val (.ref p0), .val (.int 1)]) rfl ?_
 intro p e s m below meth c T H
 refine G.aN H D19_0 (J := 1) rfl rfl rfl ?_
 refine G.cV H (m106 V p0 p1 d0 x0 x1 h0 H.old f1) (wq V 186 rfl) (wq V 187 rfl) (nf_sel (wd189 V)) (wd189 V) (wq V 188 rfl) (wd11 V) (wq V 190 rfl) f0 [] [] 0 4 (lenOf (pd_1) rfl) D19_1 all0 (by decide) ?_
 rintro T1 h1_ _ _ H1 ⟨rfl, rfl, rfl⟩
 show Go _ _ _ _ (T1.setTop (mkF m 4 _ [.int 1]))
 refine G.ifNo H1 D19_4 (J := 7) rfl (by decide) ?_
 refine G.aN H1 D19_7 (J := 8) rfl rfl rfl ?_
 refine G.getF H1 (wd29 V) Via.refl f1.2.2.1 D19_8 (J := 11) rfl ?_
 intro T5 H6
 refine G.iN H6 D19_11 (J := 12) rfl rfl ?_
 have A7 : Arv Z h0 p1 d0 .byte 2 [(.int (x0.toInt8.toInt32)), (.int (x1.toInt8.toInt32))] (.int 0) := f1.2.2.2.1
 refine G.cS H6 (m113 V p1 d0 x0 x1 h0 H6.old A7 r2) (wq V 191 rfl) (wq V 192 rfl) (wd121 V) (wq V 193 rfl) [.ref p1, .int 1] [] 0 15 (lenOf (pd_23) rfl) D19_12 all0 (by decide) ?_
 rintro T8 h8_ _ _ H8 ⟨rfl, rfl, rfl⟩
 show Go _ _ _ _ (T8.setTop (mkF m 15 _ [.int x1]))
 exact G.retN H8 (t := .char) rfl (by decide) D19_15 (so := []) all0 (by decide) (by decide) ⟨(congrArg (fun q => some (Value.int q)) (own_narC (own_u16 r2))), rfl, rfl⟩
theorem m115 (V : Env1 Z a0 n0 uu0 uu1 uu2 uu3 uu4) (p0 : Addr) (p1 : Addr) (p2 : Addr) (d0 : ClassId) (x0 : Int32) (x1 : Int32) (p3 : Addr) (d1 : ClassId) (h0 : Heap) (hO : Old Z n0 h0) (f0 : Exa Z h0 p0 "java/lang/String") (f1 : Str Z h0 p0 p2 d0 [x0, x1]) (r2 : ¬ x0 < 0 ∧ ¬ 255 < x0) (f3 : Exa Z h0 p1 "java/lang/String") (f4 : Str Z h0 p1 p3 d1 []) (r5 : ¬ x1 < 0 ∧ ¬ 255 < x1) :
  Met Z a0 ELs True n0 l ⟨"com/example/schema_to_form/schematoform/server/PathSegments", "isUnreserved", "(Ljava/lang/String;Ljava/lang/String;)Z"⟩ Y14 4 (some .boolean) ⟨4, 0, 0, 55⟩ #[.ref p0, .ref p1] h0 [] (fun v h so => (¬ (unrB x0) = 0 ∧ ¬ (unrB x1) = 0 ∧ v = some (.int 1) ∧ so = [] ∧ h0 = h) ∨ (v = some (.int 0) ∧ so = [] ∧ h0 = h)) := by
 refine Met.of (EWl V) (by first | decide +kernel | rfl) hO (L0 := #[.val (.ref p0), .val (.ref p1), .unset, .unset]) rfl ?_
 intro p e s m below meth c T H
 refine G.iC H D69_0 (J := 1) rfl (v := 0) rfl ?_
 refine G.sN H (L' := #[.val (.ref p0), .val (.ref p1), .val (.int 0), .unset]) D69_1 (J := 2) rfl rfl ?_
 refine G.iN H D69_2 (J := 3) rfl rfl ?_
 refine G.aN H D69_3 (J := 4) rfl rfl rfl ?_
 refine G.cV H (m105 V p0 p2 d0 x0 x1 h0 H.old f1) (wq V 153 rfl) (wd106 V) (nf_sel (wd108 V)) (wd108 V) (wd107 V) (wd11 V) (wd109 V) f0 [] [.int 0] 1 7 (lenOf (pd_11) rfl) D69_4 all0 (by decide) ?_
 rintro T1 h1_ _ _ H1 ⟨rfl, rfl, rfl⟩
 show Go _ _ _ _ (T1.setTop (mkF m 7 _ [.int 2, .int 0]))
 refine G.cN H1 D69_7 (J := 10) rfl (by decide) ?_
 refine G.aN H1 D69_10 (J := 11) rfl rfl rfl ?_
 refine G.iN H1 D69_11 (J := 12) rfl rfl ?_
 refine G.cV H1 (m110 V p0 p2 d0 x0 x1 h0 H1.old f0 f1 r2) (wq V 181 rfl) (wq V 182 rfl) (nf_sel (wd184 V)) (wd184 V) (wq V 183 rfl) (wd11 V) (wq V 185 rfl) f0 [.int 0] [] 0 15 (lenOf (pd_41) rfl) D69_12 all0 (by decide) ?_
 rintro T5 h5_ _ _ H5 ⟨rfl, rfl, rfl⟩
 show Go _ _ _ _ (T5.setTop (mkF m 15 _ [.int x0]))
 refine G.sN H5 (L' := #[.val (.ref p0), .val (.ref p1), .val (.int 0), .val (.int x0)]) D69_15 (J := 16) rfl rfl ?_
 refine G.iN H5 D69_16 (J := 17) rfl rfl ?_
 refine G.cS H5 (m14 V x0 h0 H5.old) (wq V 202 rfl) (wq V 203 rfl) (wd34 V) (wq V 204 rfl) [.int x0] [] 0 20 (lenOf (pd_9) rfl) D69_17 all0 (by decide) ?_
 rintro T9 h9_ _ _ H9 ⟨rfl, rfl, r13, rfl⟩
 show Go _ _ _ _ (T9.setTop (mkF m 20 _ [(.int (unrB x0))]))
 by_cases c14 : (unrB x0) = 0
 ·
  refine G.ifNo H9 D69_20 (J := 23) rfl (XT.i0_ne_f c14) ?_
  refine G.aN H9 D69_23 (J := 24) rfl rfl rfl ?_
  refine G.iN H9 D69_24 (J := 25) rfl rfl ?_
  refine G.cV H9 (m23 V p1 x0 p3 d1 h0 H9.old f3 f4) (wq V 205 rfl) (wq V 206 rfl) (nf_sel (wd208 V)) (wd208 V) (wq V 207 rfl) (wd11 V) (wq V 209 rfl) f3 [.int x0] [] 0 28 (lenOf (pd_6) rfl) D69_25 all0 (by decide) ?_
  rintro T15 h15_ _ _ H15 ⟨rfl, rfl, rfl⟩
  show Go _ _ _ _ (T15.setTop (mkF m 28 _ [(.int (-1 : Int32))]))
  refine G.ifNo H15 D69_28 (J := 31) rfl (by decide) ?_
  refine G.iC H15 D69_31 (J := 32) rfl (v := 0) rfl ?_
  exact G.retN H15 (t := .boolean) rfl (by decide) D69_32 (so := []) all0 (by decide) (by decide) (Or.inr ⟨rfl, rfl, rfl⟩)
 ·
  refine G.ifYes H9 D69_20 (XT.i0_ne_t c14) (by decide) (J := 33) rfl ?_
  refine G.iI H9 (v := 1) (L' := #[.val (.ref p0), .val (.ref p1), .val (.int 1), .val (.int x0)]) D69_33 (J := 36) rfl rfl rfl rfl ?_
  refine G.go H9 D69_36 (by decide) (J := 2) rfl ?_
  show Go _ _ _ _ (T9.setTop (mkF m 2 _ []))
  refine G.iN H9 D69_2 (J := 3) rfl rfl ?_
  refine G.aN H9 D69_3 (J := 4) rfl rfl rfl ?_
  refine G.cV H9 (m105 V p0 p2 d0 x0 x1 h0 H9.old f1) (wq V 153 rfl) (wd106 V) (nf_sel (wd108 V)) (wd108 V) (wd107 V) (wd11 V) (wd109 V) f0 [] [.int 1] 1 7 (lenOf (pd_11) rfl) D69_4 all0 (by decide) ?_
  rintro T19 h19_ _ _ H19 ⟨rfl, rfl, rfl⟩
  show Go _ _ _ _ (T19.setTop (mkF m 7 _ [.int 2, .int 1]))
  refine G.cN H19 D69_7 (J := 10) rfl (by decide) ?_
  refine G.aN H19 D69_10 (J := 11) rfl rfl rfl ?_
  refine G.iN H19 D69_11 (J := 12) rfl rfl ?_
  refine G.cV H19 (m114 V p0 p2 d0 x0 x1 h0 H19.old f0 f1 r5) (wq V 181 rfl) (wq V 182 rfl) (nf_sel (wd184 V)) (wd184 V) (wq V 183 rfl) (wd11 V) (wq V 185 rfl) f0 [.int 1] [] 0 15 (lenOf (pd_41) rfl) D69_12 all0 (by decide) ?_
  rintro T23 h23_ _ _ H23 ⟨rfl, rfl, rfl⟩
  show Go _ _ _ _ (T23.setTop (mkF m 15 _ [.int x1]))
  refine G.sN H23 (L' := #[.val (.ref p0), .val (.ref p1), .val (.int 1), .val (.int x1)]) D69_15 (J := 16) rfl rfl ?_
  refine G.iN H23 D69_16 (J := 17) rfl rfl ?_
  refine G.cS H23 (m14 V x1 h0 H23.old) (wq V 202 rfl) (wq V 203 rfl) (wd34 V) (wq V 204 rfl) [.int x1] [] 0 20 (lenOf (pd_9) rfl) D69_17 all0 (by decide) ?_
  rintro T27 h27_ _ _ H27 ⟨rfl, rfl, r31, rfl⟩
  show Go _ _ _ _ (T27.setTop (mkF m 20 _ [(.int (unrB x1))]))
  by_cases c32 : (unrB x1) = 0
  ·
   refine G.ifNo H27 D69_20 (J := 23) rfl (XT.i0_ne_f c32) ?_
   refine G.aN H27 D69_23 (J := 24) rfl rfl rfl ?_
   refine G.iN H27 D69_24 (J := 25) rfl rfl ?_
   refine G.cV H27 (m23 V p1 x1 p3 d1 h0 H27.old f3 f4) (wq V 205 rfl) (wq V 206 rfl) (nf_sel (wd208 V)) (wd208 V) (wq V 207 rfl) (wd11 V) (wq V 209 rfl) f3 [.int x1] [] 0 28 (lenOf (pd_6) rfl) D69_25 all0 (by decide) ?_
   rintro T33 h33_ _ _ H33 ⟨rfl, rfl, rfl⟩
   show Go _ _ _ _ (T33.setTop (mkF m 28 _ [(.int (-1 : Int32))]))
   refine G.ifNo H33 D69_28 (J := 31) rfl (by decide) ?_
   refine G.iC H33 D69_31 (J := 32) rfl (v := 0) rfl ?_
   exact G.retN H33 (t := .boolean) rfl (by decide) D69_32 (so := []) all0 (by decide) (by decide) (Or.inr ⟨rfl, rfl, rfl⟩)
  ·
   refine G.ifYes H27 D69_20 (XT.i0_ne_t c32) (by decide) (J := 33) rfl ?_
   refine G.iI H27 (v := 2) (L' := #[.val (.ref p0), .val (.ref p1), .val (.int 2), .val (.int x1)]) D69_33 (J := 36) rfl rfl rfl rfl ?_
   refine G.go H27 D69_36 (by decide) (J := 2) rfl ?_
   show Go _ _ _ _ (T27.setTop (mkF m 2 _ []))
   refine G.iN H27 D69_2 (J := 3) rfl rfl ?_
   refine G.aN H27 D69_3 (J := 4) rfl rfl rfl ?_
   refine G.cV H27 (m105 V p0 p2 d0 x0 x1 h0 H27.old f1) (wq V 153 rfl) (wd106 V) (nf_sel (wd108 V)) (wd108 V) (wd107 V) (wd11 V) (wd109 V) f0 [] [.int 2] 1 7 (lenOf (pd_11) rfl) D69_4 all0 (by decide) ?_
   rintro T37 h37_ _ _ H37 ⟨rfl, rfl, rfl⟩
   show Go _ _ _ _ (T37.setTop (mkF m 7 _ [.int 2, .int 2]))
   refine G.cY H37 D69_7 (by decide) (by decide) (J := 39) rfl ?_
   refine G.iC H37 D69_39 (J := 40) rfl (v := 1) rfl ?_
   exact G.retN H37 (t := .boolean) rfl (by decide) D69_40 (so := []) all0 (by decide) (by decide) (Or.inl ⟨c14, c32, rfl, rfl, rfl⟩)
theorem m116 (V : Env1 Z a0 n0 uu0 uu1 uu2 uu3 uu4) (p0 : Addr) (d0 : ClassId) (x0 : Int32) (x1 : Int32) (h0 : Heap) (hO : Old Z n0 h0) (f0 : Arv Z h0 p0 d0 .byte 2 [(.int (x0.toInt8.toInt32)), (.int (x1.toInt8.toInt32))] (.int 0)) :
  Met Z a0 ELs True n0 l ⟨"java/lang/StringCoding", "countPositives", "([BII)I"⟩ Y25 5 (some .int) ⟨0, 0, 0, 0⟩ #[.ref p0, .int 0, .int 2] h0 [] (fun v h so => ((x0.toInt8.toInt32) < 0 ∧ v = some (.int 0) ∧ so = [] ∧ h0 = h) ∨ (¬ (x0.toInt8.toInt32) < 0 ∧ (x1.toInt8.toInt32) < 0 ∧ v = some (.int 1) ∧ so = [] ∧ h0 = h) ∨ (¬ (x0.toInt8.toInt32) < 0 ∧ ¬ (x1.toInt8.toInt32) < 0 ∧ v = some (.int 2) ∧ so = [] ∧ h0 = h)) := by
 refine Met.of (EWl V) (by first | decide +kernel | rfl) hO (L0 := #[.val (.ref p0), .val (.int 0), .val (.int 2), .unset, .unset]) rfl ?_
 intro p e s m below meth c T H
 refine G.iN H D1_0 (J := 1) rfl rfl ?_
 refine G.iN H D1_1 (J := 2) rfl rfl ?_
 refine G.iadd H D1_2 (J := 3) rfl ?_
 show Go _ _ _ _ (T.setTop (mkF m 3 _ [.int 2]))
 refine G.sN H (L' := #[.val (.ref p0), .val (.int 0), .val (.int 2), .val (.int 2), .unset]) D1_3 (J := 4) rfl rfl ?_
 refine G.iN H D1_4 (J := 5) rfl rfl ?_
 refine G.sI H (L' := #[.val (.ref p0), .val (.int 0), .val (.int 2), .val (.int 2), .val (.int 0)]) D1_5 (J := 7) rfl rfl ?_
 refine G.iL H D1_7 (J := 9) rfl rfl ?_
 refine G.iN H D1_9 (J := 10) rfl rfl ?_
 refine G.cN H D1_10 (J := 13) rfl (by decide) ?_
 refine G.aN H D1_13 (J := 14) rfl rfl rfl ?_
 refine G.iL H D1_14 (J := 16) rfl rfl ?_
 refine G.baloadG H f0 (j := 0) (v := (.int (x0.toInt8.toInt32))) (by decide) rfl D1_16 (J := 17) rfl ?_
 by_cases c1 : (x0.toInt8.toInt32) < 0
 ·
  refine G.ifNo H D1_17 (J := 20) rfl (XT.i0_ge_f c1) ?_
  refine G.iL H D1_20 (J := 22) rfl rfl ?_
  refine G.iN H D1_22 (J := 23) rfl rfl ?_
  refine G.isub H D1_23 (J := 24) rfl ?_
  show Go _ _ _ _ (T.setTop (mkF m 24 _ [.int 0]))
  exact G.retI H rfl D1_24 (so := []) all0 (by decide) (by decide) (Or.inl ⟨c1, rfl, rfl, rfl⟩)
 ·
  refine G.ifYes H D1_17 (XT.i0_ge_t c1) (by decide) (J := 25) rfl ?_
  refine G.iI H (v := 1) (L' := #[.val (.ref p0), .val (.int 0), .val (.int 2), .val (.int 2), .val (.int 1)]) D1_25 (J := 28) rfl rfl rfl rfl ?_
  refine G.go H D1_28 (by decide) (J := 7) rfl ?_
  show Go _ _ _ _ (T.setTop (mkF m 7 _ []))
  refine G.iL H D1_7 (J := 9) rfl rfl ?_
  refine G.iN H D1_9 (J := 10) rfl rfl ?_
  refine G.cN H D1_10 (J := 13) rfl (by decide) ?_
  refine G.aN H D1_13 (J := 14) rfl rfl rfl ?_
  refine G.iL H D1_14 (J := 16) rfl rfl ?_
  refine G.baloadG H f0 (j := 1) (v := (.int (x1.toInt8.toInt32))) (by decide) rfl D1_16 (J := 17) rfl ?_
  by_cases c2 : (x1.toInt8.toInt32) < 0
  ·
   refine G.ifNo H D1_17 (J := 20) rfl (XT.i0_ge_f c2) ?_
   refine G.iL H D1_20 (J := 22) rfl rfl ?_
   refine G.iN H D1_22 (J := 23) rfl rfl ?_
   refine G.isub H D1_23 (J := 24) rfl ?_
   show Go _ _ _ _ (T.setTop (mkF m 24 _ [.int 1]))
   exact G.retI H rfl D1_24 (so := []) all0 (by decide) (by decide) (Or.inr (Or.inl ⟨c1, c2, rfl, rfl, rfl⟩))
  ·
   refine G.ifYes H D1_17 (XT.i0_ge_t c2) (by decide) (J := 25) rfl ?_
   refine G.iI H (v := 2) (L' := #[.val (.ref p0), .val (.int 0), .val (.int 2), .val (.int 2), .val (.int 2)]) D1_25 (J := 28) rfl rfl rfl rfl ?_
   refine G.go H D1_28 (by decide) (J := 7) rfl ?_
   show Go _ _ _ _ (T.setTop (mkF m 7 _ []))
   refine G.iL H D1_7 (J := 9) rfl rfl ?_
   refine G.iN H D1_9 (J := 10) rfl rfl ?_
   refine G.cY H D1_10 (by decide) (by decide) (J := 31) rfl ?_
   refine G.iN H D1_31 (J := 32) rfl rfl ?_
   exact G.retI H rfl D1_32 (so := []) all0 (by decide) (by decide) (Or.inr (Or.inr ⟨c1, c2, rfl, rfl, rfl⟩))
theorem m117 (V : Env1 Z a0 n0 uu0 uu1 uu2 uu3 uu4) (p0 : Addr) (d0 : ClassId) (x0 : Int32) (x1 : Int32) (h0 : Heap) (hO : Old Z n0 h0) (f0 : Arv Z h0 p0 d0 .byte 2 [(.int (x0.toInt8.toInt32)), (.int (x1.toInt8.toInt32))] (.int 0)) :
  Met Z a0 ELs True n0 l ⟨"java/lang/StringCoding", "hasNegatives", "([BII)Z"⟩ Y42 3 (some .boolean) ⟨1, 0, 0, 16⟩ #[.ref p0, .int 0, .int 2] h0 [] (fun v h so => ((x0.toInt8.toInt32) < 0 ∧ v = some (.int 1) ∧ so = [] ∧ h0 = h) ∨ (¬ (x0.toInt8.toInt32) < 0 ∧ (x1.toInt8.toInt32) < 0 ∧ v = some (.int 1) ∧ so = [] ∧ h0 = h) ∨ (¬ (x0.toInt8.toInt32) < 0 ∧ ¬ (x1.toInt8.toInt32) < 0 ∧ v = some (.int 0) ∧ so = [] ∧ h0 = h)) := by
 refine Met.of (EWl V) (by first | decide +kernel | rfl) hO (L0 := #[.val (.ref p0), .val (.int 0), .val (.int 2)]) rfl ?_
 intro p e s m below meth c T H
 refine G.aN H D0_0 (J := 1) rfl rfl rfl ?_
 refine G.iN H D0_1 (J := 2) rfl rfl ?_
 refine G.iN H D0_2 (J := 3) rfl rfl ?_
 refine G.cS H (m116 V p0 d0 x0 x1 h0 H.old f0) (wq V 245 rfl) (wq V 246 rfl) (wq V 243 rfl) (wq V 247 rfl) [.ref p0, .int 0, .int 2] [] 0 6 (lenOf (pd_42) rfl) D0_3 all0 (by decide) ?_
 intro T1 h1_ v2 s3 H1 Q4
 rcases Q4 with ⟨c5, rfl, rfl, rfl⟩ | ⟨c6, c7, rfl, rfl, rfl⟩ | ⟨c8, c9, rfl, rfl, rfl⟩
 ·
  show Go _ _ _ _ (T1.setTop (mkF m 6 _ [.int 0]))
  refine G.iN H1 D0_6 (J := 7) rfl rfl ?_
  refine G.cN H1 D0_7 (J := 10) rfl (by decide) ?_
  refine G.iC H1 D0_10 (J := 11) rfl (v := 1) rfl ?_
  refine G.go H1 D0_11 (by decide) (J := 15) rfl ?_
  exact G.retN H1 (t := .boolean) rfl (by decide) D0_15 (so := []) all0 (by decide) (by decide) (Or.inl ⟨c5, rfl, rfl, rfl⟩)
 ·
  show Go _ _ _ _ (T1.setTop (mkF m 6 _ [.int 1]))
  refine G.iN H1 D0_6 (J := 7) rfl rfl ?_
  refine G.cN H1 D0_7 (J := 10) rfl (by decide) ?_
  refine G.iC H1 D0_10 (J := 11) rfl (v := 1) rfl ?_
  refine G.go H1 D0_11 (by decide) (J := 15) rfl ?_
  exact G.retN H1 (t := .boolean) rfl (by decide) D0_15 (so := []) all0 (by decide) (by decide) (Or.inr (Or.inl ⟨c6, c7, rfl, rfl, rfl⟩))
 ·
  show Go _ _ _ _ (T1.setTop (mkF m 6 _ [.int 2]))
  refine G.iN H1 D0_6 (J := 7) rfl rfl ?_
  refine G.cY H1 D0_7 (by decide) (by decide) (J := 14) rfl ?_
  refine G.iC H1 D0_14 (J := 15) rfl (v := 0) rfl ?_
  exact G.retN H1 (t := .boolean) rfl (by decide) D0_15 (so := []) all0 (by decide) (by decide) (Or.inr (Or.inr ⟨c8, c9, rfl, rfl, rfl⟩))
theorem m118 (V : Env1 Z a0 n0 uu0 uu1 uu2 uu3 uu4) (p0 : Addr) (d0 : ClassId) (x0 : Int32) (x1 : Int32) (h0 : Heap) (hO : Old Z n0 h0) (f0 : Arv Z h0 p0 d0 .byte 2 [(.int (x0.toInt8.toInt32)), (.int (x1.toInt8.toInt32))] (.int 0)) (r1 : ¬ x0 < 0 ∧ ¬ 255 < x0) (r2 : ¬ x1 < 0 ∧ ¬ 255 < x1) (f3 : Exa Z h0 p0 "[B") :
  Met Z a0 ELs True n0 l ⟨"java/lang/String", "encodeUTF8", "(B[BZ)[B"⟩ Y2 9 (some (.array .byte)) ⟨2, 2, 28, 54⟩ #[.int 0, .ref p0, .int 1] h0 [] (fun v h so => (∃ a : Addr, ∃ kc : ClassId, ∃ bs : List Int32, v = some (.ref a) ∧ so = [] ∧ Keep h0 h [] ∧ h0.size ≤ a ∧ Arv Z h a kc .byte (Int32.ofNat bs.length) (bs.map Value.int) (.int 0) ∧ bs.length ≤ 6 ∧ encBs bs = encS [x0, x1])) := by
 refine Met.of (EWl V) (by first | decide +kernel | rfl) hO (L0 := #[.val (.int 0), .val (.ref p0), .val (.int 1), .unset, .unset, .unset, .unset, .unset, .unset]) rfl ?_
 intro p e s m below meth c T H
 refine G.iN H D15_0 (J := 1) rfl rfl ?_
 refine G.iC H D15_1 (J := 2) rfl (v := 1) rfl ?_
 refine G.cY H D15_2 (by decide) (by decide) (J := 11) rfl ?_
 refine G.aN H D15_11 (J := 12) rfl rfl rfl ?_
 refine G.iC H D15_12 (J := 13) rfl (v := 0) rfl ?_
 refine G.aN H D15_13 (J := 14) rfl rfl rfl ?_
 refine G.aR H f0 D15_14 (J := 15) rfl ?_
 refine G.cS H (m117 V p0 d0 x0 x1 h0 H.old f0) (wq V 241 rfl) (wq V 242 rfl) (wq V 243 rfl) (wq V 244 rfl) [.ref p0, .int 0, .int 2] [] 0 18 (lenOf (pd_43) rfl) D15_15 all0 (by decide) ?_
 intro T1 h1_ v2 s3 H1 Q4
 rcases Q4 with ⟨c5, rfl, rfl, rfl⟩ | ⟨c6, c7, rfl, rfl, rfl⟩ | ⟨c8, c9, rfl, rfl, rfl⟩
 ·
  show Go _ _ _ _ (T1.setTop (mkF m 18 _ [.int 1]))
  refine G.ifYes H1 D15_18 (by decide) (by decide) (J := 29) rfl ?_
  refine G.iC H1 D15_29 (J := 30) rfl (v := 0) rfl ?_
  refine G.sN H1 (L' := #[.val (.int 0), .val (.ref p0), .val (.int 1), .val (.int 0), .unset, .unset, .unset, .unset, .unset]) D15_30 (J := 31) rfl rfl ?_
  refine G.aN H1 D15_31 (J := 32) rfl rfl rfl ?_
  refine G.aR H1 f0 D15_32 (J := 33) rfl ?_
  refine G.cS H1 (m36 V h0 H1.old) (wq V 248 rfl) (wq V 249 rfl) (wd250 V) (wq V 251 rfl) [.int 2] [] 0 36 (lenOf (pd_21) rfl) D15_33 all0 (by decide) ?_
  rintro T10 h10_ _ _ H10 ⟨a14, k15, rfl, rfl, K16, g17, F18, F19⟩
  have na14 := Nat.le_trans H1.le g17
  show Go _ _ _ _ (T10.setTop (mkF m 36 _ [.ref a14]))
  refine G.astore H10 (L' := #[.val (.int 0), .val (.ref p0), .val (.int 1), .val (.int 0), .val (.ref a14), .unset, .unset, .unset, .unset]) D15_36 (J := 38) rfl rfl rfl ?_
  refine G.aN H10 D15_38 (J := 39) rfl rfl rfl ?_
  refine G.astore H10 (L' := #[.val (.int 0), .val (.ref p0), .val (.int 1), .val (.int 0), .val (.ref a14), .val (.ref p0), .unset, .unset, .unset]) D15_39 (J := 41) rfl rfl rfl ?_
  refine G.aL H10 D15_41 (J := 43) rfl rfl rfl ?_
  have F20 := (Arv.keep f0 K16 nin0)
  refine G.aR H10 F20 D15_43 (J := 44) rfl ?_
  refine G.sI H10 (L' := #[.val (.int 0), .val (.ref p0), .val (.int 1), .val (.int 0), .val (.ref a14), .val (.ref p0), .val (.int 2), .unset, .unset]) D15_44 (J := 46) rfl rfl ?_
  refine G.iC H10 D15_46 (J := 47) rfl (v := 0) rfl ?_
  refine G.sI H10 (L' := #[.val (.int 0), .val (.ref p0), .val (.int 1), .val (.int 0), .val (.ref a14), .val (.ref p0), .val (.int 2), .val (.int 0), .unset]) D15_47 (J := 49) rfl rfl ?_
  refine G.iL H10 D15_49 (J := 51) rfl rfl ?_
  refine G.iL H10 D15_51 (J := 53) rfl rfl ?_
  refine G.cN H10 D15_53 (J := 56) rfl (by decide) ?_
  refine G.aL H10 D15_56 (J := 58) rfl rfl rfl ?_
  refine G.iL H10 D15_58 (J := 60) rfl rfl ?_
  refine G.baloadG H10 F20 (j := 0) (v := (.int (x0.toInt8.toInt32))) (by decide) rfl D15_60 (J := 61) rfl ?_
  refine G.sI H10 (L' := #[.val (.int 0), .val (.ref p0), .val (.int 1), .val (.int 0), .val (.ref a14), .val (.ref p0), .val (.int 2), .val (.int 0), .val (.int (x0.toInt8.toInt32))]) D15_61 (J := 63) rfl rfl ?_
  refine G.iL H10 D15_63 (J := 65) rfl rfl ?_
  refine G.ifNo H10 D15_65 (J := 68) rfl (XT.i0_ge_f c5) ?_
  refine G.aL H10 D15_68 (J := 70) rfl rfl rfl ?_
  refine G.iN H10 D15_70 (J := 71) rfl rfl ?_
  refine G.iI H10 (v := 1) (L' := #[.val (.int 0), .val (.ref p0), .val (.int 1), .val (.int 1), .val (.ref a14), .val (.ref p0), .val (.int 2), .val (.int 0), .val (.int (x0.toInt8.toInt32))]) D15_71 (J := 74) rfl rfl rfl rfl ?_
  refine G.sP H10 D15_74 (J := 77) rfl (v := 192) rfl ?_
  refine G.iL H10 D15_77 (J := 79) rfl rfl ?_
  refine G.sP H10 D15_79 (J := 82) rfl (v := 255) rfl ?_
  refine G.iand H10 D15_82 (J := 83) rfl ?_
  rw [own_b8and r1]
  refine G.bP H10 D15_83 (J := 85) rfl (v := 6) rfl ?_
  refine G.ishr H10 D15_85 (J := 86) rfl ?_
  refine G.ior H10 D15_86 (J := 87) rfl ?_
  refine G.i2b H10 D15_87 (J := 88) rfl ?_
  obtain ⟨u21, eu21⟩ : ∃ q, q = ((192 ||| (x0 >>> ((6 : Int32) &&& 31))) : Int32).toInt8.toInt32 := ⟨_, rfl⟩
  rw [← eu21]
  refine G.stB H10 F18 (by decide) (i := 0) rfl lB na14 (Sf.mem (mG (i := 0) rfl)) (y := u21) (own_narBg eu21) D15_88 (J := 89) rfl ?_
  intro T22 h22_ H22 W23 A24
  replace A24 : Arv Z h22_ a14 k15 .byte 4 [.int u21, .int 0, .int 0, .int 0] (.int 0) := A24
  refine G.aL H22 D15_89 (J := 91) rfl rfl rfl ?_
  refine G.iN H22 D15_91 (J := 92) rfl rfl ?_
  refine G.iI H22 (v := 2) (L' := #[.val (.int 0), .val (.ref p0), .val (.int 1), .val (.int 2), .val (.ref a14), .val (.ref p0), .val (.int 2), .val (.int 0), .val (.int (x0.toInt8.toInt32))]) D15_92 (J := 95) rfl rfl rfl rfl ?_
  refine G.sP H22 D15_95 (J := 98) rfl (v := 128) rfl ?_
  refine G.iL H22 D15_98 (J := 100) rfl rfl ?_
  refine G.bP H22 D15_100 (J := 102) rfl (v := 63) rfl ?_
  refine G.iand H22 D15_102 (J := 103) rfl ?_
  refine G.ior H22 D15_103 (J := 104) rfl ?_
  refine G.i2b H22 D15_104 (J := 105) rfl ?_
  obtain ⟨u25, eu25⟩ : ∃ q, q = ((128 ||| ((x0.toInt8.toInt32) &&& 63)) : Int32).toInt8.toInt32 := ⟨_, rfl⟩
  rw [← eu25]
  have F29 := (Exa.wr W23 F19)
  refine G.stB H22 A24 (by decide) (i := 1) rfl lB na14 (Sf.mem (mG (i := 0) rfl)) (y := u25) (own_narBg eu25) D15_105 (J := 106) rfl ?_
  intro T26 h26_ H26 W27 A28
  replace A28 : Arv Z h26_ a14 k15 .byte 4 [.int u21, .int u25, .int 0, .int 0] (.int 0) := A28
  refine G.go H26 D15_106 (by decide) (J := 118) rfl ?_
  refine G.iI H26 (v := 1) (L' := #[.val (.int 0), .val (.ref p0), .val (.int 1), .val (.int 2), .val (.ref a14), .val (.ref p0), .val (.int 2), .val (.int 1), .val (.int (x0.toInt8.toInt32))]) D15_118 (J := 121) rfl rfl rfl rfl ?_
  refine G.go H26 D15_121 (by decide) (J := 49) rfl ?_
  show Go _ _ _ _ (T26.setTop (mkF m 49 _ []))
  refine G.iL H26 D15_49 (J := 51) rfl rfl ?_
  refine G.iL H26 D15_51 (J := 53) rfl rfl ?_
  refine G.cN H26 D15_53 (J := 56) rfl (by decide) ?_
  refine G.aL H26 D15_56 (J := 58) rfl rfl rfl ?_
  refine G.iL H26 D15_58 (J := 60) rfl rfl ?_
  have K30 : Keep h10_ h26_ [a14] := (Keep.wr (Keep.wr (Keep.refl h10_ [a14]) W23 (Or.inl (mG (i := 0) rfl))) W27 (Or.inl (mG (i := 0) rfl)))
  have N31 : p0 ≠ a14 := (Nat.ne_of_lt (Nat.lt_of_lt_of_le f0.lt g17))
  have F32 := (Arv.keep F20 K30 (ninS N31 nin0))
  refine G.baloadG H26 F32 (j := 1) (v := (.int (x1.toInt8.toInt32))) (by decide) rfl D15_60 (J := 61) rfl ?_
  refine G.sI H26 (L' := #[.val (.int 0), .val (.ref p0), .val (.int 1), .val (.int 2), .val (.ref a14), .val (.ref p0), .val (.int 2), .val (.int 1), .val (.int (x1.toInt8.toInt32))]) D15_61 (J := 63) rfl rfl ?_
  refine G.iL H26 D15_63 (J := 65) rfl rfl ?_
  by_cases c33 : (x1.toInt8.toInt32) < 0
  ·
   refine G.ifNo H26 D15_65 (J := 68) rfl (XT.i0_ge_f c33) ?_
   refine G.aL H26 D15_68 (J := 70) rfl rfl rfl ?_
   refine G.iN H26 D15_70 (J := 71) rfl rfl ?_
   refine G.iI H26 (v := 3) (L' := #[.val (.int 0), .val (.ref p0), .val (.int 1), .val (.int 3), .val (.ref a14), .val (.ref p0), .val (.int 2), .val (.int 1), .val (.int (x1.toInt8.toInt32))]) D15_71 (J := 74) rfl rfl rfl rfl ?_
   refine G.sP H26 D15_74 (J := 77) rfl (v := 192) rfl ?_
   refine G.iL H26 D15_77 (J := 79) rfl rfl ?_
   refine G.sP H26 D15_79 (J := 82) rfl (v := 255) rfl ?_
   refine G.iand H26 D15_82 (J := 83) rfl ?_
   rw [own_b8and r2]
   refine G.bP H26 D15_83 (J := 85) rfl (v := 6) rfl ?_
   refine G.ishr H26 D15_85 (J := 86) rfl ?_
   refine G.ior H26 D15_86 (J := 87) rfl ?_
   refine G.i2b H26 D15_87 (J := 88) rfl ?_
   obtain ⟨u34, eu34⟩ : ∃ q, q = ((192 ||| (x1 >>> ((6 : Int32) &&& 31))) : Int32).toInt8.toInt32 := ⟨_, rfl⟩
   rw [← eu34]
   have F38 := (Exa.wr W27 F29)
   refine G.stB H26 A28 (by decide) (i := 2) rfl lB na14 (Sf.mem (mG (i := 0) rfl)) (y := u34) (own_narBg eu34) D15_88 (J := 89) rfl ?_
   intro T35 h35_ H35 W36 A37
   replace A37 : Arv Z h35_ a14 k15 .byte 4 [.int u21, .int u25, .int u34, .int 0] (.int 0) := A37
   refine G.aL H35 D15_89 (J := 91) rfl rfl rfl ?_
   refine G.iN H35 D15_91 (J := 92) rfl rfl ?_
   refine G.iI H35 (v := 4) (L' := #[.val (.int 0), .val (.ref p0), .val (.int 1), .val (.int 4), .val (.ref a14), .val (.ref p0), .val (.int 2), .val (.int 1), .val (.int (x1.toInt8.toInt32))]) D15_92 (J := 95) rfl rfl rfl rfl ?_
   refine G.sP H35 D15_95 (J := 98) rfl (v := 128) rfl ?_
   refine G.iL H35 D15_98 (J := 100) rfl rfl ?_
   refine G.bP H35 D15_100 (J := 102) rfl (v := 63) rfl ?_
   refine G.iand H35 D15_102 (J := 103) rfl ?_
   refine G.ior H35 D15_103 (J := 104) rfl ?_
   refine G.i2b H35 D15_104 (J := 105) rfl ?_
   obtain ⟨u39, eu39⟩ : ∃ q, q = ((128 ||| ((x1.toInt8.toInt32) &&& 63)) : Int32).toInt8.toInt32 := ⟨_, rfl⟩
   rw [← eu39]
   have F43 := (Exa.wr W36 F38)
   refine G.stB H35 A37 (by decide) (i := 3) rfl lB na14 (Sf.mem (mG (i := 0) rfl)) (y := u39) (own_narBg eu39) D15_105 (J := 106) rfl ?_
   intro T40 h40_ H40 W41 A42
   replace A42 : Arv Z h40_ a14 k15 .byte 4 [.int u21, .int u25, .int u34, .int u39] (.int 0) := A42
   refine G.go H40 D15_106 (by decide) (J := 118) rfl ?_
   refine G.iI H40 (v := 2) (L' := #[.val (.int 0), .val (.ref p0), .val (.int 1), .val (.int 4), .val (.ref a14), .val (.ref p0), .val (.int 2), .val (.int 2), .val (.int (x1.toInt8.toInt32))]) D15_118 (J := 121) rfl rfl rfl rfl ?_
   refine G.go H40 D15_121 (by decide) (J := 49) rfl ?_
   show Go _ _ _ _ (T40.setTop (mkF m 49 _ []))
   refine G.iL H40 D15_49 (J := 51) rfl rfl ?_
   refine G.iL H40 D15_51 (J := 53) rfl rfl ?_
   refine G.cY H40 D15_53 (by decide) (by decide) (J := 124) rfl ?_
   refine G.iN H40 D15_124 (J := 125) rfl rfl ?_
   refine G.aL H40 D15_125 (J := 127) rfl rfl rfl ?_
   refine G.aR H40 A42 D15_127 (J := 128) rfl ?_
   refine G.cN H40 D15_128 (J := 131) rfl (by decide) ?_
   refine G.aL H40 D15_131 (J := 133) rfl rfl rfl ?_
   have F44 := (Exa.wr W41 F43)
   have K45 : Keep h0 h40_ [] := (Keep.wr (Keep.wr (Keep.wr (Keep.wr (Keep.trans (Keep.refl h0 []) K16 all0) W23 (Or.inr g17)) W27 (Or.inr g17)) W36 (Or.inr g17)) W41 (Or.inr g17))
   exact G.retA H40 (t := (.array .byte)) rfl rfl rfl D15_133 (so := []) all0 (by decide) (by decide) ⟨a14, k15, [u21, u25, u34, u39], rfl, rfl, K45, g17, A42, lB, (by subst eu21; subst eu25; subst eu34; subst eu39; rw [own_e2, own_k3 r1 c5, own_k3 r2 c33]; simp only [encBs, List.flatMap_cons, List.flatMap_nil, List.append_nil, List.append_assoc])⟩
  ·
   refine G.ifYes H26 D15_65 (XT.i0_ge_t c33) (by decide) (J := 109) rfl ?_
   refine G.aL H26 D15_109 (J := 111) rfl rfl rfl ?_
   refine G.iN H26 D15_111 (J := 112) rfl rfl ?_
   refine G.iI H26 (v := 3) (L' := #[.val (.int 0), .val (.ref p0), .val (.int 1), .val (.int 3), .val (.ref a14), .val (.ref p0), .val (.int 2), .val (.int 1), .val (.int (x1.toInt8.toInt32))]) D15_112 (J := 115) rfl rfl rfl rfl ?_
   refine G.iL H26 D15_115 (J := 117) rfl rfl ?_
   have F49 := (Exa.wr W27 F29)
   refine G.stB H26 A28 (by decide) (i := 2) rfl lB na14 (Sf.mem (mG (i := 0) rfl)) (y := (x1.toInt8.toInt32)) (own_narB _) D15_117 (J := 118) rfl ?_
   intro T46 h46_ H46 W47 A48
   replace A48 : Arv Z h46_ a14 k15 .byte 4 [.int u21, .int u25, (.int (x1.toInt8.toInt32)), .int 0] (.int 0) := A48
   refine G.iI H46 (v := 2) (L' := #[.val (.int 0), .val (.ref p0), .val (.int 1), .val (.int 3), .val (.ref a14), .val (.ref p0), .val (.int 2), .val (.int 2), .val (.int (x1.toInt8.toInt32))]) D15_118 (J := 121) rfl rfl rfl rfl ?_
   refine G.go H46 D15_121 (by decide) (J := 49) rfl ?_
   show Go _ _ _ _ (T46.setTop (mkF m 49 _ []))
   refine G.iL H46 D15_49 (J := 51) rfl rfl ?_
   refine G.iL H46 D15_51 (J := 53) rfl rfl ?_
   refine G.cY H46 D15_53 (by decide) (by decide) (J := 124) rfl ?_
   refine G.iN H46 D15_124 (J := 125) rfl rfl ?_
   refine G.aL H46 D15_125 (J := 127) rfl rfl rfl ?_
   refine G.aR H46 A48 D15_127 (J := 128) rfl ?_
   refine G.cY H46 D15_128 (by decide) (by decide) (J := 134) rfl ?_
   refine G.aL H46 D15_134 (J := 136) rfl rfl rfl ?_
   refine G.iN H46 D15_136 (J := 137) rfl rfl ?_
   refine G.cS H46 (m98 V a14 3 k15 4 ([u21, u25, (x1.toInt8.toInt32)] : List Int32) h46_ H46.old (by omega) (by omega) (by simp only [qa, qc, qn] <;> omega) (Arv.pad A48 (fun i => (pad_rep (([u21, u25, (x1.toInt8.toInt32)] : List Int32).map Value.int) (.int 0) 1 i).symm)) (by omega) (by omega) (by omega) (by simp only [qa, qc, qn] <;> omega)) (wd346 V) (wd328 V) (wd89 V) (wd329 V) [.ref a14, .int 3] [] 0 140 (lenOf (pd_7) rfl) D15_137 all0 (by decide) ?_
   rintro T50 h50_ _ _ H50 ⟨a54, k55, rfl, rfl, K56, g57, F58, F59⟩
   have na54 := Nat.le_trans H46.le g57
   show Go _ _ _ _ (T50.setTop (mkF m 140 _ [.ref a54]))
   have K60 : Keep h0 h50_ [] := (Keep.trans (Keep.wr (Keep.wr (Keep.wr (Keep.trans (Keep.refl h0 []) K16 all0) W23 (Or.inr g17)) W27 (Or.inr g17)) W47 (Or.inr g17)) K56 all0)
   have K61 : Keep h0 h46_ [] := (Keep.wr (Keep.wr (Keep.wr (Keep.trans (Keep.refl h0 []) K16 all0) W23 (Or.inr g17)) W27 (Or.inr g17)) W47 (Or.inr g17))
   exact G.retA H50 (t := (.array .byte)) rfl rfl rfl D15_140 (so := []) all0 (by decide) (by decide) ⟨a54, k55, [u21, u25, (x1.toInt8.toInt32)], rfl, rfl, K60, (Nat.le_trans K61.1 g57), F58, lB, (by subst eu21; subst eu25; rw [own_e2, own_k3 r1 c5, own_k2 r2 c33]; simp only [encBs, List.flatMap_cons, List.flatMap_nil, List.append_nil, List.append_assoc])⟩
 ·
  show Go _ _ _ _ (T1.setTop (mkF m 18 _ [.int 1]))
  refine G.ifYes H1 D15_18 (by decide) (by decide) (J := 29) rfl ?_
  refine G.iC H1 D15_29 (J := 30) rfl (v := 0) rfl ?_
  refine G.sN H1 (L' := #[.val (.int 0), .val (.ref p0), .val (.int 1), .val (.int 0), .unset, .unset, .unset, .unset, .unset]) D15_30 (J := 31) rfl rfl ?_
  refine G.aN H1 D15_31 (J := 32) rfl rfl rfl ?_
  refine G.aR H1 f0 D15_32 (J := 33) rfl ?_
  refine G.cS H1 (m36 V h0 H1.old) (wq V 248 rfl) (wq V 249 rfl) (wd250 V) (wq V 251 rfl) [.int 2] [] 0 36 (lenOf (pd_21) rfl) D15_33 all0 (by decide) ?_
  rintro T62 h62_ _ _ H62 ⟨a66, k67, rfl, rfl, K68, g69, F70, F71⟩
  have na66 := Nat.le_trans H1.le g69
  show Go _ _ _ _ (T62.setTop (mkF m 36 _ [.ref a66]))
  refine G.astore H62 (L' := #[.val (.int 0), .val (.ref p0), .val (.int 1), .val (.int 0), .val (.ref a66), .unset, .unset, .unset, .unset]) D15_36 (J := 38) rfl rfl rfl ?_
  refine G.aN H62 D15_38 (J := 39) rfl rfl rfl ?_
  refine G.astore H62 (L' := #[.val (.int 0), .val (.ref p0), .val (.int 1), .val (.int 0), .val (.ref a66), .val (.ref p0), .unset, .unset, .unset]) D15_39 (J := 41) rfl rfl rfl ?_
  refine G.aL H62 D15_41 (J := 43) rfl rfl rfl ?_
  have F72 := (Arv.keep f0 K68 nin0)
  refine G.aR H62 F72 D15_43 (J := 44) rfl ?_
  refine G.sI H62 (L' := #[.val (.int 0), .val (.ref p0), .val (.int 1), .val (.int 0), .val (.ref a66), .val (.ref p0), .val (.int 2), .unset, .unset]) D15_44 (J := 46) rfl rfl ?_
  refine G.iC H62 D15_46 (J := 47) rfl (v := 0) rfl ?_
  refine G.sI H62 (L' := #[.val (.int 0), .val (.ref p0), .val (.int 1), .val (.int 0), .val (.ref a66), .val (.ref p0), .val (.int 2), .val (.int 0), .unset]) D15_47 (J := 49) rfl rfl ?_
  refine G.iL H62 D15_49 (J := 51) rfl rfl ?_
  refine G.iL H62 D15_51 (J := 53) rfl rfl ?_
  refine G.cN H62 D15_53 (J := 56) rfl (by decide) ?_
  refine G.aL H62 D15_56 (J := 58) rfl rfl rfl ?_
  refine G.iL H62 D15_58 (J := 60) rfl rfl ?_
  refine G.baloadG H62 F72 (j := 0) (v := (.int (x0.toInt8.toInt32))) (by decide) rfl D15_60 (J := 61) rfl ?_
  refine G.sI H62 (L' := #[.val (.int 0), .val (.ref p0), .val (.int 1), .val (.int 0), .val (.ref a66), .val (.ref p0), .val (.int 2), .val (.int 0), .val (.int (x0.toInt8.toInt32))]) D15_61 (J := 63) rfl rfl ?_
  refine G.iL H62 D15_63 (J := 65) rfl rfl ?_
  refine G.ifYes H62 D15_65 (XT.i0_ge_t c6) (by decide) (J := 109) rfl ?_
  refine G.aL H62 D15_109 (J := 111) rfl rfl rfl ?_
  refine G.iN H62 D15_111 (J := 112) rfl rfl ?_
  refine G.iI H62 (v := 1) (L' := #[.val (.int 0), .val (.ref p0), .val (.int 1), .val (.int 1), .val (.ref a66), .val (.ref p0), .val (.int 2), .val (.int 0), .val (.int (x0.toInt8.toInt32))]) D15_112 (J := 115) rfl rfl rfl rfl ?_
  refine G.iL H62 D15_115 (J := 117) rfl rfl ?_
  refine G.stB H62 F70 (by decide) (i := 0) rfl lB na66 (Sf.mem (mG (i := 0) rfl)) (y := (x0.toInt8.toInt32)) (own_narB _) D15_117 (J := 118) rfl ?_
  intro T73 h73_ H73 W74 A75
  replace A75 : Arv Z h73_ a66 k67 .byte 4 [(.int (x0.toInt8.toInt32)), .int 0, .int 0, .int 0] (.int 0) := A75
  refine G.iI H73 (v := 1) (L' := #[.val (.int 0), .val (.ref p0), .val (.int 1), .val (.int 1), .val (.ref a66), .val (.ref p0), .val (.int 2), .val (.int 1), .val (.int (x0.toInt8.toInt32))]) D15_118 (J := 121) rfl rfl rfl rfl ?_
  refine G.go H73 D15_121 (by decide) (J := 49) rfl ?_
  show Go _ _ _ _ (T73.setTop (mkF m 49 _ []))
  refine G.iL H73 D15_49 (J := 51) rfl rfl ?_
  refine G.iL H73 D15_51 (J := 53) rfl rfl ?_
  refine G.cN H73 D15_53 (J := 56) rfl (by decide) ?_
  refine G.aL H73 D15_56 (J := 58) rfl rfl rfl ?_
  refine G.iL H73 D15_58 (J := 60) rfl rfl ?_
  have N76 : p0 ≠ a66 := (Nat.ne_of_lt (Nat.lt_of_lt_of_le f0.lt g69))
  have F77 := (Arv.other F72 W74 N76)
  refine G.baloadG H73 F77 (j := 1) (v := (.int (x1.toInt8.toInt32))) (by decide) rfl D15_60 (J := 61) rfl ?_
  refine G.sI H73 (L' := #[.val (.int 0), .val (.ref p0), .val (.int 1), .val (.int 1), .val (.ref a66), .val (.ref p0), .val (.int 2), .val (.int 1), .val (.int (x1.toInt8.toInt32))]) D15_61 (J := 63) rfl rfl ?_
  refine G.iL H73 D15_63 (J := 65) rfl rfl ?_
  refine G.ifNo H73 D15_65 (J := 68) rfl (XT.i0_ge_f c7) ?_
  refine G.aL H73 D15_68 (J := 70) rfl rfl rfl ?_
  refine G.iN H73 D15_70 (J := 71) rfl rfl ?_
  refine G.iI H73 (v := 2) (L' := #[.val (.int 0), .val (.ref p0), .val (.int 1), .val (.int 2), .val (.ref a66), .val (.ref p0), .val (.int 2), .val (.int 1), .val (.int (x1.toInt8.toInt32))]) D15_71 (J := 74) rfl rfl rfl rfl ?_
  refine G.sP H73 D15_74 (J := 77) rfl (v := 192) rfl ?_
  refine G.iL H73 D15_77 (J := 79) rfl rfl ?_
  refine G.sP H73 D15_79 (J := 82) rfl (v := 255) rfl ?_
  refine G.iand H73 D15_82 (J := 83) rfl ?_
  rw [own_b8and r2]
  refine G.bP H73 D15_83 (J := 85) rfl (v := 6) rfl ?_
  refine G.ishr H73 D15_85 (J := 86) rfl ?_
  refine G.ior H73 D15_86 (J := 87) rfl ?_
  refine G.i2b H73 D15_87 (J := 88) rfl ?_
  obtain ⟨u78, eu78⟩ : ∃ q, q = ((192 ||| (x1 >>> ((6 : Int32) &&& 31))) : Int32).toInt8.toInt32 := ⟨_, rfl⟩
  rw [← eu78]
  have F82 := (Exa.wr W74 F71)
  refine G.stB H73 A75 (by decide) (i := 1) rfl lB na66 (Sf.mem (mG (i := 0) rfl)) (y := u78) (own_narBg eu78) D15_88 (J := 89) rfl ?_
  intro T79 h79_ H79 W80 A81
  replace A81 : Arv Z h79_ a66 k67 .byte 4 [(.int (x0.toInt8.toInt32)), .int u78, .int 0, .int 0] (.int 0) := A81
  refine G.aL H79 D15_89 (J := 91) rfl rfl rfl ?_
  refine G.iN H79 D15_91 (J := 92) rfl rfl ?_
  refine G.iI H79 (v := 3) (L' := #[.val (.int 0), .val (.ref p0), .val (.int 1), .val (.int 3), .val (.ref a66), .val (.ref p0), .val (.int 2), .val (.int 1), .val (.int (x1.toInt8.toInt32))]) D15_92 (J := 95) rfl rfl rfl rfl ?_
  refine G.sP H79 D15_95 (J := 98) rfl (v := 128) rfl ?_
  refine G.iL H79 D15_98 (J := 100) rfl rfl ?_
  refine G.bP H79 D15_100 (J := 102) rfl (v := 63) rfl ?_
  refine G.iand H79 D15_102 (J := 103) rfl ?_
  refine G.ior H79 D15_103 (J := 104) rfl ?_
  refine G.i2b H79 D15_104 (J := 105) rfl ?_
  obtain ⟨u83, eu83⟩ : ∃ q, q = ((128 ||| ((x1.toInt8.toInt32) &&& 63)) : Int32).toInt8.toInt32 := ⟨_, rfl⟩
  rw [← eu83]
  have F87 := (Exa.wr W80 F82)
  refine G.stB H79 A81 (by decide) (i := 2) rfl lB na66 (Sf.mem (mG (i := 0) rfl)) (y := u83) (own_narBg eu83) D15_105 (J := 106) rfl ?_
  intro T84 h84_ H84 W85 A86
  replace A86 : Arv Z h84_ a66 k67 .byte 4 [(.int (x0.toInt8.toInt32)), .int u78, .int u83, .int 0] (.int 0) := A86
  refine G.go H84 D15_106 (by decide) (J := 118) rfl ?_
  refine G.iI H84 (v := 2) (L' := #[.val (.int 0), .val (.ref p0), .val (.int 1), .val (.int 3), .val (.ref a66), .val (.ref p0), .val (.int 2), .val (.int 2), .val (.int (x1.toInt8.toInt32))]) D15_118 (J := 121) rfl rfl rfl rfl ?_
  refine G.go H84 D15_121 (by decide) (J := 49) rfl ?_
  show Go _ _ _ _ (T84.setTop (mkF m 49 _ []))
  refine G.iL H84 D15_49 (J := 51) rfl rfl ?_
  refine G.iL H84 D15_51 (J := 53) rfl rfl ?_
  refine G.cY H84 D15_53 (by decide) (by decide) (J := 124) rfl ?_
  refine G.iN H84 D15_124 (J := 125) rfl rfl ?_
  refine G.aL H84 D15_125 (J := 127) rfl rfl rfl ?_
  refine G.aR H84 A86 D15_127 (J := 128) rfl ?_
  refine G.cY H84 D15_128 (by decide) (by decide) (J := 134) rfl ?_
  refine G.aL H84 D15_134 (J := 136) rfl rfl rfl ?_
  refine G.iN H84 D15_136 (J := 137) rfl rfl ?_
  refine G.cS H84 (m98 V a66 3 k67 4 ([(x0.toInt8.toInt32), u78, u83] : List Int32) h84_ H84.old (by omega) (by omega) (by simp only [qa, qc, qn] <;> omega) (Arv.pad A86 (fun i => (pad_rep (([(x0.toInt8.toInt32), u78, u83] : List Int32).map Value.int) (.int 0) 1 i).symm)) (by omega) (by omega) (by omega) (by simp only [qa, qc, qn] <;> omega)) (wd346 V) (wd328 V) (wd89 V) (wd329 V) [.ref a66, .int 3] [] 0 140 (lenOf (pd_7) rfl) D15_137 all0 (by decide) ?_
  rintro T88 h88_ _ _ H88 ⟨a92, k93, rfl, rfl, K94, g95, F96, F97⟩
  have na92 := Nat.le_trans H84.le g95
  show Go _ _ _ _ (T88.setTop (mkF m 140 _ [.ref a92]))
  have K98 : Keep h0 h88_ [] := (Keep.trans (Keep.wr (Keep.wr (Keep.wr (Keep.trans (Keep.refl h0 []) K68 all0) W74 (Or.inr g69)) W80 (Or.inr g69)) W85 (Or.inr g69)) K94 all0)
  have K99 : Keep h0 h84_ [] := (Keep.wr (Keep.wr (Keep.wr (Keep.trans (Keep.refl h0 []) K68 all0) W74 (Or.inr g69)) W80 (Or.inr g69)) W85 (Or.inr g69))
  exact G.retA H88 (t := (.array .byte)) rfl rfl rfl D15_140 (so := []) all0 (by decide) (by decide) ⟨a92, k93, [(x0.toInt8.toInt32), u78, u83], rfl, rfl, K98, (Nat.le_trans K99.1 g95), F96, lB, (by subst eu78; subst eu83; rw [own_e2, own_k2 r1 c6, own_k3 r2 c7]; simp only [encBs, List.flatMap_cons, List.flatMap_nil, List.append_nil, List.append_assoc])⟩
 ·
  show Go _ _ _ _ (T1.setTop (mkF m 18 _ [.int 0]))
  refine G.ifNo H1 D15_18 (J := 21) rfl (by decide) ?_
  refine G.aN H1 D15_21 (J := 22) rfl rfl rfl ?_
  refine G.clone H1 (wq V 331 rfl) (wq V 332 rfl) (wq V 336 rfl) (wq V 334 rfl) (wq V 335 rfl) (wq V 337 rfl) f0 f3 (st := []) (W := 0) (cap := 2) rfl rfl D15_22 (J := 25) rfl (by decide) (by decide) (by decide) (by decide) (by decide) ?_
  intro T100 h100_ a101 ga101 H100 E102 A103 X104
  have na101 := H1.nle ga101
  refine G.castY H100 (wq V 338 rfl) (Ins.self X104) D15_25 (J := 28) rfl ?_
  intro T105 H106
  have K107 : Keep h0 h100_ [] := (Keep.ext (Keep.refl h0 []) E102)
  exact G.retA H106 (t := (.array .byte)) rfl rfl rfl D15_28 (so := []) all0 (by decide) (by decide) ⟨a101, d0, [(x0.toInt8.toInt32), (x1.toInt8.toInt32)], rfl, rfl, K107, (Nat.le_of_eq ga101.symm), A103, lB, (by rw [own_e2, own_k2 r1 c8, own_k2 r2 c9]; simp only [encBs, List.flatMap_cons, List.flatMap_nil, List.append_nil, List.append_assoc])⟩
theorem m119 (V : Env1 Z a0 n0 uu0 uu1 uu2 uu3 uu4) (p0 : Addr) (d0 : ClassId) (x0 : Int32) (x1 : Int32) (h0 : Heap) (hO : Old Z n0 h0) (f0 : Arv Z h0 p0 d0 .byte 2 [(.int (x0.toInt8.toInt32)), (.int (x1.toInt8.toInt32))] (.int 0)) (r1 : ¬ x0 < 0 ∧ ¬ 255 < x0) (r2 : ¬ x1 < 0 ∧ ¬ 255 < x1) (f3 : Exa Z h0 p0 "[B") :
  Met Z a0 ELs True n0 l ⟨"java/lang/String", "encode", "(Ljava/nio/charset/Charset;B[B)[B"⟩ Y41 3 (some (.array .byte)) ⟨3, 2, 28, 74⟩ #[.ref uu1, .int 0, .ref p0] h0 [] (fun v h so => (∃ a : Addr, ∃ kc : ClassId, ∃ bs : List Int32, v = some (.ref a) ∧ so = [] ∧ Keep h0 h [] ∧ h0.size ≤ a ∧ Arv Z h a kc .byte (Int32.ofNat bs.length) (bs.map Value.int) (.int 0) ∧ bs.length ≤ 6 ∧ encBs bs = encS [x0, x1])) := by
 refine Met.of (EWl V) (by first | decide +kernel | rfl) hO (L0 := #[.val (.ref uu1), .val (.int 0), .val (.ref p0)]) rfl ?_
 intro p e s m below meth c T H
 refine G.aN H D13_0 (J := 1) rfl rfl rfl ?_
 refine G.getS H (wq V 236 rfl) Via.refl (Sta.ext H.old.2 (hv1 V)) D13_1 (J := 4) rfl ?_
 intro T1 H2
 refine G.acmpNo H2 D13_4 (J := 7) rfl rfl rfl (XT.aa_ne_f rfl) ?_
 refine G.iN H2 D13_7 (J := 8) rfl rfl ?_
 refine G.aN H2 D13_8 (J := 9) rfl rfl rfl ?_
 refine G.iC H2 D13_9 (J := 10) rfl (v := 1) rfl ?_
 refine G.cS H2 (m118 V p0 d0 x0 x1 h0 H2.old f0 r1 r2 f3) (wq V 238 rfl) (wq V 239 rfl) (wd11 V) (wq V 240 rfl) [.int 0, .ref p0, .int 1] [] 0 13 (lenOf (pd_44) rfl) D13_10 all0 (by decide) ?_
 rintro T3 h3_ _ _ H3 ⟨a7, k8, l9, rfl, rfl, K10, g11, F12, R13, R14⟩
 have na7 := Nat.le_trans H.le g11
 show Go _ _ _ _ (T3.setTop (mkF m 13 _ [.ref a7]))
 have K15 : Keep h0 h3_ [] := (Keep.trans (Keep.refl h0 []) K10 all0)
 exact G.retA H3 (t := (.array .byte)) rfl rfl rfl D13_13 (so := []) all0 (by decide) (by decide) ⟨a7, k8, l9, rfl, rfl, K15, g11, F12, (by omega), R14⟩
theorem m120 (V : Env1 Z a0 n0 uu0 uu1 uu2 uu3 uu4) (p0 : Addr) (p1 : Addr) (d0 : ClassId) (x0 : Int32) (x1 : Int32) (h0 : Heap) (hO : Old Z n0 h0) (f0 : Str Z h0 p0 p1 d0 [x0, x1]) (r1 : ¬ x0 < 0 ∧ ¬ 255 < x0) (r2 : ¬ x1 < 0 ∧ ¬ 255 < x1) (f3 : Exa Z h0 p1 "[B") :
  Met Z a0 ELs True n0 l ⟨"java/lang/String", "getBytes", "(Ljava/nio/charset/Charset;)[B"⟩ Y38 2 (some (.array .byte)) ⟨4, 2, 28, 88⟩ #[.ref p0, .ref uu1] h0 [] (fun v h so => (∃ a : Addr, ∃ kc : ClassId, ∃ bs : List Int32, v = some (.ref a) ∧ so = [] ∧ Keep h0 h [] ∧ h0.size ≤ a ∧ Arv Z h a kc .byte (Int32.ofNat bs.length) (bs.map Value.int) (.int 0) ∧ bs.length ≤ 6 ∧ encBs bs = encS [x0, x1])) := by
 refine Met.of (EWl V) (by first | decide +kernel | rfl) hO (L0 := #[.val (.ref p0), .val (.ref uu1)]) rfl ?_
 intro p e s m below meth c T H
 have A1 : Arv Z h0 p1 d0 .byte 2 [(.int (x0.toInt8.toInt32)), (.int (x1.toInt8.toInt32))] (.int 0) := f0.2.2.2.1
 refine G.aN H D20_0 (J := 1) rfl rfl rfl ?_
 refine G.ifnonnullYes H D20_1 (by decide) (J := 12) rfl ?_
 refine G.aN H D20_12 (J := 13) rfl rfl rfl ?_
 refine G.aN H D20_13 (J := 14) rfl rfl rfl ?_
 refine G.cV H (m104 V p0 p1 d0 x0 x1 h0 H.old f0) (wd110 V) (wd111 V) (nf_sel (wd113 V)) (wd113 V) (wd112 V) (wd11 V) (wd114 V) f0.1 [] [.ref uu1] 1 17 (lenOf (pd_10) rfl) D20_14 all0 (by decide) ?_
 rintro T2 h2_ _ _ H2 ⟨rfl, rfl, rfl⟩
 show Go _ _ _ _ (T2.setTop (mkF m 17 _ [.int 0, .ref uu1]))
 refine G.aN H2 D20_17 (J := 18) rfl rfl rfl ?_
 refine G.getF H2 (wd29 V) Via.refl f0.2.2.1 D20_18 (J := 21) rfl ?_
 intro T6 H7
 refine G.cS H7 (m119 V p1 d0 x0 x1 h0 H7.old A1 r1 r2 f3) (wq V 233 rfl) (wq V 234 rfl) (wd11 V) (wq V 235 rfl) [.ref uu1, .int 0, .ref p1] [] 0 24 (lenOf (pd_45) rfl) D20_21 all0 (by decide) ?_
 rintro T8 h8_ _ _ H8 ⟨a12, k13, l14, rfl, rfl, K15, g16, F17, R18, R19⟩
 have na12 := Nat.le_trans H2.le g16
 show Go _ _ _ _ (T8.setTop (mkF m 24 _ [.ref a12]))
 have K20 : Keep h0 h8_ [] := (Keep.trans (Keep.refl h0 []) K15 all0)
 exact G.retA H8 (t := (.array .byte)) rfl rfl rfl D20_24 (so := []) all0 (by decide) (by decide) ⟨a12, k13, l14, rfl, rfl, K20, g16, F17, (by omega), R19⟩
theorem m121 (V : Env1 Z a0 n0 uu0 uu1 uu2 uu3 uu4) (p0 : Addr) (p1 : Addr) (d0 : ClassId) (x0 : Int32) (x1 : Int32) (h0 : Heap) (hO : Old Z n0 h0) (f0 : Fld Z h0 p0 "java/lang/String" "value" "[B" (.ref p1)) (f1 : Arv Z h0 p1 d0 .byte 4 [(.int (x0.toInt8.toInt32)), (.int ((x0 >>> ((8 : Int32) &&& 31)).toInt8.toInt32)), (.int (x1.toInt8.toInt32)), (.int ((x1 >>> ((8 : Int32) &&& 31)).toInt8.toInt32))] (.int 0)) (f2 : Exa Z h0 p0 "java/lang/String") (f3 : Fld Z h0 p0 "java/lang/String" "coder" "B" (.int 1)) :
  Met Z a0 ELs True n0 l ⟨"java/lang/String", "length", "()I"⟩ Y40 1 (some .int) ⟨1, 0, 0, 13⟩ #[.ref p0] h0 [] (fun v h so => (v = some (.int 2) ∧ so = [] ∧ h0 = h)) := by
 refine Met.of (EWl V) (by first | decide +kernel | rfl) hO (L0 := #[.val (.ref p0)]) rfl ?_
 intro p e s m below meth c T H
 refine G.aN H D18_0 (J := 1) rfl rfl rfl ?_
 refine G.getF H (wd29 V) Via.refl f0 D18_1 (J := 4) rfl ?_
 intro T1 H2
 refine G.aR H2 f1 D18_4 (J := 5) rfl ?_
 refine G.aN H2 D18_5 (J := 6) rfl rfl rfl ?_
 refine G.cV H2 (m87 V p0 h0 H2.old f3) (wd110 V) (wd111 V) (nf_sel (wd113 V)) (wd113 V) (wd112 V) (wd11 V) (wd114 V) f2 [] [.int 4] 1 9 (lenOf (pd_10) rfl) D18_6 all0 (by decide) ?_
 rintro T3 h3_ _ _ H3 ⟨rfl, rfl, rfl⟩
 show Go _ _ _ _ (T3.setTop (mkF m 9 _ [.int 1, .int 4]))
 refine G.ishr H3 D18_9 (J := 10) rfl ?_
 show Go _ _ _ _ (T3.setTop (mkF m 10 _ [.int 2]))
 exact G.retI H3 rfl D18_10 (so := []) all0 (by decide) (by decide) ⟨rfl, rfl, rfl⟩
theorem m122 (V : Env1 Z a0 n0 uu0 uu1 uu2 uu3 uu4) (p0 : Addr) (d0 : ClassId) (x0 : Int32) (x1 : Int32) (h0 : Heap) (hO : Old Z n0 h0) (f0 : Arv Z h0 p0 d0 .byte 4 [(.int (x0.toInt8.toInt32)), (.int ((x0 >>> ((8 : Int32) &&& 31)).toInt8.toInt32)), (.int (x1.toInt8.toInt32)), (.int ((x1 >>> ((8 : Int32) &&& 31)).toInt8.toInt32))] (.int 0)) :
  Met Z a0 ELs True n0 l ⟨"java/lang/StringUTF16", "length", "([B)I"⟩ Y62 1 (some .int) ⟨0, 0, 0, 0⟩ #[.ref p0] h0 [] (fun v h so => (v = some (.int 2) ∧ so = [] ∧ h0 = h)) := by
 refine Met.of (EWl V) (by first | decide +kernel | rfl) hO (L0 := #[.val (.ref p0)]) rfl ?_
 intro p e s m below meth c T H
 refine G.aN H D38_0 (J := 1) rfl rfl rfl ?_
 refine G.aR H f0 D38_1 (J := 2) rfl ?_
 refine G.iC H D38_2 (J := 3) rfl (v := 1) rfl ?_
 refine G.ishr H D38_3 (J := 4) rfl ?_
 show Go _ _ _ _ (T.setTop (mkF m 4 _ [.int 2]))
 exact G.retI H rfl D38_4 (so := []) all0 (by decide) (by decide) ⟨rfl, rfl, rfl⟩
theorem m123 (V : Env1 Z a0 n0 uu0 uu1 uu2 uu3 uu4) (p0 : Addr) (d0 : ClassId) (x0 : Int32) (x1 : Int32) (h0 : Heap) (hO : Old Z n0 h0) (f0 : Arv Z h0 p0 d0 .byte 4 [(.int (x0.toInt8.toInt32)), (.int ((x0 >>> ((8 : Int32) &&& 31)).toInt8.toInt32)), (.int (x1.toInt8.toInt32)), (.int ((x1 >>> ((8 : Int32) &&& 31)).toInt8.toInt32))] (.int 0)) :
  Met Z a0 ELs True n0 l ⟨"java/lang/StringUTF16", "checkIndex", "(I[B)V"⟩ Y61 2 none ⟨2, 0, 0, 27⟩ #[.int 0, .ref p0] h0 [] (fun v h so => (v = none ∧ so = [] ∧ h0 = h)) := by
 refine Met.of (EWl V) (by first | decide +kernel | rfl) hO (L0 := #[.val (.int 0), .val (.ref p0)]) rfl ?_
 intro p e s m below meth c T H
 refine G.iN H D40_0 (J := 1) rfl rfl ?_
 refine G.aN H D40_1 (J := 2) rfl rfl rfl ?_
 refine G.cS H (m122 V p0 d0 x0 x1 h0 H.old f0) (wq V 302 rfl) (wq V 303 rfl) (wd250 V) (wq V 304 rfl) [.ref p0] [.int 0] 1 5 (lenOf (pd_47) rfl) D40_2 all0 (by decide) ?_
 rintro T1 h1_ _ _ H1 ⟨rfl, rfl, rfl⟩
 show Go _ _ _ _ (T1.setTop (mkF m 5 _ [.int 2, .int 0]))
 refine G.cS H1 (m108 V h0 H1.old) (wq V 305 rfl) (wq V 195 rfl) (wd11 V) (wq V 196 rfl) [.int 0, .int 2] [] 0 8 (lenOf (pd_28) rfl) D40_5 all0 (by decide) ?_
 rintro T5 h5_ _ _ H5 ⟨rfl, rfl, rfl⟩
 show Go _ _ _ _ (T5.setTop (mkF m 8 _ []))
 exact G.retV H5 rfl D40_8 (so := []) all0 (by decide) (by decide) ⟨rfl, rfl, rfl⟩
theorem m124 (V : Env1 Z a0 n0 uu0 uu1 uu2 uu3 uu4) (p0 : Addr) (d0 : ClassId) (x0 : Int32) (x1 : Int32) (h0 : Heap) (hO : Old Z n0 h0) (f0 : Arv Z h0 p0 d0 .byte 4 [(.int (x0.toInt8.toInt32)), (.int ((x0 >>> ((8 : Int32) &&& 31)).toInt8.toInt32)), (.int (x1.toInt8.toInt32)), (.int ((x1 >>> ((8 : Int32) &&& 31)).toInt8.toInt32))] (.int 0)) (r1 : ¬ x0 < 0 ∧ ¬ 65535 < x0) :
  Met Z a0 ELs True n0 l ⟨"java/lang/StringUTF16", "charAt", "([BI)C"⟩ Y53 2 (some .char) ⟨3, 0, 0, 40⟩ #[.ref p0, .int 0] h0 [] (fun v h so => (v = some (.int x0) ∧ so = [] ∧ h0 = h)) := by
 refine Met.of (EWl V) (by first | decide +kernel | rfl) hO (L0 := #[.val (.ref p0), .val (.int 0)]) rfl ?_
 intro p e s m below meth c T H
 refine G.iN H D39_0 (J := 1) rfl rfl ?_
 refine G.aN H D39_1 (J := 2) rfl rfl rfl ?_
 refine G.cS H (m123 V p0 d0 x0 x1 h0 H.old f0) (wq V 299 rfl) (wq V 300 rfl) (wd250 V) (wq V 301 rfl) [.int 0, .ref p0] [] 0 5 (lenOf (pd_48) rfl) D39_2 all0 (by decide) ?_
 rintro T1 h1_ _ _ H1 ⟨rfl, rfl, rfl⟩
 show Go _ _ _ _ (T1.setTop (mkF m 5 _ []))
 refine G.aN H1 D39_5 (J := 6) rfl rfl rfl ?_
 refine G.iN H1 D39_6 (J := 7) rfl rfl ?_
 refine G.cS H1 (m40 V p0 d0 x0 x1 h0 H1.old f0 r1) (wq V 290 rfl) (wd291 V) (wd250 V) (wd292 V) [.ref p0, .int 0] [] 0 10 (lenOf (pd_23) rfl) D39_7 all0 (by decide) ?_
 rintro T5 h5_ _ _ H5 ⟨rfl, rfl, rfl⟩
 show Go _ _ _ _ (T5.setTop (mkF m 10 _ [.int x0]))
 exact G.retN H5 (t := .char) rfl (by decide) D39_10 (so := []) all0 (by decide) (by decide) ⟨(congrArg (fun q => some (Value.int q)) (own_narC r1)), rfl, rfl⟩
theorem m125 (V : Env1 Z a0 n0 uu0 uu1 uu2 uu3 uu4) (p0 : Addr) (p1 : Addr) (d0 : ClassId) (x0 : Int32) (x1 : Int32) (h0 : Heap) (hO : Old Z n0 h0) (f0 : Exa Z h0 p0 "java/lang/String") (f1 : Fld Z h0 p0 "java/lang/String" "coder" "B" (.int 1)) (f2 : Fld Z h0 p0 "java/lang/String" "value" "[B" (.ref p1)) (f3 : Arv Z h0 p1 d0 .byte 4 [(.int (x0.toInt8.toInt32)), (.int ((x0 >>> ((8 : Int32) &&& 31)).toInt8.toInt32)), (.int (x1.toInt8.toInt32)), (.int ((x1 >>> ((8 : Int32) &&& 31)).toInt8.toInt32))] (.int 0)) (r4 : ¬ x0 < 0 ∧ ¬ 65535 < x0) :
  Met Z a0 ELs True n0 l ⟨"java/lang/String", "charAt", "(I)C"⟩ Y28 2 (some .char) ⟨4, 0, 0, 53⟩ #[.ref p0, .int 0] h0 [] (fun v h so => (v = some (.int x0) ∧ so = [] ∧ h0 = h)) := by
 refine Met.of (EWl V) (by first | decide +kernel | rfl) hO (L0 := #[.val (.ref p0), .val (.int 0)]) rfl ?_
 intro p e s m below meth c T H
 refine G.aN H D19_0 (J := 1) rfl rfl rfl ?_
 refine G.cV H (m89 V p0 h0 H.old f1) (wq V 186 rfl) (wq V 187 rfl) (nf_sel (wd189 V)) (wd189 V) (wq V 188 rfl) (wd11 V) (wq V 190 rfl) f0 [] [] 0 4 (lenOf (pd_1) rfl) D19_1 all0 (by decide) ?_
 rintro T1 h1_ _ _ H1 ⟨rfl, rfl, rfl⟩
 show Go _ _ _ _ (T1.setTop (mkF m 4 _ [.int 0]))
 refine G.ifYes H1 D19_4 (by decide) (by decide) (J := 16) rfl ?_
 refine G.aN H1 D19_16 (J := 17) rfl rfl rfl ?_
 refine G.getF H1 (wd29 V) Via.refl f2 D19_17 (J := 20) rfl ?_
 intro T5 H6
 refine G.iN H6 D19_20 (J := 21) rfl rfl ?_
 refine G.cS H6 (m124 V p1 d0 x0 x1 h0 H6.old f3 r4) (wq V 296 rfl) (wq V 297 rfl) (wd250 V) (wq V 298 rfl) [.ref p1, .int 0] [] 0 24 (lenOf (pd_23) rfl) D19_21 all0 (by decide) ?_
 rintro T7 h7_ _ _ H7 ⟨rfl, rfl, rfl⟩
 show Go _ _ _ _ (T7.setTop (mkF m 24 _ [.int x0]))
 exact G.retN H7 (t := .char) rfl (by decide) D19_24 (so := []) all0 (by decide) (by decide) ⟨(congrArg (fun q => some (Value.int q)) (own_narC r4)), rfl, rfl⟩
theorem m126 (V : Env1 Z a0 n0 uu0 uu1 uu2 uu3 uu4) (p0 : Addr) (d0 : ClassId) (x0 : Int32) (x1 : Int32) (h0 : Heap) (hO : Old Z n0 h0) (f0 : Arv Z h0 p0 d0 .byte 4 [(.int (x0.toInt8.toInt32)), (.int ((x0 >>> ((8 : Int32) &&& 31)).toInt8.toInt32)), (.int (x1.toInt8.toInt32)), (.int ((x1 >>> ((8 : Int32) &&& 31)).toInt8.toInt32))] (.int 0)) :
  Met Z a0 ELs True n0 l ⟨"java/lang/StringUTF16", "checkIndex", "(I[B)V"⟩ Y61 2 none ⟨2, 0, 0, 27⟩ #[.int 1, .ref p0] h0 [] (fun v h so => (v = none ∧ so = [] ∧ h0 = h)) := by
 refine Met.of (EWl V) (by first | decide +kernel | rfl) hO (L0 := #[.val (.int 1), .val (.ref p0)]) rfl ?_
 intro p e s m below meth c T H
 refine G.iN H D40_0 (J := 1) rfl rfl ?_
 refine G.aN H D40_1 (J := 2) rfl rfl rfl ?_
 refine G.cS H (m122 V p0 d0 x0 x1 h0 H.old f0) (wq V 302 rfl) (wq V 303 rfl) (wd250 V) (wq V 304 rfl) [.ref p0] [.int 1] 1 5 (lenOf (pd_47) rfl) D40_2 all0 (by decide) ?_
 rintro T1 h1_ _ _ H1 ⟨rfl, rfl, rfl⟩
 show Go _ _ _ _ (T1.setTop (mkF m 5 _ [.int 2, .int 1]))
 refine G.cS H1 (m112 V h0 H1.old) (wq V 305 rfl) (wq V 195 rfl) (wd11 V) (wq V 196 rfl) [.int 1, .int 2] [] 0 8 (lenOf (pd_28) rfl) D40_5 all0 (by decide) ?_
 rintro T5 h5_ _ _ H5 ⟨rfl, rfl, rfl⟩
 show Go _ _ _ _ (T5.setTop (mkF m 8 _ []))
 exact G.retV H5 rfl D40_8 (so := []) all0 (by decide) (by decide) ⟨rfl, rfl, rfl⟩
theorem m127 (V : Env1 Z a0 n0 uu0 uu1 uu2 uu3 uu4) (p0 : Addr) (d0 : ClassId) (x0 : Int32) (x1 : Int32) (h0 : Heap) (hO : Old Z n0 h0) (f0 : Arv Z h0 p0 d0 .byte 4 [(.int (x0.toInt8.toInt32)), (.int ((x0 >>> ((8 : Int32) &&& 31)).toInt8.toInt32)), (.int (x1.toInt8.toInt32)), (.int ((x1 >>> ((8 : Int32) &&& 31)).toInt8.toInt32))] (.int 0)) (r1 : ¬ x1 < 0 ∧ ¬ 65535 < x1) :
  Met Z a0 ELs True n0 l ⟨"java/lang/StringUTF16", "charAt", "([BI)C"⟩ Y53 2 (some .char) ⟨3, 0, 0, 40⟩ #[.ref p0, .int 1] h0 [] (fun v h so => (v = some (.int x1) ∧ so = [] ∧ h0 = h)) := by
 refine Met.of (EWl V) (by first | decide +kernel | rfl) hO (L0 := #[.val (.ref p0), .val (.int 1)]) rfl ?_
 intro p e s m below meth c T H
 refine G.iN H D39_0 (J := 1) rfl rfl ?_
 refine G.aN H D39_1 (J := 2) rfl rfl rfl ?_
 refine G.cS H (m126 V p0 d0 x0 x1 h0 H.old f0) (wq V 299 rfl) (wq V 300 rfl) (wd250 V) (wq V 301 rfl) [.int 1, .ref p0] [] 0 5 (lenOf (pd_48) rfl) D39_2 all0 (by decide) ?_
 rintro T1 h1_ _ _ H1 ⟨rfl, rfl, rfl⟩
 show Go _ _ _ _ (T1.setTop (mkF m 5 _ []))
 refine G.aN H1 D39_5 (J := 6) rfl rfl rfl ?_
 refine G.iN H1 D39_6 (J := 7) rfl rfl ?_
 refine G.cS H1 (m41 V p0 d0 x0 x1 h0 H1.old f0 r1) (wq V 290 rfl) (wd291 V) (wd250 V) (wd292 V) [.ref p0, .int 1] [] 0 10 (lenOf (pd_23) rfl) D39_7 all0 (by decide) ?_
 rintro T5 h5_ _ _ H5 ⟨rfl, rfl, rfl⟩
 show Go _ _ _ _ (T5.setTop (mkF m 10 _ [.int x1]))
 exact G.retN H5 (t := .char) rfl (by decide) D39_10 (so := []) all0 (by decide) (by decide) ⟨(congrArg (fun q => some (Value.int q)) (own_narC r1)), rfl, rfl⟩
theorem m128 (V : Env1 Z a0 n0 uu0 uu1 uu2 uu3 uu4) (p0 : Addr) (p1 : Addr) (d0 : ClassId) (x0 : Int32) (x1 : Int32) (h0 : Heap) (hO : Old Z n0 h0) (f0 : Exa Z h0 p0 "java/lang/String") (f1 : Fld Z h0 p0 "java/lang/String" "coder" "B" (.int 1)) (f2 : Fld Z h0 p0 "java/lang/String" "value" "[B" (.ref p1)) (f3 : Arv Z h0 p1 d0 .byte 4 [(.int (x0.toInt8.toInt32)), (.int ((x0 >>> ((8 : Int32) &&& 31)).toInt8.toInt32)), (.int (x1.toInt8.toInt32)), (.int ((x1 >>> ((8 : Int32) &&& 31)).toInt8.toInt32))] (.int 0)) (r4 : ¬ x1 < 0 ∧ ¬ 65535 < x1) :
  Met Z a0 ELs True n0 l ⟨"java/lang/String", "charAt", "(I)C"⟩ Y28 2 (some .char) ⟨4, 0, 0, 53⟩ #[.ref p0, .int 1] h0 [] (fun v h so => (v = some (.int x1) ∧ so = [] ∧ h0 = h)) := by
 refine Met.of (EWl V) (by first | decide +kernel | rfl) hO (L0 := #[.val (.ref p0), .val (.int 1)]) rfl ?_
 intro p e s m below meth c T H
 refine G.aN H D19_0 (J := 1) rfl rfl rfl ?_
 refine G.cV H (m89 V p0 h0 H.old f1) (wq V 186 rfl) (wq V 187 rfl) (nf_sel (wd189 V)) (wd189 V) (wq V 188 rfl) (wd11 V) (wq V 190 rfl) f0 [] [] 0 4 (lenOf (pd_1) rfl) D19_1 all0 (by decide) ?_
 rintro T1 h1_ _ _ H1 ⟨rfl, rfl, rfl⟩
 show Go _ _ _ _ (T1.setTop (mkF m 4 _ [.int 0]))
 refine G.ifYes H1 D19_4 (by decide) (by decide) (J := 16) rfl ?_
 refine G.aN H1 D19_16 (J := 17) rfl rfl rfl ?_
 refine G.getF H1 (wd29 V) Via.refl f2 D19_17 (J := 20) rfl ?_
 intro T5 H6
 refine G.iN H6 D19_20 (J := 21) rfl rfl ?_
 refine G.cS H6 (m127 V p1 d0 x0 x1 h0 H6.old f3 r4) (wq V 296 rfl) (wq V 297 rfl) (wd250 V) (wq V 298 rfl) [.ref p1, .int 1] [] 0 24 (lenOf (pd_23) rfl) D19_21 all0 (by decide) ?_
 rintro T7 h7_ _ _ H7 ⟨rfl, rfl, rfl⟩
 show Go _ _ _ _ (T7.setTop (mkF m 24 _ [.int x1]))
 exact G.retN H7 (t := .char) rfl (by decide) D19_24 (so := []) all0 (by decide) (by decide) ⟨(congrArg (fun q => some (Value.int q)) (own_narC r4)), rfl, rfl⟩
theorem m129 (V : Env1 Z a0 n0 uu0 uu1 uu2 uu3 uu4) (p0 : Addr) (p1 : Addr) (p2 : Addr) (d0 : ClassId) (x0 : Int32) (x1 : Int32) (p3 : Addr) (d1 : ClassId) (h0 : Heap) (hO : Old Z n0 h0) (f0 : Exa Z h0 p0 "java/lang/String") (f1 : Fld Z h0 p0 "java/lang/String" "value" "[B" (.ref p2)) (f2 : Arv Z h0 p2 d0 .byte 4 [(.int (x0.toInt8.toInt32)), (.int ((x0 >>> ((8 : Int32) &&& 31)).toInt8.toInt32)), (.int (x1.toInt8.toInt32)), (.int ((x1 >>> ((8 : Int32) &&& 31)).toInt8.toInt32))] (.int 0)) (f3 : Fld Z h0 p0 "java/lang/String" "coder" "B" (.int 1)) (r4 : ¬ x0 < 0 ∧ ¬ 65535 < x0) (or5 : (¬ 255 < x0 → 255 < x1)) (f6 : Exa Z h0 p1 "java/lang/String") (f7 : Str Z h0 p1 p3 d1 []) (r8 : ¬ x1 < 0 ∧ ¬ 65535 < x1) :
  Met Z a0 ELs True n0 l ⟨"com/example/schema_to_form/schematoform/server/PathSegments", "isUnreserved", "(Ljava/lang/String;Ljava/lang/String;)Z"⟩ Y14 4 (some .boolean) ⟨5, 0, 0, 66⟩ #[.ref p0, .ref p1] h0 [] (fun v h so => (v = some (.int 0) ∧ so = [] ∧ h0 = h)) := by
 refine Met.of (EWl V) (by first | decide +kernel | rfl) hO (L0 := #[.val (.ref p0), .val (.ref p1), .unset, .unset]) rfl ?_
 intro p e s m below meth c T H
 refine G.iC H D69_0 (J := 1) rfl (v := 0) rfl ?_
 refine G.sN H (L' := #[.val (.ref p0), .val (.ref p1), .val (.int 0), .unset]) D69_1 (J := 2) rfl rfl ?_
 refine G.iN H D69_2 (J := 3) rfl rfl ?_
 refine G.aN H D69_3 (J := 4) rfl rfl rfl ?_
 refine G.cV H (m121 V p0 p2 d0 x0 x1 h0 H.old f1 f2 f0 f3) (wq V 153 rfl) (wd106 V) (nf_sel (wd108 V)) (wd108 V) (wd107 V) (wd11 V) (wd109 V) f0 [] [.int 0] 1 7 (lenOf (pd_11) rfl) D69_4 all0 (by decide) ?_
 rintro T1 h1_ _ _ H1 ⟨rfl, rfl, rfl⟩
 show Go _ _ _ _ (T1.setTop (mkF m 7 _ [.int 2, .int 0]))
 refine G.cN H1 D69_7 (J := 10) rfl (by decide) ?_
 refine G.aN H1 D69_10 (J := 11) rfl rfl rfl ?_
 refine G.iN H1 D69_11 (J := 12) rfl rfl ?_
 refine G.cV H1 (m125 V p0 p2 d0 x0 x1 h0 H1.old f0 f3 f1 f2 r4) (wq V 181 rfl) (wq V 182 rfl) (nf_sel (wd184 V)) (wd184 V) (wq V 183 rfl) (wd11 V) (wq V 185 rfl) f0 [.int 0] [] 0 15 (lenOf (pd_41) rfl) D69_12 all0 (by decide) ?_
 rintro T5 h5_ _ _ H5 ⟨rfl, rfl, rfl⟩
 show Go _ _ _ _ (T5.setTop (mkF m 15 _ [.int x0]))
 refine G.sN H5 (L' := #[.val (.ref p0), .val (.ref p1), .val (.int 0), .val (.int x0)]) D69_15 (J := 16) rfl rfl ?_
 refine G.iN H5 D69_16 (J := 17) rfl rfl ?_
 refine G.cS H5 (m14 V x0 h0 H5.old) (wq V 202 rfl) (wq V 203 rfl) (wd34 V) (wq V 204 rfl) [.int x0] [] 0 20 (lenOf (pd_9) rfl) D69_17 all0 (by decide) ?_
 rintro T9 h9_ _ _ H9 ⟨rfl, rfl, r13, rfl⟩
 show Go _ _ _ _ (T9.setTop (mkF m 20 _ [(.int (unrB x0))]))
 by_cases c14 : (unrB x0) = 0
 ·
  refine G.ifNo H9 D69_20 (J := 23) rfl (XT.i0_ne_f c14) ?_
  refine G.aN H9 D69_23 (J := 24) rfl rfl rfl ?_
  refine G.iN H9 D69_24 (J := 25) rfl rfl ?_
  refine G.cV H9 (m23 V p1 x0 p3 d1 h0 H9.old f6 f7) (wq V 205 rfl) (wq V 206 rfl) (nf_sel (wd208 V)) (wd208 V) (wq V 207 rfl) (wd11 V) (wq V 209 rfl) f6 [.int x0] [] 0 28 (lenOf (pd_6) rfl) D69_25 all0 (by decide) ?_
  rintro T15 h15_ _ _ H15 ⟨rfl, rfl, rfl⟩
  show Go _ _ _ _ (T15.setTop (mkF m 28 _ [(.int (-1 : Int32))]))
  refine G.ifNo H15 D69_28 (J := 31) rfl (by decide) ?_
  refine G.iC H15 D69_31 (J := 32) rfl (v := 0) rfl ?_
  exact G.retN H15 (t := .boolean) rfl (by decide) D69_32 (so := []) all0 (by decide) (by decide) ⟨rfl, rfl, rfl⟩
 ·
  refine G.ifYes H9 D69_20 (XT.i0_ne_t c14) (by decide) (J := 33) rfl ?_
  refine G.iI H9 (v := 1) (L' := #[.val (.ref p0), .val (.ref p1), .val (.int 1), .val (.int x0)]) D69_33 (J := 36) rfl rfl rfl rfl ?_
  refine G.go H9 D69_36 (by decide) (J := 2) rfl ?_
  show Go _ _ _ _ (T9.setTop (mkF m 2 _ []))
  refine G.iN H9 D69_2 (J := 3) rfl rfl ?_
  refine G.aN H9 D69_3 (J := 4) rfl rfl rfl ?_
  refine G.cV H9 (m121 V p0 p2 d0 x0 x1 h0 H9.old f1 f2 f0 f3) (wq V 153 rfl) (wd106 V) (nf_sel (wd108 V)) (wd108 V) (wd107 V) (wd11 V) (wd109 V) f0 [] [.int 1] 1 7 (lenOf (pd_11) rfl) D69_4 all0 (by decide) ?_
  rintro T19 h19_ _ _ H19 ⟨rfl, rfl, rfl⟩
  show Go _ _ _ _ (T19.setTop (mkF m 7 _ [.int 2, .int 1]))
  refine G.cN H19 D69_7 (J := 10) rfl (by decide) ?_
  refine G.aN H19 D69_10 (J := 11) rfl rfl rfl ?_
  refine G.iN H19 D69_11 (J := 12) rfl rfl ?_
  refine G.cV H19 (m128 V p0 p2 d0 x0 x1 h0 H19.old f0 f3 f1 f2 r8) (wq V 181 rfl) (wq V 182 rfl) (nf_sel (wd184 V)) (wd184 V) (wq V 183 rfl) (wd11 V) (wq V 185 rfl) f0 [.int 1] [] 0 15 (lenOf (pd_41) rfl) D69_12 all0 (by decide) ?_
  rintro T23 h23_ _ _ H23 ⟨rfl, rfl, rfl⟩
  show Go _ _ _ _ (T23.setTop (mkF m 15 _ [.int x1]))
  refine G.sN H23 (L' := #[.val (.ref p0), .val (.ref p1), .val (.int 1), .val (.int x1)]) D69_15 (J := 16) rfl rfl ?_
  refine G.iN H23 D69_16 (J := 17) rfl rfl ?_
  refine G.cS H23 (m14 V x1 h0 H23.old) (wq V 202 rfl) (wq V 203 rfl) (wd34 V) (wq V 204 rfl) [.int x1] [] 0 20 (lenOf (pd_9) rfl) D69_17 all0 (by decide) ?_
  rintro T27 h27_ _ _ H27 ⟨rfl, rfl, r31, rfl⟩
  show Go _ _ _ _ (T27.setTop (mkF m 20 _ [(.int (unrB x1))]))
  refine G.ifNo H27 D69_20 (J := 23) rfl (XT.i0_ne_f (own_or255 or5 c14)) ?_
  refine G.aN H27 D69_23 (J := 24) rfl rfl rfl ?_
  refine G.iN H27 D69_24 (J := 25) rfl rfl ?_
  refine G.cV H27 (m23 V p1 x1 p3 d1 h0 H27.old f6 f7) (wq V 205 rfl) (wq V 206 rfl) (nf_sel (wd208 V)) (wd208 V) (wq V 207 rfl) (wd11 V) (wq V 209 rfl) f6 [.int x1] [] 0 28 (lenOf (pd_6) rfl) D69_25 all0 (by decide) ?_
  rintro T32 h32_ _ _ H32 ⟨rfl, rfl, rfl⟩
  show Go _ _ _ _ (T32.setTop (mkF m 28 _ [(.int (-1 : Int32))]))
  refine G.ifNo H32 D69_28 (J := 31) rfl (by decide) ?_
  refine G.iC H32 D69_31 (J := 32) rfl (v := 0) rfl ?_
  exact G.retN H32 (t := .boolean) rfl (by decide) D69_32 (so := []) all0 (by decide) (by decide) ⟨rfl, rfl, rfl⟩
theorem m130 (V : Env1 Z a0 n0 uu0 uu1 uu2 uu3 uu4) (p0 : Addr) (d0 : ClassId) (x0 : Int32) (x1 : Int32) (h0 : Heap) (hO : Old Z n0 h0) (f0 : Arv Z h0 p0 d0 .byte 4 [(.int (x0.toInt8.toInt32)), (.int ((x0 >>> ((8 : Int32) &&& 31)).toInt8.toInt32)), (.int (x1.toInt8.toInt32)), (.int ((x1 >>> ((8 : Int32) &&& 31)).toInt8.toInt32))] (.int 0)) (r1 : ¬ x0 < 0 ∧ ¬ 65535 < x0) (r2 : ¬ x1 < 0 ∧ ¬ 65535 < x1) (ns3 : x1 < 55296 ∨ ¬ x1 < 57344) (ns4 : x0 < 55296 ∨ ¬ x0 < 57344) :
  Met Z a0 ELs True n0 l ⟨"java/lang/String", "encodeUTF8_UTF16", "([BZ)[B"⟩ Y1 9 (some (.array .byte)) ⟨2, 2, 30, 54⟩ #[.ref p0, .int 1] h0 [] (fun v h so => (∃ a : Addr, ∃ kc : ClassId, ∃ bs : List Int32, v = some (.ref a) ∧ so = [] ∧ Keep h0 h [] ∧ h0.size ≤ a ∧ Arv Z h a kc .byte (Int32.ofNat bs.length) (bs.map Value.int) (.int 0) ∧ bs.length ≤ 6 ∧ encBs bs = encS [x0, x1])) := by
 refine Met.of (EWl V) (by first | decide +kernel | rfl) hO (L0 := #[.val (.ref p0), .val (.int 1), .unset, .unset, .unset, .unset, .unset, .unset, .unset]) rfl ?_
 intro p e s m below meth c T H
 refine G.iC H D16_0 (J := 1) rfl (v := 0) rfl ?_
 refine G.sN H (L' := #[.val (.ref p0), .val (.int 1), .val (.int 0), .unset, .unset, .unset, .unset, .unset, .unset]) D16_1 (J := 2) rfl rfl ?_
 refine G.iC H D16_2 (J := 3) rfl (v := 0) rfl ?_
 refine G.sN H (L' := #[.val (.ref p0), .val (.int 1), .val (.int 0), .val (.int 0), .unset, .unset, .unset, .unset, .unset]) D16_3 (J := 4) rfl rfl ?_
 refine G.aN H D16_4 (J := 5) rfl rfl rfl ?_
 refine G.aR H f0 D16_5 (J := 6) rfl ?_
 refine G.iC H D16_6 (J := 7) rfl (v := 1) rfl ?_
 refine G.ishr H D16_7 (J := 8) rfl ?_
 show Go _ _ _ _ (T.setTop (mkF m 8 _ [.int 2]))
 refine G.sI H (L' := #[.val (.ref p0), .val (.int 1), .val (.int 0), .val (.int 0), .val (.int 2), .unset, .unset, .unset, .unset]) D16_8 (J := 10) rfl rfl ?_
 refine G.iL H D16_10 (J := 12) rfl rfl ?_
 refine G.iC H D16_12 (J := 13) rfl (v := 3) rfl ?_
 refine G.imul H D16_13 (J := 14) rfl ?_
 show Go _ _ _ _ (T.setTop (mkF m 14 _ [.int 6]))
 refine G.newP H (aty := .byte) (wd24 V) D16_14 (J := 16) rfl (by decide) (cap := 6) (by decide) (by decide) (by decide) (by decide) (vs := [.int 0, .int 0, .int 0, .int 0, .int 0, .int 0]) rfl (ad := "[B") rfl ?_
 intro T1 h1_ a2 k5 ga2 H1 E3 A4 X6
 have na2 := H.nle ga2
 replace A4 : Arv Z h1_ a2 k5 .byte 6 [.int 0, .int 0, .int 0, .int 0, .int 0, .int 0] (.int 0) := A4
 refine G.astore H1 (L' := #[.val (.ref p0), .val (.int 1), .val (.int 0), .val (.int 0), .val (.int 2), .val (.ref a2), .unset, .unset, .unset]) D16_16 (J := 18) rfl rfl rfl ?_
 refine G.iN H1 D16_18 (J := 19) rfl rfl ?_
 refine G.iL H1 D16_19 (J := 21) rfl rfl ?_
 refine G.cN H1 D16_21 (J := 24) rfl (by decide) ?_
 refine G.aN H1 D16_24 (J := 25) rfl rfl rfl ?_
 refine G.iN H1 D16_25 (J := 26) rfl rfl ?_
 have F7 := (Arv.ext f0 E3)
 refine G.cS H1 (m40 V p0 d0 x0 x1 h1_ H1.old F7 r1) (wq V 309 rfl) (wd291 V) (wd250 V) (wd292 V) [.ref p0, .int 0] [] 0 29 (lenOf (pd_23) rfl) D16_26 all0 (by decide) ?_
 rintro T8 h8_ _ _ H8 ⟨rfl, rfl, rfl⟩
 show Go _ _ _ _ (T8.setTop (mkF m 29 _ [.int x0]))
 refine G.sI H8 (L' := #[.val (.ref p0), .val (.int 1), .val (.int 0), .val (.int 0), .val (.int 2), .val (.ref a2), .val (.int x0), .unset, .unset]) D16_29 (J := 31) rfl rfl ?_
 refine G.iL H8 D16_31 (J := 33) rfl rfl ?_
 refine G.sP H8 D16_33 (J := 36) rfl (v := 128) rfl ?_
 by_cases c12 : x0 < 128
 ·
  refine G.cY H8 D16_36 (XT.ii_lt_t c12) (by decide) (J := 42) rfl ?_
  refine G.aL H8 D16_42 (J := 44) rfl rfl rfl ?_
  refine G.iN H8 D16_44 (J := 45) rfl rfl ?_
  refine G.iI H8 (v := 1) (L' := #[.val (.ref p0), .val (.int 1), .val (.int 1), .val (.int 0), .val (.int 2), .val (.ref a2), .val (.int x0), .unset, .unset]) D16_45 (J := 48) rfl rfl rfl rfl ?_
  refine G.iL H8 D16_48 (J := 50) rfl rfl ?_
  refine G.i2b H8 D16_50 (J := 51) rfl ?_
  refine G.stB H8 A4 (by decide) (i := 0) rfl lB na2 (Sf.mem (mG (i := 0) rfl)) (y := (x0.toInt8.toInt32)) (own_narB _) D16_51 (J := 52) rfl ?_
  intro T13 h13_ H13 W14 A15
  replace A15 : Arv Z h13_ a2 k5 .byte 6 [(.int (x0.toInt8.toInt32)), .int 0, .int 0, .int 0, .int 0, .int 0] (.int 0) := A15
  refine G.iI H13 (v := 1) (L' := #[.val (.ref p0), .val (.int 1), .val (.int 1), .val (.int 1), .val (.int 2), .val (.ref a2), .val (.int x0), .unset, .unset]) D16_52 (J := 55) rfl rfl rfl rfl ?_
  refine G.go H13 D16_55 (by decide) (J := 18) rfl ?_
  show Go _ _ _ _ (T13.setTop (mkF m 18 _ []))
  refine G.iN H13 D16_18 (J := 19) rfl rfl ?_
  refine G.iL H13 D16_19 (J := 21) rfl rfl ?_
  refine G.cN H13 D16_21 (J := 24) rfl (by decide) ?_
  refine G.aN H13 D16_24 (J := 25) rfl rfl rfl ?_
  refine G.iN H13 D16_25 (J := 26) rfl rfl ?_
  have N16 : p0 ≠ a2 := (Nat.ne_of_lt (Nat.lt_of_lt_of_le f0.lt (Nat.le_of_eq ga2.symm)))
  have F17 := (Arv.other F7 W14 N16)
  refine G.cS H13 (m41 V p0 d0 x0 x1 h13_ H13.old F17 r2) (wq V 309 rfl) (wd291 V) (wd250 V) (wd292 V) [.ref p0, .int 1] [] 0 29 (lenOf (pd_23) rfl) D16_26 all0 (by decide) ?_
  rintro T18 h18_ _ _ H18 ⟨rfl, rfl, rfl⟩
  show Go _ _ _ _ (T18.setTop (mkF m 29 _ [.int x1]))
  refine G.sI H18 (L' := #[.val (.ref p0), .val (.int 1), .val (.int 1), .val (.int 1), .val (.int 2), .val (.ref a2), .val (.int x1), .unset, .unset]) D16_29 (J := 31) rfl rfl ?_
  refine G.iL H18 D16_31 (J := 33) rfl rfl ?_
  refine G.sP H18 D16_33 (J := 36) rfl (v := 128) rfl ?_
  by_cases c22 : x1 < 128
  ·
   refine G.cY H18 D16_36 (XT.ii_lt_t c22) (by decide) (J := 42) rfl ?_
   refine G.aL H18 D16_42 (J := 44) rfl rfl rfl ?_
   refine G.iN H18 D16_44 (J := 45) rfl rfl ?_
   refine G.iI H18 (v := 2) (L' := #[.val (.ref p0), .val (.int 1), .val (.int 2), .val (.int 1), .val (.int 2), .val (.ref a2), .val (.int x1), .unset, .unset]) D16_45 (J := 48) rfl rfl rfl rfl ?_
   refine G.iL H18 D16_48 (J := 50) rfl rfl ?_
   refine G.i2b H18 D16_50 (J := 51) rfl ?_
   have F26 := (Exa.wr W14 X6)
   refine G.stB H18 A15 (by decide) (i := 1) rfl lB na2 (Sf.mem (mG (i := 0) rfl)) (y := (x1.toInt8.toInt32)) (own_narB _) D16_51 (J := 52) rfl ?_
   intro T23 h23_ H23 W24 A25
   replace A25 : Arv Z h23_ a2 k5 .byte 6 [(.int (x0.toInt8.toInt32)), (.int (x1.toInt8.toInt32)), .int 0, .int 0, .int 0, .int 0] (.int 0) := A25
   refine G.iI H23 (v := 2) (L' := #[.val (.ref p0), .val (.int 1), .val (.int 2), .val (.int 2), .val (.int 2), .val (.ref a2), .val (.int x1), .unset, .unset]) D16_52 (J := 55) rfl rfl rfl rfl ?_
   refine G.go H23 D16_55 (by decide) (J := 18) rfl ?_
   show Go _ _ _ _ (T23.setTop (mkF m 18 _ []))
   refine G.iN H23 D16_18 (J := 19) rfl rfl ?_
   refine G.iL H23 D16_19 (J := 21) rfl rfl ?_
   refine G.cY H23 D16_21 (by decide) (by decide) (J := 58) rfl ?_
   refine G.iN H23 D16_58 (J := 59) rfl rfl ?_
   refine G.iL H23 D16_59 (J := 61) rfl rfl ?_
   refine G.cY H23 D16_61 (by decide) (by decide) (J := 355) rfl ?_
   refine G.iN H23 D16_355 (J := 356) rfl rfl ?_
   refine G.aL H23 D16_356 (J := 358) rfl rfl rfl ?_
   refine G.aR H23 A25 D16_358 (J := 359) rfl ?_
   refine G.cY H23 D16_359 (by decide) (by decide) (J := 365) rfl ?_
   refine G.aL H23 D16_365 (J := 367) rfl rfl rfl ?_
   refine G.iN H23 D16_367 (J := 368) rfl rfl ?_
   refine G.cS H23 (m98 V a2 2 k5 6 ([(x0.toInt8.toInt32), (x1.toInt8.toInt32)] : List Int32) h23_ H23.old (by omega) (by omega) (by simp only [qa, qc, qn] <;> omega) (Arv.pad A25 (fun i => (pad_rep (([(x0.toInt8.toInt32), (x1.toInt8.toInt32)] : List Int32).map Value.int) (.int 0) 4 i).symm)) (by omega) (by omega) (by omega) (by simp only [qa, qc, qn] <;> omega)) (wd346 V) (wd328 V) (wd89 V) (wd329 V) [.ref a2, .int 2] [] 0 371 (lenOf (pd_7) rfl) D16_368 all0 (by decide) ?_
   rintro T27 h27_ _ _ H27 ⟨a31, k32, rfl, rfl, K33, g34, F35, F36⟩
   have na31 := Nat.le_trans H23.le g34
   show Go _ _ _ _ (T27.setTop (mkF m 371 _ [.ref a31]))
   have K37 : Keep h0 h27_ [] := (Keep.trans (Keep.wr (Keep.wr (Keep.ext (Keep.refl h0 []) E3) W14 (Or.inr (Nat.le_of_eq ga2.symm))) W24 (Or.inr (Nat.le_of_eq ga2.symm))) K33 all0)
   have K38 : Keep h0 h23_ [] := (Keep.wr (Keep.wr (Keep.ext (Keep.refl h0 []) E3) W14 (Or.inr (Nat.le_of_eq ga2.symm))) W24 (Or.inr (Nat.le_of_eq ga2.symm)))
   exact G.retA H27 (t := (.array .byte)) rfl rfl rfl D16_371 (so := []) all0 (by decide) (by decide) ⟨a31, k32, [(x0.toInt8.toInt32), (x1.toInt8.toInt32)], rfl, rfl, K37, (Nat.le_trans K38.1 g34), F35, lB, (by rw [own_e2, own_k4 r1 c12, own_k4 r2 c22]; simp only [encBs, List.flatMap_cons, List.flatMap_nil, List.append_nil, List.append_assoc])⟩
  ·
   refine G.cN H18 D16_36 (J := 39) rfl (XT.ii_lt_f c22) ?_
   refine G.go H18 D16_39 (by decide) (J := 58) rfl ?_
   refine G.iN H18 D16_58 (J := 59) rfl rfl ?_
   refine G.iL H18 D16_59 (J := 61) rfl rfl ?_
   refine G.cN H18 D16_61 (J := 64) rfl (by decide) ?_
   refine G.aN H18 D16_64 (J := 65) rfl rfl rfl ?_
   refine G.iN H18 D16_65 (J := 66) rfl rfl ?_
   refine G.iI H18 (v := 2) (L' := #[.val (.ref p0), .val (.int 1), .val (.int 1), .val (.int 2), .val (.int 2), .val (.ref a2), .val (.int x1), .unset, .unset]) D16_66 (J := 69) rfl rfl rfl rfl ?_
   refine G.cS H18 (m41 V p0 d0 x0 x1 h13_ H18.old F17 r2) (wq V 309 rfl) (wd291 V) (wd250 V) (wd292 V) [.ref p0, .int 1] [] 0 72 (lenOf (pd_23) rfl) D16_69 all0 (by decide) ?_
   rintro T39 h39_ _ _ H39 ⟨rfl, rfl, rfl⟩
   show Go _ _ _ _ (T39.setTop (mkF m 72 _ [.int x1]))
   refine G.sI H39 (L' := #[.val (.ref p0), .val (.int 1), .val (.int 1), .val (.int 2), .val (.int 2), .val (.ref a2), .val (.int x1), .unset, .unset]) D16_72 (J := 74) rfl rfl ?_
   refine G.iL H39 D16_74 (J := 76) rfl rfl ?_
   refine G.sP H39 D16_76 (J := 79) rfl (v := 128) rfl ?_
   refine G.cY H39 D16_79 (XT.ii_ge_t c22) (by decide) (J := 95) rfl ?_
   refine G.iL H39 D16_95 (J := 97) rfl rfl ?_
   refine G.sP H39 D16_97 (J := 100) rfl (v := 2048) rfl ?_
   by_cases c43 : x1 < 2048
   ·
    refine G.cN H39 D16_100 (J := 103) rfl (XT.ii_ge_f c43) ?_
    refine G.aL H39 D16_103 (J := 105) rfl rfl rfl ?_
    refine G.iN H39 D16_105 (J := 106) rfl rfl ?_
    refine G.iI H39 (v := 2) (L' := #[.val (.ref p0), .val (.int 1), .val (.int 2), .val (.int 2), .val (.int 2), .val (.ref a2), .val (.int x1), .unset, .unset]) D16_106 (J := 109) rfl rfl rfl rfl ?_
    refine G.sP H39 D16_109 (J := 112) rfl (v := 192) rfl ?_
    refine G.iL H39 D16_112 (J := 114) rfl rfl ?_
    refine G.bP H39 D16_114 (J := 116) rfl (v := 6) rfl ?_
    refine G.ishr H39 D16_116 (J := 117) rfl ?_
    refine G.ior H39 D16_117 (J := 118) rfl ?_
    refine G.i2b H39 D16_118 (J := 119) rfl ?_
    obtain ⟨u44, eu44⟩ : ∃ q, q = ((192 ||| (x1 >>> ((6 : Int32) &&& 31))) : Int32).toInt8.toInt32 := ⟨_, rfl⟩
    rw [← eu44]
    have F48 := (Exa.wr W14 X6)
    refine G.stB H39 A15 (by decide) (i := 1) rfl lB na2 (Sf.mem (mG (i := 0) rfl)) (y := u44) (own_narBg eu44) D16_119 (J := 120) rfl ?_
    intro T45 h45_ H45 W46 A47
    replace A47 : Arv Z h45_ a2 k5 .byte 6 [(.int (x0.toInt8.toInt32)), .int u44, .int 0, .int 0, .int 0, .int 0] (.int 0) := A47
    refine G.aL H45 D16_120 (J := 122) rfl rfl rfl ?_
    refine G.iN H45 D16_122 (J := 123) rfl rfl ?_
    refine G.iI H45 (v := 3) (L' := #[.val (.ref p0), .val (.int 1), .val (.int 3), .val (.int 2), .val (.int 2), .val (.ref a2), .val (.int x1), .unset, .unset]) D16_123 (J := 126) rfl rfl rfl rfl ?_
    refine G.sP H45 D16_126 (J := 129) rfl (v := 128) rfl ?_
    refine G.iL H45 D16_129 (J := 131) rfl rfl ?_
    refine G.bP H45 D16_131 (J := 133) rfl (v := 63) rfl ?_
    refine G.iand H45 D16_133 (J := 134) rfl ?_
    refine G.ior H45 D16_134 (J := 135) rfl ?_
    refine G.i2b H45 D16_135 (J := 136) rfl ?_
    obtain ⟨u49, eu49⟩ : ∃ q, q = ((128 ||| (x1 &&& 63)) : Int32).toInt8.toInt32 := ⟨_, rfl⟩
    rw [← eu49]
    have F53 := (Exa.wr W46 F48)
    refine G.stB H45 A47 (by decide) (i := 2) rfl lB na2 (Sf.mem (mG (i := 0) rfl)) (y := u49) (own_narBg eu49) D16_136 (J := 137) rfl ?_
    intro T50 h50_ H50 W51 A52
    replace A52 : Arv Z h50_ a2 k5 .byte 6 [(.int (x0.toInt8.toInt32)), .int u44, .int u49, .int 0, .int 0, .int 0] (.int 0) := A52
    refine G.go H50 D16_137 (by decide) (J := 352) rfl ?_
    refine G.go H50 D16_352 (by decide) (J := 58) rfl ?_
    show Go _ _ _ _ (T50.setTop (mkF m 58 _ []))
    refine G.iN H50 D16_58 (J := 59) rfl rfl ?_
    refine G.iL H50 D16_59 (J := 61) rfl rfl ?_
    refine G.cY H50 D16_61 (by decide) (by decide) (J := 355) rfl ?_
    refine G.iN H50 D16_355 (J := 356) rfl rfl ?_
    refine G.aL H50 D16_356 (J := 358) rfl rfl rfl ?_
    refine G.aR H50 A52 D16_358 (J := 359) rfl ?_
    refine G.cY H50 D16_359 (by decide) (by decide) (J := 365) rfl ?_
    refine G.aL H50 D16_365 (J := 367) rfl rfl rfl ?_
    refine G.iN H50 D16_367 (J := 368) rfl rfl ?_
    refine G.cS H50 (m98 V a2 3 k5 6 ([(x0.toInt8.toInt32), u44, u49] : List Int32) h50_ H50.old (by omega) (by omega) (by simp only [qa, qc, qn] <;> omega) (Arv.pad A52 (fun i => (pad_rep (([(x0.toInt8.toInt32), u44, u49] : List Int32).map Value.int) (.int 0) 3 i).symm)) (by omega) (by omega) (by omega) (by simp only [qa, qc, qn] <;> omega)) (wd346 V) (wd328 V) (wd89 V) (wd329 V) [.ref a2, .int 3] [] 0 371 (lenOf (pd_7) rfl) D16_368 all0 (by decide) ?_
    rintro T54 h54_ _ _ H54 ⟨a58, k59, rfl, rfl, K60, g61, F62, F63⟩
    have na58 := Nat.le_trans H50.le g61
    show Go _ _ _ _ (T54.setTop (mkF m 371 _ [.ref a58]))
    have K64 : Keep h0 h54_ [] := (Keep.trans (Keep.wr (Keep.wr (Keep.wr (Keep.ext (Keep.refl h0 []) E3) W14 (Or.inr (Nat.le_of_eq ga2.symm))) W46 (Or.inr (Nat.le_of_eq ga2.symm))) W51 (Or.inr (Nat.le_of_eq ga2.symm))) K60 all0)
    have K65 : Keep h0 h50_ [] := (Keep.wr (Keep.wr (Keep.wr (Keep.ext (Keep.refl h0 []) E3) W14 (Or.inr (Nat.le_of_eq ga2.symm))) W46 (Or.inr (Nat.le_of_eq ga2.symm))) W51 (Or.inr (Nat.le_of_eq ga2.symm)))
    exact G.retA H54 (t := (.array .byte)) rfl rfl rfl D16_371 (so := []) all0 (by decide) (by decide) ⟨a58, k59, [(x0.toInt8.toInt32), u44, u49], rfl, rfl, K64, (Nat.le_trans K65.1 g61), F62, lB, (by subst eu44; subst eu49; rw [own_e2, own_k4 r1 c12, own_k5 r2 c22 c43]; simp only [encBs, List.flatMap_cons, List.flatMap_nil, List.append_nil, List.append_assoc])⟩
   ·
    refine G.cY H39 D16_100 (XT.ii_ge_t c43) (by decide) (J := 140) rfl ?_
    refine G.iL H39 D16_140 (J := 142) rfl rfl ?_
    refine G.cS H39 (m99 V x1 h13_ H39.old ns3) (wq V 310 rfl) (wq V 311 rfl) (wq V 312 rfl) (wq V 313 rfl) [.int x1] [] 0 145 (lenOf (pd_2) rfl) D16_142 all0 (by decide) ?_
    rintro T66 h66_ _ _ H66 ⟨rfl, rfl, rfl⟩
    show Go _ _ _ _ (T66.setTop (mkF m 145 _ [.int 0]))
    refine G.ifYes H66 D16_145 (by decide) (by decide) (J := 298) rfl ?_
    refine G.aL H66 D16_298 (J := 300) rfl rfl rfl ?_
    refine G.iN H66 D16_300 (J := 301) rfl rfl ?_
    refine G.iI H66 (v := 2) (L' := #[.val (.ref p0), .val (.int 1), .val (.int 2), .val (.int 2), .val (.int 2), .val (.ref a2), .val (.int x1), .unset, .unset]) D16_301 (J := 304) rfl rfl rfl rfl ?_
    refine G.sP H66 D16_304 (J := 307) rfl (v := 224) rfl ?_
    refine G.iL H66 D16_307 (J := 309) rfl rfl ?_
    refine G.bP H66 D16_309 (J := 311) rfl (v := 12) rfl ?_
    refine G.ishr H66 D16_311 (J := 312) rfl ?_
    refine G.ior H66 D16_312 (J := 313) rfl ?_
    refine G.i2b H66 D16_313 (J := 314) rfl ?_
    obtain ⟨u70, eu70⟩ : ∃ q, q = ((224 ||| (x1 >>> ((12 : Int32) &&& 31))) : Int32).toInt8.toInt32 := ⟨_, rfl⟩
    rw [← eu70]
    have F74 := (Exa.wr W14 X6)
    refine G.stB H66 A15 (by decide) (i := 1) rfl lB na2 (Sf.mem (mG (i := 0) rfl)) (y := u70) (own_narBg eu70) D16_314 (J := 315) rfl ?_
    intro T71 h71_ H71 W72 A73
    replace A73 : Arv Z h71_ a2 k5 .byte 6 [(.int (x0.toInt8.toInt32)), .int u70, .int 0, .int 0, .int 0, .int 0] (.int 0) := A73
    refine G.aL H71 D16_315 (J := 317) rfl rfl rfl ?_
    refine G.iN H71 D16_317 (J := 318) rfl rfl ?_
    refine G.iI H71 (v := 3) (L' := #[.val (.ref p0), .val (.int 1), .val (.int 3), .val (.int 2), .val (.int 2), .val (.ref a2), .val (.int x1), .unset, .unset]) D16_318 (J := 321) rfl rfl rfl rfl ?_
    refine G.sP H71 D16_321 (J := 324) rfl (v := 128) rfl ?_
    refine G.iL H71 D16_324 (J := 326) rfl rfl ?_
    refine G.bP H71 D16_326 (J := 328) rfl (v := 6) rfl ?_
    refine G.ishr H71 D16_328 (J := 329) rfl ?_
    refine G.bP H71 D16_329 (J := 331) rfl (v := 63) rfl ?_
    refine G.iand H71 D16_331 (J := 332) rfl ?_
    refine G.ior H71 D16_332 (J := 333) rfl ?_
    refine G.i2b H71 D16_333 (J := 334) rfl ?_
    obtain ⟨u75, eu75⟩ : ∃ q, q = ((128 ||| ((x1 >>> ((6 : Int32) &&& 31)) &&& 63)) : Int32).toInt8.toInt32 := ⟨_, rfl⟩
    rw [← eu75]
    have F79 := (Exa.wr W72 F74)
    refine G.stB H71 A73 (by decide) (i := 2) rfl lB na2 (Sf.mem (mG (i := 0) rfl)) (y := u75) (own_narBg eu75) D16_334 (J := 335) rfl ?_
    intro T76 h76_ H76 W77 A78
    replace A78 : Arv Z h76_ a2 k5 .byte 6 [(.int (x0.toInt8.toInt32)), .int u70, .int u75, .int 0, .int 0, .int 0] (.int 0) := A78
    refine G.aL H76 D16_335 (J := 337) rfl rfl rfl ?_
    refine G.iN H76 D16_337 (J := 338) rfl rfl ?_
    refine G.iI H76 (v := 4) (L' := #[.val (.ref p0), .val (.int 1), .val (.int 4), .val (.int 2), .val (.int 2), .val (.ref a2), .val (.int x1), .unset, .unset]) D16_338 (J := 341) rfl rfl rfl rfl ?_
    refine G.sP H76 D16_341 (J := 344) rfl (v := 128) rfl ?_
    refine G.iL H76 D16_344 (J := 346) rfl rfl ?_
    refine G.bP H76 D16_346 (J := 348) rfl (v := 63) rfl ?_
    refine G.iand H76 D16_348 (J := 349) rfl ?_
    refine G.ior H76 D16_349 (J := 350) rfl ?_
    refine G.i2b H76 D16_350 (J := 351) rfl ?_
    obtain ⟨u80, eu80⟩ : ∃ q, q = ((128 ||| (x1 &&& 63)) : Int32).toInt8.toInt32 := ⟨_, rfl⟩
    rw [← eu80]
    have F84 := (Exa.wr W77 F79)
    refine G.stB H76 A78 (by decide) (i := 3) rfl lB na2 (Sf.mem (mG (i := 0) rfl)) (y := u80) (own_narBg eu80) D16_351 (J := 352) rfl ?_
    intro T81 h81_ H81 W82 A83
    replace A83 : Arv Z h81_ a2 k5 .byte 6 [(.int (x0.toInt8.toInt32)), .int u70, .int u75, .int u80, .int 0, .int 0] (.int 0) := A83
    refine G.go H81 D16_352 (by decide) (J := 58) rfl ?_
    show Go _ _ _ _ (T81.setTop (mkF m 58 _ []))
    refine G.iN H81 D16_58 (J := 59) rfl rfl ?_
    refine G.iL H81 D16_59 (J := 61) rfl rfl ?_
    refine G.cY H81 D16_61 (by decide) (by decide) (J := 355) rfl ?_
    refine G.iN H81 D16_355 (J := 356) rfl rfl ?_
    refine G.aL H81 D16_356 (J := 358) rfl rfl rfl ?_
    refine G.aR H81 A83 D16_358 (J := 359) rfl ?_
    refine G.cY H81 D16_359 (by decide) (by decide) (J := 365) rfl ?_
    refine G.aL H81 D16_365 (J := 367) rfl rfl rfl ?_
    refine G.iN H81 D16_367 (J := 368) rfl rfl ?_
    refine G.cS H81 (m98 V a2 4 k5 6 ([(x0.toInt8.toInt32), u70, u75, u80] : List Int32) h81_ H81.old (by omega) (by omega) (by simp only [qa, qc, qn] <;> omega) (Arv.pad A83 (fun i => (pad_rep (([(x0.toInt8.toInt32), u70, u75, u80] : List Int32).map Value.int) (.int 0) 2 i).symm)) (by omega) (by omega) (by omega) (by simp only [qa, qc, qn] <;> omega)) (wd346 V) (wd328 V) (wd89 V) (wd329 V) [.ref a2, .int 4] [] 0 371 (lenOf (pd_7) rfl) D16_368 all0 (by decide) ?_
    rintro T85 h85_ _ _ H85 ⟨a89, k90, rfl, rfl, K91, g92, F93, F94⟩
    have na89 := Nat.le_trans H81.le g92
    show Go _ _ _ _ (T85.setTop (mkF m 371 _ [.ref a89]))
    have K95 : Keep h0 h85_ [] := (Keep.trans (Keep.wr (Keep.wr (Keep.wr (Keep.wr (Keep.ext (Keep.refl h0 []) E3) W14 (Or.inr (Nat.le_of_eq ga2.symm))) W72 (Or.inr (Nat.le_of_eq ga2.symm))) W77 (Or.inr (Nat.le_of_eq ga2.symm))) W82 (Or.inr (Nat.le_of_eq ga2.symm))) K91 all0)
    have K96 : Keep h0 h81_ [] := (Keep.wr (Keep.wr (Keep.wr (Keep.wr (Keep.ext (Keep.refl h0 []) E3) W14 (Or.inr (Nat.le_of_eq ga2.symm))) W72 (Or.inr (Nat.le_of_eq ga2.symm))) W77 (Or.inr (Nat.le_of_eq ga2.symm))) W82 (Or.inr (Nat.le_of_eq ga2.symm)))
    exact G.retA H85 (t := (.array .byte)) rfl rfl rfl D16_371 (so := []) all0 (by decide) (by decide) ⟨a89, k90, [(x0.toInt8.toInt32), u70, u75, u80], rfl, rfl, K95, (Nat.le_trans K96.1 g92), F93, lB, (by subst eu70; subst eu75; subst eu80; rw [own_e2, own_k4 r1 c12, own_k6 r2 c22 c43]; simp only [encBs, List.flatMap_cons, List.flatMap_nil, List.append_nil, List.append_assoc])⟩
 ·
  refine G.cN H8 D16_36 (J := 39) rfl (XT.ii_lt_f c12) ?_
  refine G.go H8 D16_39 (by decide) (J := 58) rfl ?_
  refine G.iN H8 D16_58 (J := 59) rfl rfl ?_
  refine G.iL H8 D16_59 (J := 61) rfl rfl ?_
  refine G.cN H8 D16_61 (J := 64) rfl (by decide) ?_
  refine G.aN H8 D16_64 (J := 65) rfl rfl rfl ?_
  refine G.iN H8 D16_65 (J := 66) rfl rfl ?_
  refine G.iI H8 (v := 1) (L' := #[.val (.ref p0), .val (.int 1), .val (.int 0), .val (.int 1), .val (.int 2), .val (.ref a2), .val (.int x0), .unset, .unset]) D16_66 (J := 69) rfl rfl rfl rfl ?_
  refine G.cS H8 (m40 V p0 d0 x0 x1 h1_ H8.old F7 r1) (wq V 309 rfl) (wd291 V) (wd250 V) (wd292 V) [.ref p0, .int 0] [] 0 72 (lenOf (pd_23) rfl) D16_69 all0 (by decide) ?_
  rintro T97 h97_ _ _ H97 ⟨rfl, rfl, rfl⟩
  show Go _ _ _ _ (T97.setTop (mkF m 72 _ [.int x0]))
  refine G.sI H97 (L' := #[.val (.ref p0), .val (.int 1), .val (.int 0), .val (.int 1), .val (.int 2), .val (.ref a2), .val (.int x0), .unset, .unset]) D16_72 (J := 74) rfl rfl ?_
  refine G.iL H97 D16_74 (J := 76) rfl rfl ?_
  refine G.sP H97 D16_76 (J := 79) rfl (v := 128) rfl ?_
  refine G.cY H97 D16_79 (XT.ii_ge_t c12) (by decide) (J := 95) rfl ?_
  refine G.iL H97 D16_95 (J := 97) rfl rfl ?_
  refine G.sP H97 D16_97 (J := 100) rfl (v := 2048) rfl ?_
  by_cases c101 : x0 < 2048
  ·
   refine G.cN H97 D16_100 (J := 103) rfl (XT.ii_ge_f c101) ?_
   refine G.aL H97 D16_103 (J := 105) rfl rfl rfl ?_
   refine G.iN H97 D16_105 (J := 106) rfl rfl ?_
   refine G.iI H97 (v := 1) (L' := #[.val (.ref p0), .val (.int 1), .val (.int 1), .val (.int 1), .val (.int 2), .val (.ref a2), .val (.int x0), .unset, .unset]) D16_106 (J := 109) rfl rfl rfl rfl ?_
   refine G.sP H97 D16_109 (J := 112) rfl (v := 192) rfl ?_
   refine G.iL H97 D16_112 (J := 114) rfl rfl ?_
   refine G.bP H97 D16_114 (J := 116) rfl (v := 6) rfl ?_
   refine G.ishr H97 D16_116 (J := 117) rfl ?_
   refine G.ior H97 D16_117 (J := 118) rfl ?_
   refine G.i2b H97 D16_118 (J := 119) rfl ?_
   obtain ⟨u102, eu102⟩ : ∃ q, q = ((192 ||| (x0 >>> ((6 : Int32) &&& 31))) : Int32).toInt8.toInt32 := ⟨_, rfl⟩
   rw [← eu102]
   refine G.stB H97 A4 (by decide) (i := 0) rfl lB na2 (Sf.mem (mG (i := 0) rfl)) (y := u102) (own_narBg eu102) D16_119 (J := 120) rfl ?_
   intro T103 h103_ H103 W104 A105
   replace A105 : Arv Z h103_ a2 k5 .byte 6 [.int u102, .int 0, .int 0, .int 0, .int 0, .int 0] (.int 0) := A105
   refine G.aL H103 D16_120 (J := 122) rfl rfl rfl ?_
   refine G.iN H103 D16_122 (J := 123) rfl rfl ?_
   refine G.iI H103 (v := 2) (L' := #[.val (.ref p0), .val (.int 1), .val (.int 2), .val (.int 1), .val (.int 2), .val (.ref a2), .val (.int x0), .unset, .unset]) D16_123 (J := 126) rfl rfl rfl rfl ?_
   refine G.sP H103 D16_126 (J := 129) rfl (v := 128) rfl ?_
   refine G.iL H103 D16_129 (J := 131) rfl rfl ?_
   refine G.bP H103 D16_131 (J := 133) rfl (v := 63) rfl ?_
   refine G.iand H103 D16_133 (J := 134) rfl ?_
   refine G.ior H103 D16_134 (J := 135) rfl ?_
   refine G.i2b H103 D16_135 (J := 136) rfl ?_
   obtain ⟨u106, eu106⟩ : ∃ q, q = ((128 ||| (x0 &&& 63)) : Int32).toInt8.toInt32 := ⟨_, rfl⟩
   rw [← eu106]
   have F110 := (Exa.wr W104 X6)
   refine G.stB H103 A105 (by decide) (i := 1) rfl lB na2 (Sf.mem (mG (i := 0) rfl)) (y := u106) (own_narBg eu106) D16_136 (J := 137) rfl ?_
   intro T107 h107_ H107 W108 A109
   replace A109 : Arv Z h107_ a2 k5 .byte 6 [.int u102, .int u106, .int 0, .int 0, .int 0, .int 0] (.int 0) := A109
   refine G.go H107 D16_137 (by decide) (J := 352) rfl ?_
   refine G.go H107 D16_352 (by decide) (J := 58) rfl ?_
   show Go _ _ _ _ (T107.setTop (mkF m 58 _ []))
   refine G.iN H107 D16_58 (J := 59) rfl rfl ?_
   refine G.iL H107 D16_59 (J := 61) rfl rfl ?_
   refine G.cN H107 D16_61 (J := 64) rfl (by decide) ?_
   refine G.aN H107 D16_64 (J := 65) rfl rfl rfl ?_
   refine G.iN H107 D16_65 (J := 66) rfl rfl ?_
   refine G.iI H107 (v := 2) (L' := #[.val (.ref p0), .val (.int 1), .val (.int 2), .val (.int 2), .val (.int 2), .val (.ref a2), .val (.int x0), .unset, .unset]) D16_66 (J := 69) rfl rfl rfl rfl ?_
   have K111 : Keep h1_ h107_ [a2] := (Keep.wr (Keep.wr (Keep.refl h1_ [a2]) W104 (Or.inl (mG (i := 0) rfl))) W108 (Or.inl (mG (i := 0) rfl)))
   have N112 : p0 ≠ a2 := (Nat.ne_of_lt (Nat.lt_of_lt_of_le f0.lt (Nat.le_of_eq ga2.symm)))
   have F113 := (Arv.keep F7 K111 (ninS N112 nin0))
   refine G.cS H107 (m41 V p0 d0 x0 x1 h107_ H107.old F113 r2) (wq V 309 rfl) (wd291 V) (wd250 V) (wd292 V) [.ref p0, .int 1] [] 0 72 (lenOf (pd_23) rfl) D16_69 all0 (by decide) ?_
   rintro T114 h114_ _ _ H114 ⟨rfl, rfl, rfl⟩
   show Go _ _ _ _ (T114.setTop (mkF m 72 _ [.int x1]))
   refine G.sI H114 (L' := #[.val (.ref p0), .val (.int 1), .val (.int 2), .val (.int 2), .val (.int 2), .val (.ref a2), .val (.int x1), .unset, .unset]) D16_72 (J := 74) rfl rfl ?_
   refine G.iL H114 D16_74 (J := 76) rfl rfl ?_
   refine G.sP H114 D16_76 (J := 79) rfl (v := 128) rfl ?_
   by_cases c118 : x1 < 128
   ·
    refine G.cN H114 D16_79 (J := 82) rfl (XT.ii_ge_f c118) ?_
    refine G.aL H114 D16_82 (J := 84) rfl rfl rfl ?_
    refine G.iN H114 D16_84 (J := 85) rfl rfl ?_
    refine G.iI H114 (v := 3) (L' := #[.val (.ref p0), .val (.int 1), .val (.int 3), .val (.int 2), .val (.int 2), .val (.ref a2), .val (.int x1), .unset, .unset]) D16_85 (J := 88) rfl rfl rfl rfl ?_
    refine G.iL H114 D16_88 (J := 90) rfl rfl ?_
    refine G.i2b H114 D16_90 (J := 91) rfl ?_
    have F122 := (Exa.wr W108 F110)
    refine G.stB H114 A109 (by decide) (i := 2) rfl lB na2 (Sf.mem (mG (i := 0) rfl)) (y := (x1.toInt8.toInt32)) (own_narB _) D16_91 (J := 92) rfl ?_
    intro T119 h119_ H119 W120 A121
    replace A121 : Arv Z h119_ a2 k5 .byte 6 [.int u102, .int u106, (.int (x1.toInt8.toInt32)), .int 0, .int 0, .int 0] (.int 0) := A121
    refine G.go H119 D16_92 (by decide) (J := 352) rfl ?_
    refine G.go H119 D16_352 (by decide) (J := 58) rfl ?_
    show Go _ _ _ _ (T119.setTop (mkF m 58 _ []))
    refine G.iN H119 D16_58 (J := 59) rfl rfl ?_
    refine G.iL H119 D16_59 (J := 61) rfl rfl ?_
    refine G.cY H119 D16_61 (by decide) (by decide) (J := 355) rfl ?_
    refine G.iN H119 D16_355 (J := 356) rfl rfl ?_
    refine G.aL H119 D16_356 (J := 358) rfl rfl rfl ?_
    refine G.aR H119 A121 D16_358 (J := 359) rfl ?_
    refine G.cY H119 D16_359 (by decide) (by decide) (J := 365) rfl ?_
    refine G.aL H119 D16_365 (J := 367) rfl rfl rfl ?_
    refine G.iN H119 D16_367 (J := 368) rfl rfl ?_
    refine G.cS H119 (m98 V a2 3 k5 6 ([u102, u106, (x1.toInt8.toInt32)] : List Int32) h119_ H119.old (by omega) (by omega) (by simp only [qa, qc, qn] <;> omega) (Arv.pad A121 (fun i => (pad_rep (([u102, u106, (x1.toInt8.toInt32)] : List Int32).map Value.int) (.int 0) 3 i).symm)) (by omega) (by omega) (by omega) (by simp only [qa, qc, qn] <;> omega)) (wd346 V) (wd328 V) (wd89 V) (wd329 V) [.ref a2, .int 3] [] 0 371 (lenOf (pd_7) rfl) D16_368 all0 (by decide) ?_
    rintro T123 h123_ _ _ H123 ⟨a127, k128, rfl, rfl, K129, g130, F131, F132⟩
    have na127 := Nat.le_trans H119.le g130
    show Go _ _ _ _ (T123.setTop (mkF m 371 _ [.ref a127]))
    have K133 : Keep h0 h123_ [] := (Keep.trans (Keep.wr (Keep.wr (Keep.wr (Keep.ext (Keep.refl h0 []) E3) W104 (Or.inr (Nat.le_of_eq ga2.symm))) W108 (Or.inr (Nat.le_of_eq ga2.symm))) W120 (Or.inr (Nat.le_of_eq ga2.symm))) K129 all0)
    have K134 : Keep h0 h119_ [] := (Keep.wr (Keep.wr (Keep.wr (Keep.ext (Keep.refl h0 []) E3) W104 (Or.inr (Nat.le_of_eq ga2.symm))) W108 (Or.inr (Nat.le_of_eq ga2.symm))) W120 (Or.inr (Nat.le_of_eq ga2.symm)))
    exact G.retA H123 (t := (.array .byte)) rfl rfl rfl D16_371 (so := []) all0 (by decide) (by decide) ⟨a127, k128, [u102, u106, (x1.toInt8.toInt32)], rfl, rfl, K133, (Nat.le_trans K134.1 g130), F131, lB, (by subst eu102; subst eu106; rw [own_e2, own_k5 r1 c12 c101, own_k4 r2 c118]; simp only [encBs, List.flatMap_cons, List.flatMap_nil, List.append_nil, List.append_assoc])⟩
   ·
    refine G.cY H114 D16_79 (XT.ii_ge_t c118) (by decide) (J := 95) rfl ?_
    refine G.iL H114 D16_95 (J := 97) rfl rfl ?_
    refine G.sP H114 D16_97 (J := 100) rfl (v := 2048) rfl ?_
    by_cases c135 : x1 < 2048
    ·
     refine G.cN H114 D16_100 (J := 103) rfl (XT.ii_ge_f c135) ?_
     refine G.aL H114 D16_103 (J := 105) rfl rfl rfl ?_
     refine G.iN H114 D16_105 (J := 106) rfl rfl ?_
     refine G.iI H114 (v := 3) (L' := #[.val (.ref p0), .val (.int 1), .val (.int 3), .val (.int 2), .val (.int 2), .val (.ref a2), .val (.int x1), .unset, .unset]) D16_106 (J := 109) rfl rfl rfl rfl ?_
     refine G.sP H114 D16_109 (J := 112) rfl (v := 192) rfl ?_
     refine G.iL H114 D16_112 (J := 114) rfl rfl ?_
     refine G.bP H114 D16_114 (J := 116) rfl (v := 6) rfl ?_
     refine G.ishr H114 D16_116 (J := 117) rfl ?_
     refine G.ior H114 D16_117 (J := 118) rfl ?_
     refine G.i2b H114 D16_118 (J := 119) rfl ?_
     obtain ⟨u136, eu136⟩ : ∃ q, q = ((192 ||| (x1 >>> ((6 : Int32) &&& 31))) : Int32).toInt8.toInt32 := ⟨_, rfl⟩
     rw [← eu136]
     have F140 := (Exa.wr W108 F110)
     refine G.stB H114 A109 (by decide) (i := 2) rfl lB na2 (Sf.mem (mG (i := 0) rfl)) (y := u136) (own_narBg eu136) D16_119 (J := 120) rfl ?_
     intro T137 h137_ H137 W138 A139
     replace A139 : Arv Z h137_ a2 k5 .byte 6 [.int u102, .int u106, .int u136, .int 0, .int 0, .int 0] (.int 0) := A139
     refine G.aL H137 D16_120 (J := 122) rfl rfl rfl ?_
     refine G.iN H137 D16_122 (J := 123) rfl rfl ?_
     refine G.iI H137 (v := 4) (L' := #[.val (.ref p0), .val (.int 1), .val (.int 4), .val (.int 2), .val (.int 2), .val (.ref a2), .val (.int x1), .unset, .unset]) D16_123 (J := 126) rfl rfl rfl rfl ?_
     refine G.sP H137 D16_126 (J := 129) rfl (v := 128) rfl ?_
     refine G.iL H137 D16_129 (J := 131) rfl rfl ?_
     refine G.bP H137 D16_131 (J := 133) rfl (v := 63) rfl ?_
     refine G.iand H137 D16_133 (J := 134) rfl ?_
     refine G.ior H137 D16_134 (J := 135) rfl ?_
     refine G.i2b H137 D16_135 (J := 136) rfl ?_
     obtain ⟨u141, eu141⟩ : ∃ q, q = ((128 ||| (x1 &&& 63)) : Int32).toInt8.toInt32 := ⟨_, rfl⟩
     rw [← eu141]
     have F145 := (Exa.wr W138 F140)
     refine G.stB H137 A139 (by decide) (i := 3) rfl lB na2 (Sf.mem (mG (i := 0) rfl)) (y := u141) (own_narBg eu141) D16_136 (J := 137) rfl ?_
     intro T142 h142_ H142 W143 A144
     replace A144 : Arv Z h142_ a2 k5 .byte 6 [.int u102, .int u106, .int u136, .int u141, .int 0, .int 0] (.int 0) := A144
     refine G.go H142 D16_137 (by decide) (J := 352) rfl ?_
     refine G.go H142 D16_352 (by decide) (J := 58) rfl ?_
     show Go _ _ _ _ (T142.setTop (mkF m 58 _ []))
     refine G.iN H142 D16_58 (J := 59) rfl rfl ?_
     refine G.iL H142 D16_59 (J := 61) rfl rfl ?_
     refine G.cY H142 D16_61 (by decide) (by decide) (J := 355) rfl ?_
     refine G.iN H142 D16_355 (J := 356) rfl rfl ?_
     refine G.aL H142 D16_356 (J := 358) rfl rfl rfl ?_
     refine G.aR H142 A144 D16_358 (J := 359) rfl ?_
     refine G.cY H142 D16_359 (by decide) (by decide) (J := 365) rfl ?_
     refine G.aL H142 D16_365 (J := 367) rfl rfl rfl ?_
     refine G.iN H142 D16_367 (J := 368) rfl rfl ?_
     refine G.cS H142 (m98 V a2 4 k5 6 ([u102, u106, u136, u141] : List Int32) h142_ H142.old (by omega) (by omega) (by simp only [qa, qc, qn] <;> omega) (Arv.pad A144 (fun i => (pad_rep (([u102, u106, u136, u141] : List Int32).map Value.int) (.int 0) 2 i).symm)) (by omega) (by omega) (by omega) (by simp only [qa, qc, qn] <;> omega)) (wd346 V) (wd328 V) (wd89 V) (wd329 V) [.ref a2, .int 4] [] 0 371 (lenOf (pd_7) rfl) D16_368 all0 (by decide) ?_
     rintro T146 h146_ _ _ H146 ⟨a150, k151, rfl, rfl, K152, g153, F154, F155⟩
     have na150 := Nat.le_trans H142.le g153
     show Go _ _ _ _ (T146.setTop (mkF m 371 _ [.ref a150]))
     have K156 : Keep h0 h146_ [] := (Keep.trans (Keep.wr (Keep.wr (Keep.wr (Keep.wr (Keep.ext (Keep.refl h0 []) E3) W104 (Or.inr (Nat.le_of_eq ga2.symm))) W108 (Or.inr (Nat.le_of_eq ga2.symm))) W138 (Or.inr (Nat.le_of_eq ga2.symm))) W143 (Or.inr (Nat.le_of_eq ga2.symm))) K152 all0)
     have K157 : Keep h0 h142_ [] := (Keep.wr (Keep.wr (Keep.wr (Keep.wr (Keep.ext (Keep.refl h0 []) E3) W104 (Or.inr (Nat.le_of_eq ga2.symm))) W108 (Or.inr (Nat.le_of_eq ga2.symm))) W138 (Or.inr (Nat.le_of_eq ga2.symm))) W143 (Or.inr (Nat.le_of_eq ga2.symm)))
     exact G.retA H146 (t := (.array .byte)) rfl rfl rfl D16_371 (so := []) all0 (by decide) (by decide) ⟨a150, k151, [u102, u106, u136, u141], rfl, rfl, K156, (Nat.le_trans K157.1 g153), F154, lB, (by subst eu102; subst eu106; subst eu136; subst eu141; rw [own_e2, own_k5 r1 c12 c101, own_k5 r2 c118 c135]; simp only [encBs, List.flatMap_cons, List.flatMap_nil, List.append_nil, List.append_assoc])⟩
    ·
     refine G.cY H114 D16_100 (XT.ii_ge_t c135) (by decide) (J := 140) rfl ?_
     refine G.iL H114 D16_140 (J := 142) rfl rfl ?_
     refine G.cS H114 (m99 V x1 h107_ H114.old ns3) (wq V 310 rfl) (wq V 311 rfl) (wq V 312 rfl) (wq V 313 rfl) [.int x1] [] 0 145 (lenOf (pd_2) rfl) D16_142 all0 (by decide) ?_
     rintro T158 h158_ _ _ H158 ⟨rfl, rfl, rfl⟩
     show Go _ _ _ _ (T158.setTop (mkF m 145 _ [.int 0]))
     refine G.ifYes H158 D16_145 (by decide) (by decide) (J := 298) rfl ?_
     refine G.aL H158 D16_298 (J := 300) rfl rfl rfl ?_
     refine G.iN H158 D16_300 (J := 301) rfl rfl ?_
     refine G.iI H158 (v := 3) (L' := #[.val (.ref p0), .val (.int 1), .val (.int 3), .val (.int 2), .val (.int 2), .val (.ref a2), .val (.int x1), .unset, .unset]) D16_301 (J := 304) rfl rfl rfl rfl ?_
     refine G.sP H158 D16_304 (J := 307) rfl (v := 224) rfl ?_
     refine G.iL H158 D16_307 (J := 309) rfl rfl ?_
     refine G.bP H158 D16_309 (J := 311) rfl (v := 12) rfl ?_
     refine G.ishr H158 D16_311 (J := 312) rfl ?_
     refine G.ior H158 D16_312 (J := 313) rfl ?_
     refine G.i2b H158 D16_313 (J := 314) rfl ?_
     obtain ⟨u162, eu162⟩ : ∃ q, q = ((224 ||| (x1 >>> ((12 : Int32) &&& 31))) : Int32).toInt8.toInt32 := ⟨_, rfl⟩
     rw [← eu162]
     have F166 := (Exa.wr W108 F110)
     refine G.stB H158 A109 (by decide) (i := 2) rfl lB na2 (Sf.mem (mG (i := 0) rfl)) (y := u162) (own_narBg eu162) D16_314 (J := 315) rfl ?_
     intro T163 h163_ H163 W164 A165
     replace A165 : Arv Z h163_ a2 k5 .byte 6 [.int u102, .int u106, .int u162, .int 0, .int 0, .int 0] (.int 0) := A165
     refine G.aL H163 D16_315 (J := 317) rfl rfl rfl ?_
     refine G.iN H163 D16_317 (J := 318) rfl rfl ?_
     refine G.iI H163 (v := 4) (L' := #[.val (.ref p0), .val (.int 1), .val (.int 4), .val (.int 2), .val (.int 2), .val (.ref a2), .val (.int x1), .unset, .unset]) D16_318 (J := 321) rfl rfl rfl rfl ?_
     refine G.sP H163 D16_321 (J := 324) rfl (v := 128) rfl ?_
     refine G.iL H163 D16_324 (J := 326) rfl rfl ?_
     refine G.bP H163 D16_326 (J := 328) rfl (v := 6) rfl ?_
     refine G.ishr H163 D16_328 (J := 329) rfl ?_
     refine G.bP H163 D16_329 (J := 331) rfl (v := 63) rfl ?_
     refine G.iand H163 D16_331 (J := 332) rfl ?_
     refine G.ior H163 D16_332 (J := 333) rfl ?_
     refine G.i2b H163 D16_333 (J := 334) rfl ?_
     obtain ⟨u167, eu167⟩ : ∃ q, q = ((128 ||| ((x1 >>> ((6 : Int32) &&& 31)) &&& 63)) : Int32).toInt8.toInt32 := ⟨_, rfl⟩
     rw [← eu167]
     have F171 := (Exa.wr W164 F166)
     refine G.stB H163 A165 (by decide) (i := 3) rfl lB na2 (Sf.mem (mG (i := 0) rfl)) (y := u167) (own_narBg eu167) D16_334 (J := 335) rfl ?_
     intro T168 h168_ H168 W169 A170
     replace A170 : Arv Z h168_ a2 k5 .byte 6 [.int u102, .int u106, .int u162, .int u167, .int 0, .int 0] (.int 0) := A170
     refine G.aL H168 D16_335 (J := 337) rfl rfl rfl ?_
     refine G.iN H168 D16_337 (J := 338) rfl rfl ?_
     refine G.iI H168 (v := 5) (L' := #[.val (.ref p0), .val (.int 1), .val (.int 5), .val (.int 2), .val (.int 2), .val (.ref a2), .val (.int x1), .unset, .unset]) D16_338 (J := 341) rfl rfl rfl rfl ?_
     refine G.sP H168 D16_341 (J := 344) rfl (v := 128) rfl ?_
     refine G.iL H168 D16_344 (J := 346) rfl rfl ?_
     refine G.bP H168 D16_346 (J := 348) rfl (v := 63) rfl ?_
     refine G.iand H168 D16_348 (J := 349) rfl ?_
     refine G.ior H168 D16_349 (J := 350) rfl ?_
     refine G.i2b H168 D16_350 (J := 351) rfl ?_
     obtain ⟨u172, eu172⟩ : ∃ q, q = ((128 ||| (x1 &&& 63)) : Int32).toInt8.toInt32 := ⟨_, rfl⟩
     rw [← eu172]
     have F176 := (Exa.wr W169 F171)
     refine G.stB H168 A170 (by decide) (i := 4) rfl lB na2 (Sf.mem (mG (i := 0) rfl)) (y := u172) (own_narBg eu172) D16_351 (J := 352) rfl ?_
     intro T173 h173_ H173 W174 A175
     replace A175 : Arv Z h173_ a2 k5 .byte 6 [.int u102, .int u106, .int u162, .int u167, .int u172, .int 0] (.int 0) := A175
     refine G.go H173 D16_352 (by decide) (J := 58) rfl ?_
     show Go _ _ _ _ (T173.setTop (mkF m 58 _ []))
     refine G.iN H173 D16_58 (J := 59) rfl rfl ?_
     refine G.iL H173 D16_59 (J := 61) rfl rfl ?_
     refine G.cY H173 D16_61 (by decide) (by decide) (J := 355) rfl ?_
     refine G.iN H173 D16_355 (J := 356) rfl rfl ?_
     refine G.aL H173 D16_356 (J := 358) rfl rfl rfl ?_
     refine G.aR H173 A175 D16_358 (J := 359) rfl ?_
     refine G.cY H173 D16_359 (by decide) (by decide) (J := 365) rfl ?_
     refine G.aL H173 D16_365 (J := 367) rfl rfl rfl ?_
     refine G.iN H173 D16_367 (J := 368) rfl rfl ?_
     refine G.cS H173 (m98 V a2 5 k5 6 ([u102, u106, u162, u167, u172] : List Int32) h173_ H173.old (by omega) (by omega) (by simp only [qa, qc, qn] <;> omega) (Arv.pad A175 (fun i => (pad_rep (([u102, u106, u162, u167, u172] : List Int32).map Value.int) (.int 0) 1 i).symm)) (by omega) (by omega) (by omega) (by simp only [qa, qc, qn] <;> omega)) (wd346 V) (wd328 V) (wd89 V) (wd329 V) [.ref a2, .int 5] [] 0 371 (lenOf (pd_7) rfl) D16_368 all0 (by decide) ?_
     rintro T177 h177_ _ _ H177 ⟨a181, k182, rfl, rfl, K183, g184, F185, F186⟩
     have na181 := Nat.le_trans H173.le g184
     show Go _ _ _ _ (T177.setTop (mkF m 371 _ [.ref a181]))
     have K187 : Keep h0 h177_ [] := (Keep.trans (Keep.wr (Keep.wr (Keep.wr (Keep.wr (Keep.wr (Keep.ext (Keep.refl h0 []) E3) W104 (Or.inr (Nat.le_of_eq ga2.symm))) W108 (Or.inr (Nat.le_of_eq ga2.symm))) W164 (Or.inr (Nat.le_of_eq ga2.symm))) W169 (Or.inr (Nat.le_of_eq ga2.symm))) W174 (Or.inr (Nat.le_of_eq ga2.symm))) K183 all0)
     have K188 : Keep h0 h173_ [] := (Keep.wr (Keep.wr (Keep.wr (Keep.wr (Keep.wr (Keep.ext (Keep.refl h0 []) E3) W104 (Or.inr (Nat.le_of_eq ga2.symm))) W108 (Or.inr (Nat.le_of_eq ga2.symm))) W164 (Or.inr (Nat.le_of_eq ga2.symm))) W169 (Or.inr (Nat.le_of_eq ga2.symm))) W174 (Or.inr (Nat.le_of_eq ga2.symm)))
     exact G.retA H177 (t := (.array .byte)) rfl rfl rfl D16_371 (so := []) all0 (by decide) (by decide) ⟨a181, k182, [u102, u106, u162, u167, u172], rfl, rfl, K187, (Nat.le_trans K188.1 g184), F185, lB, (by subst eu102; subst eu106; subst eu162; subst eu167; subst eu172; rw [own_e2, own_k5 r1 c12 c101, own_k6 r2 c118 c135]; simp only [encBs, List.flatMap_cons, List.flatMap_nil, List.append_nil, List.append_assoc])⟩
  ·
   refine G.cY H97 D16_100 (XT.ii_ge_t c101) (by decide) (J := 140) rfl ?_
   refine G.iL H97 D16_140 (J := 142) rfl rfl ?_
   refine G.cS H97 (m99 V x0 h1_ H97.old ns4) (wq V 310 rfl) (wq V 311 rfl) (wq V 312 rfl) (wq V 313 rfl) [.int x0] [] 0 145 (lenOf (pd_2) rfl) D16_142 all0 (by decide) ?_
   rintro T189 h189_ _ _ H189 ⟨rfl, rfl, rfl⟩
   show Go _ _ _ _ (T189.setTop (mkF m 145 _ [.int 0]))
   refine G.ifYes H189 D16_145 (by decide) (by decide) (J := 298) rfl ?_
   refine G.aL H189 D16_298 (J := 300) rfl rfl rfl ?_
   refine G.iN H189 D16_300 (J := 301) rfl rfl ?_
   refine G.iI H189 (v := 1) (L' := #[.val (.ref p0), .val (.int 1), .val (.int 1), .val (.int 1), .val (.int 2), .val (.ref a2), .val (.int x0), .unset, .unset]) D16_301 (J := 304) rfl rfl rfl rfl ?_
   refine G.sP H189 D16_304 (J := 307) rfl (v := 224) rfl ?_
   refine G.iL H189 D16_307 (J := 309) rfl rfl ?_
   refine G.bP H189 D16_309 (J := 311) rfl (v := 12) rfl ?_
   refine G.ishr H189 D16_311 (J := 312) rfl ?_
   refine G.ior H189 D16_312 (J := 313) rfl ?_
   refine G.i2b H189 D16_313 (J := 314) rfl ?_
   obtain ⟨u193, eu193⟩ : ∃ q, q = ((224 ||| (x0 >>> ((12 : Int32) &&& 31))) : Int32).toInt8.toInt32 := ⟨_, rfl⟩
   rw [← eu193]
   refine G.stB H189 A4 (by decide) (i := 0) rfl lB na2 (Sf.mem (mG (i := 0) rfl)) (y := u193) (own_narBg eu193) D16_314 (J := 315) rfl ?_
   intro T194 h194_ H194 W195 A196
   replace A196 : Arv Z h194_ a2 k5 .byte 6 [.int u193, .int 0, .int 0, .int 0, .int 0, .int 0] (.int 0) := A196
   refine G.aL H194 D16_315 (J := 317) rfl rfl rfl ?_
   refine G.iN H194 D16_317 (J := 318) rfl rfl ?_
   refine G.iI H194 (v := 2) (L' := #[.val (.ref p0), .val (.int 1), .val (.int 2), .val (.int 1), .val (.int 2), .val (.ref a2), .val (.int x0), .unset, .unset]) D16_318 (J := 321) rfl rfl rfl rfl ?_
   refine G.sP H194 D16_321 (J := 324) rfl (v := 128) rfl ?_
   refine G.iL H194 D16_324 (J := 326) rfl rfl ?_
   refine G.bP H194 D16_326 (J := 328) rfl (v := 6) rfl ?_
   refine G.ishr H194 D16_328 (J := 329) rfl ?_
   refine G.bP H194 D16_329 (J := 331) rfl (v := 63) rfl ?_
   refine G.iand H194 D16_331 (J := 332) rfl ?_
   refine G.ior H194 D16_332 (J := 333) rfl ?_
   refine G.i2b H194 D16_333 (J := 334) rfl ?_
   obtain ⟨u197, eu197⟩ : ∃ q, q = ((128 ||| ((x0 >>> ((6 : Int32) &&& 31)) &&& 63)) : Int32).toInt8.toInt32 := ⟨_, rfl⟩
   rw [← eu197]
   have F201 := (Exa.wr W195 X6)
   refine G.stB H194 A196 (by decide) (i := 1) rfl lB na2 (Sf.mem (mG (i := 0) rfl)) (y := u197) (own_narBg eu197) D16_334 (J := 335) rfl ?_
   intro T198 h198_ H198 W199 A200
   replace A200 : Arv Z h198_ a2 k5 .byte 6 [.int u193, .int u197, .int 0, .int 0, .int 0, .int 0] (.int 0) := A200
   refine G.aL H198 D16_335 (J := 337) rfl rfl rfl ?_
   refine G.iN H198 D16_337 (J := 338) rfl rfl ?_
   refine G.iI H198 (v := 3) (L' := #[.val (.ref p0), .val (.int 1), .val (.int 3), .val (.int 1), .val (.int 2), .val (.ref a2), .val (.int x0), .unset, .unset]) D16_338 (J := 341) rfl rfl rfl rfl ?_
   refine G.sP H198 D16_341 (J := 344) rfl (v := 128) rfl ?_
   refine G.iL H198 D16_344 (J := 346) rfl rfl ?_
   refine G.bP H198 D16_346 (J := 348) rfl (v := 63) rfl ?_
   refine G.iand H198 D16_348 (J := 349) rfl ?_
   refine G.ior H198 D16_349 (J := 350) rfl ?_
   refine G.i2b H198 D16_350 (J := 351) rfl ?_
   obtain ⟨u202, eu202⟩ : ∃ q, q = ((128 ||| (x0 &&& 63)) : Int32).toInt8.toInt32 := ⟨_, rfl⟩
   rw [← eu202]
   have F206 := (Exa.wr W199 F201)
   refine G.stB H198 A200 (by decide) (i := 2) rfl lB na2 (Sf.mem (mG (i := 0) rfl)) (y := u202) (own_narBg eu202) D16_351 (J := 352) rfl ?_
   intro T203 h203_ H203 W204 A205
   replace A205 : Arv Z h203_ a2 k5 .byte 6 [.int u193, .int u197, .int u202, .int 0, .int 0, .int 0] (.int 0) := A205
   refine G.go H203 D16_352 (by decide) (J := 58) rfl ?_
   show Go _ _ _ _ (T203.setTop (mkF m 58 _ []))
   refine G.iN H203 D16_58 (J := 59) rfl rfl ?_
   refine G.iL H203 D16_59 (J := 61) rfl rfl ?_
   refine G.cN H203 D16_61 (J := 64) rfl (by decide) ?_
   refine G.aN H203 D16_64 (J := 65) rfl rfl rfl ?_
   refine G.iN H203 D16_65 (J := 66) rfl rfl ?_
   refine G.iI H203 (v := 2) (L' := #[.val (.ref p0), .val (.int 1), .val (.int 3), .val (.int 2), .val (.int 2), .val (.ref a2), .val (.int x0), .unset, .unset]) D16_66 (J := 69) rfl rfl rfl rfl ?_
   have K207 : Keep h1_ h203_ [a2] := (Keep.wr (Keep.wr (Keep.wr (Keep.refl h1_ [a2]) W195 (Or.inl (mG (i := 0) rfl))) W199 (Or.inl (mG (i := 0) rfl))) W204 (Or.inl (mG (i := 0) rfl)))
   have N208 : p0 ≠ a2 := (Nat.ne_of_lt (Nat.lt_of_lt_of_le f0.lt (Nat.le_of_eq ga2.symm)))
   have F209 := (Arv.keep F7 K207 (ninS N208 nin0))
   refine G.cS H203 (m41 V p0 d0 x0 x1 h203_ H203.old F209 r2) (wq V 309 rfl) (wd291 V) (wd250 V) (wd292 V) [.ref p0, .int 1] [] 0 72 (lenOf (pd_23) rfl) D16_69 all0 (by decide) ?_
   rintro T210 h210_ _ _ H210 ⟨rfl, rfl, rfl⟩
   show Go _ _ _ _ (T210.setTop (mkF m 72 _ [.int x1]))
   refine G.sI H210 (L' := #[.val (.ref p0), .val (.int 1), .val (.int 3), .val (.int 2), .val (.int 2), .val (.ref a2), .val (.int x1), .unset, .unset]) D16_72 (J := 74) rfl rfl ?_
   refine G.iL H210 D16_74 (J := 76) rfl rfl ?_
   refine G.sP H210 D16_76 (J := 79) rfl (v := 128) rfl ?_
   by_cases c214 : x1 < 128
   ·
    refine G.cN H210 D16_79 (J := 82) rfl (XT.ii_ge_f c214) ?_
    refine G.aL H210 D16_82 (J := 84) rfl rfl rfl ?_
    refine G.iN H210 D16_84 (J := 85) rfl rfl ?_
    refine G.iI H210 (v := 4) (L' := #[.val (.ref p0), .val (.int 1), .val (.int 4), .val (.int 2), .val (.int 2), .val (.ref a2), .val (.int x1), .unset, .unset]) D16_85 (J := 88) rfl rfl rfl rfl ?_
    refine G.iL H210 D16_88 (J := 90) rfl rfl ?_
    refine G.i2b H210 D16_90 (J := 91) rfl ?_
    have F218 := (Exa.wr W204 F206)
    refine G.stB H210 A205 (by decide) (i := 3) rfl lB na2 (Sf.mem (mG (i := 0) rfl)) (y := (x1.toInt8.toInt32)) (own_narB _) D16_91 (J := 92) rfl ?_
    intro T215 h215_ H215 W216 A217
    replace A217 : Arv Z h215_ a2 k5 .byte 6 [.int u193, .int u197, .int u202, (.int (x1.toInt8.toInt32)), .int 0, .int 0] (.int 0) := A217
    refine G.go H215 D16_92 (by decide) (J := 352) rfl ?_
    refine G.go H215 D16_352 (by decide) (J := 58) rfl ?_
    show Go _ _ _ _ (T215.setTop (mkF m 58 _ []))
    refine G.iN H215 D16_58 (J := 59) rfl rfl ?_
    refine G.iL H215 D16_59 (J := 61) rfl rfl ?_
    refine G.cY H215 D16_61 (by decide) (by decide) (J := 355) rfl ?_
    refine G.iN H215 D16_355 (J := 356) rfl rfl ?_
    refine G.aL H215 D16_356 (J := 358) rfl rfl rfl ?_
    refine G.aR H215 A217 D16_358 (J := 359) rfl ?_
    refine G.cY H215 D16_359 (by decide) (by decide) (J := 365) rfl ?_
    refine G.aL H215 D16_365 (J := 367) rfl rfl rfl ?_
    refine G.iN H215 D16_367 (J := 368) rfl rfl ?_
    refine G.cS H215 (m98 V a2 4 k5 6 ([u193, u197, u202, (x1.toInt8.toInt32)] : List Int32) h215_ H215.old (by omega) (by omega) (by simp only [qa, qc, qn] <;> omega) (Arv.pad A217 (fun i => (pad_rep (([u193, u197, u202, (x1.toInt8.toInt32)] : List Int32).map Value.int) (.int 0) 2 i).symm)) (by omega) (by omega) (by omega) (by simp only [qa, qc, qn] <;> omega)) (wd346 V) (wd328 V) (wd89 V) (wd329 V) [.ref a2, .int 4] [] 0 371 (lenOf (pd_7) rfl) D16_368 all0 (by decide) ?_
    rintro T219 h219_ _ _ H219 ⟨a223, k224, rfl, rfl, K225, g226, F227, F228⟩
    have na223 := Nat.le_trans H215.le g226
    show Go _ _ _ _ (T219.setTop (mkF m 371 _ [.ref a223]))
    have K229 : Keep h0 h219_ [] := (Keep.trans (Keep.wr (Keep.wr (Keep.wr (Keep.wr (Keep.ext (Keep.refl h0 []) E3) W195 (Or.inr (Nat.le_of_eq ga2.symm))) W199 (Or.inr (Nat.le_of_eq ga2.symm))) W204 (Or.inr (Nat.le_of_eq ga2.symm))) W216 (Or.inr (Nat.le_of_eq ga2.symm))) K225 all0)
    have K230 : Keep h0 h215_ [] := (Keep.wr (Keep.wr (Keep.wr (Keep.wr (Keep.ext (Keep.refl h0 []) E3) W195 (Or.inr (Nat.le_of_eq ga2.symm))) W199 (Or.inr (Nat.le_of_eq ga2.symm))) W204 (Or.inr (Nat.le_of_eq ga2.symm))) W216 (Or.inr (Nat.le_of_eq ga2.symm)))
    exact G.retA H219 (t := (.array .byte)) rfl rfl rfl D16_371 (so := []) all0 (by decide) (by decide) ⟨a223, k224, [u193, u197, u202, (x1.toInt8.toInt32)], rfl, rfl, K229, (Nat.le_trans K230.1 g226), F227, lB, (by subst eu193; subst eu197; subst eu202; rw [own_e2, own_k6 r1 c12 c101, own_k4 r2 c214]; simp only [encBs, List.flatMap_cons, List.flatMap_nil, List.append_nil, List.append_assoc])⟩
   ·
    refine G.cY H210 D16_79 (XT.ii_ge_t c214) (by decide) (J := 95) rfl ?_
    refine G.iL H210 D16_95 (J := 97) rfl rfl ?_
    refine G.sP H210 D16_97 (J := 100) rfl (v := 2048) rfl ?_
    by_cases c231 : x1 < 2048
    ·
     refine G.cN H210 D16_100 (J := 103) rfl (XT.ii_ge_f c231) ?_
     refine G.aL H210 D16_103 (J := 105) rfl rfl rfl ?_
     refine G.iN H210 D16_105 (J := 106) rfl rfl ?_
     refine G.iI H210 (v := 4) (L' := #[.val (.ref p0), .val (.int 1), .val (.int 4), .val (.int 2), .val (.int 2), .val (.ref a2), .val (.int x1), .unset, .unset]) D16_106 (J := 109) rfl rfl rfl rfl ?_
     refine G.sP H210 D16_109 (J := 112) rfl (v := 192) rfl ?_
     refine G.iL H210 D16_112 (J := 114) rfl rfl ?_
     refine G.bP H210 D16_114 (J := 116) rfl (v := 6) rfl ?_
     refine G.ishr H210 D16_116 (J := 117) rfl ?_
     refine G.ior H210 D16_117 (J := 118) rfl ?_
     refine G.i2b H210 D16_118 (J := 119) rfl ?_
     obtain ⟨u232, eu232⟩ : ∃ q, q = ((192 ||| (x1 >>> ((6 : Int32) &&& 31))) : Int32).toInt8.toInt32 := ⟨_, rfl⟩
     rw [← eu232]
     have F236 := (Exa.wr W204 F206)
     refine G.stB H210 A205 (by decide) (i := 3) rfl lB na2 (Sf.mem (mG (i := 0) rfl)) (y := u232) (own_narBg eu232) D16_119 (J := 120) rfl ?_
     intro T233 h233_ H233 W234 A235
     replace A235 : Arv Z h233_ a2 k5 .byte 6 [.int u193, .int u197, .int u202, .int u232, .int 0, .int 0] (.int 0) := A235
     refine G.aL H233 D16_120 (J := 122) rfl rfl rfl ?_
     refine G.iN H233 D16_122 (J := 123) rfl rfl ?_
     refine G.iI H233 (v := 5) (L' := #[.val (.ref p0), .val (.int 1), .val (.int 5), .val (.int 2), .val (.int 2), .val (.ref a2), .val (.int x1), .unset, .unset]) D16_123 (J := 126) rfl rfl rfl rfl ?_
     refine G.sP H233 D16_126 (J := 129) rfl (v := 128) rfl ?_
     refine G.iL H233 D16_129 (J := 131) rfl rfl ?_
     refine G.bP H233 D16_131 (J := 133) rfl (v := 63) rfl ?_
     refine G.iand H233 D16_133 (J := 134) rfl ?_
     refine G.ior H233 D16_134 (J := 135) rfl ?_
     refine G.i2b H233 D16_135 (J := 136) rfl ?_
     obtain ⟨u237, eu237⟩ : ∃ q, q = ((128 ||| (x1 &&& 63)) : Int32).toInt8.toInt32 := ⟨_, rfl⟩
     rw [← eu237]
     have F241 := (Exa.wr W234 F236)
     refine G.stB H233 A235 (by decide) (i := 4) rfl lB na2 (Sf.mem (mG (i := 0) rfl)) (y := u237) (own_narBg eu237) D16_136 (J := 137) rfl ?_
     intro T238 h238_ H238 W239 A240
     replace A240 : Arv Z h238_ a2 k5 .byte 6 [.int u193, .int u197, .int u202, .int u232, .int u237, .int 0] (.int 0) := A240
     refine G.go H238 D16_137 (by decide) (J := 352) rfl ?_
     refine G.go H238 D16_352 (by decide) (J := 58) rfl ?_
     show Go _ _ _ _ (T238.setTop (mkF m 58 _ []))
     refine G.iN H238 D16_58 (J := 59) rfl rfl ?_
     refine G.iL H238 D16_59 (J := 61) rfl rfl ?_
     refine G.cY H238 D16_61 (by decide) (by decide) (J := 355) rfl ?_
     refine G.iN H238 D16_355 (J := 356) rfl rfl ?_
     refine G.aL H238 D16_356 (J := 358) rfl rfl rfl ?_
     refine G.aR H238 A240 D16_358 (J := 359) rfl ?_
     refine G.cY H238 D16_359 (by decide) (by decide) (J := 365) rfl ?_
     refine G.aL H238 D16_365 (J := 367) rfl rfl rfl ?_
     refine G.iN H238 D16_367 (J := 368) rfl rfl ?_
     refine G.cS H238 (m98 V a2 5 k5 6 ([u193, u197, u202, u232, u237] : List Int32) h238_ H238.old (by omega) (by omega) (by simp only [qa, qc, qn] <;> omega) (Arv.pad A240 (fun i => (pad_rep (([u193, u197, u202, u232, u237] : List Int32).map Value.int) (.int 0) 1 i).symm)) (by omega) (by omega) (by omega) (by simp only [qa, qc, qn] <;> omega)) (wd346 V) (wd328 V) (wd89 V) (wd329 V) [.ref a2, .int 5] [] 0 371 (lenOf (pd_7) rfl) D16_368 all0 (by decide) ?_
     rintro T242 h242_ _ _ H242 ⟨a246, k247, rfl, rfl, K248, g249, F250, F251⟩
     have na246 := Nat.le_trans H238.le g249
     show Go _ _ _ _ (T242.setTop (mkF m 371 _ [.ref a246]))
     have K252 : Keep h0 h242_ [] := (Keep.trans (Keep.wr (Keep.wr (Keep.wr (Keep.wr (Keep.wr (Keep.ext (Keep.refl h0 []) E3) W195 (Or.inr (Nat.le_of_eq ga2.symm))) W199 (Or.inr (Nat.le_of_eq ga2.symm))) W204 (Or.inr (Nat.le_of_eq ga2.symm))) W234 (Or.inr (Nat.le_of_eq ga2.symm))) W239 (Or.inr (Nat.le_of_eq ga2.symm))) K248 all0)
     have K253 : Keep h0 h238_ [] := (Keep.wr (Keep.wr (Keep.wr (Keep.wr (Keep.wr (Keep.ext (Keep.refl h0 []) E3) W195 (Or.inr (Nat.le_of_eq ga2.symm))) W199 (Or.inr (Nat.le_of_eq ga2.symm))) W204 (Or.inr (Nat.le_of_eq ga2.symm))) W234 (Or.inr (Nat.le_of_eq ga2.symm))) W239 (Or.inr (Nat.le_of_eq ga2.symm)))
     exact G.retA H242 (t := (.array .byte)) rfl rfl rfl D16_371 (so := []) all0 (by decide) (by decide) ⟨a246, k247, [u193, u197, u202, u232, u237], rfl, rfl, K252, (Nat.le_trans K253.1 g249), F250, lB, (by subst eu193; subst eu197; subst eu202; subst eu232; subst eu237; rw [own_e2, own_k6 r1 c12 c101, own_k5 r2 c214 c231]; simp only [encBs, List.flatMap_cons, List.flatMap_nil, List.append_nil, List.append_assoc])⟩
    ·
     refine G.cY H210 D16_100 (XT.ii_ge_t c231) (by decide) (J := 140) rfl ?_
     refine G.iL H210 D16_140 (J := 142) rfl rfl ?_
     refine G.cS H210 (m99 V x1 h203_ H210.old ns3) (wq V 310 rfl) (wq V 311 rfl) (wq V 312 rfl) (wq V 313 rfl) [.int x1] [] 0 145 (lenOf (pd_2) rfl) D16_142 all0 (by decide) ?_
     rintro T254 h254_ _ _ H254 ⟨rfl, rfl, rfl⟩
     show Go _ _ _ _ (T254.setTop (mkF m 145 _ [.int 0]))
     refine G.ifYes H254 D16_145 (by decide) (by decide) (J := 298) rfl ?_
     refine G.aL H254 D16_298 (J := 300) rfl rfl rfl ?_
     refine G.iN H254 D16_300 (J := 301) rfl rfl ?_
     refine G.iI H254 (v := 4) (L' := #[.val (.ref p0), .val (.int 1), .val (.int 4), .val (.int 2), .val (.int 2), .val (.ref a2), .val (.int x1), .unset, .unset]) D16_301 (J := 304) rfl rfl rfl rfl ?_
     refine G.sP H254 D16_304 (J := 307) rfl (v := 224) rfl ?_
     refine G.iL H254 D16_307 (J := 309) rfl rfl ?_
     refine G.bP H254 D16_309 (J := 311) rfl (v := 12) rfl ?_
     refine G.ishr H254 D16_311 (J := 312) rfl ?_
     refine G.ior H254 D16_312 (J := 313) rfl ?_
     refine G.i2b H254 D16_313 (J := 314) rfl ?_
     obtain ⟨u258, eu258⟩ : ∃ q, q = ((224 ||| (x1 >>> ((12 : Int32) &&& 31))) : Int32).toInt8.toInt32 := ⟨_, rfl⟩
     rw [← eu258]
     have F262 := (Exa.wr W204 F206)
     refine G.stB H254 A205 (by decide) (i := 3) rfl lB na2 (Sf.mem (mG (i := 0) rfl)) (y := u258) (own_narBg eu258) D16_314 (J := 315) rfl ?_
     intro T259 h259_ H259 W260 A261
     replace A261 : Arv Z h259_ a2 k5 .byte 6 [.int u193, .int u197, .int u202, .int u258, .int 0, .int 0] (.int 0) := A261
     refine G.aL H259 D16_315 (J := 317) rfl rfl rfl ?_
     refine G.iN H259 D16_317 (J := 318) rfl rfl ?_
     refine G.iI H259 (v := 5) (L' := #[.val (.ref p0), .val (.int 1), .val (.int 5), .val (.int 2), .val (.int 2), .val (.ref a2), .val (.int x1), .unset, .unset]) D16_318 (J := 321) rfl rfl rfl rfl ?_
     refine G.sP H259 D16_321 (J := 324) rfl (v := 128) rfl ?_
     refine G.iL H259 D16_324 (J := 326) rfl rfl ?_
     refine G.bP H259 D16_326 (J := 328) rfl (v := 6) rfl ?_
     refine G.ishr H259 D16_328 (J := 329) rfl ?_
     refine G.bP H259 D16_329 (J := 331) rfl (v := 63) rfl ?_
     refine G.iand H259 D16_331 (J := 332) rfl ?_
     refine G.ior H259 D16_332 (J := 333) rfl ?_
     refine G.i2b H259 D16_333 (J := 334) rfl ?_
     obtain ⟨u263, eu263⟩ : ∃ q, q = ((128 ||| ((x1 >>> ((6 : Int32) &&& 31)) &&& 63)) : Int32).toInt8.toInt32 := ⟨_, rfl⟩
     rw [← eu263]
     have F267 := (Exa.wr W260 F262)
     refine G.stB H259 A261 (by decide) (i := 4) rfl lB na2 (Sf.mem (mG (i := 0) rfl)) (y := u263) (own_narBg eu263) D16_334 (J := 335) rfl ?_
     intro T264 h264_ H264 W265 A266
     replace A266 : Arv Z h264_ a2 k5 .byte 6 [.int u193, .int u197, .int u202, .int u258, .int u263, .int 0] (.int 0) := A266
     refine G.aL H264 D16_335 (J := 337) rfl rfl rfl ?_
     refine G.iN H264 D16_337 (J := 338) rfl rfl ?_
     refine G.iI H264 (v := 6) (L' := #[.val (.ref p0), .val (.int 1), .val (.int 6), .val (.int 2), .val (.int 2), .val (.ref a2), .val (.int x1), .unset, .unset]) D16_338 (J := 341) rfl rfl rfl rfl ?_
     refine G.sP H264 D16_341 (J := 344) rfl (v := 128) rfl ?_
     refine G.iL H264 D16_344 (J := 346) rfl rfl ?_
     refine G.bP H264 D16_346 (J := 348) rfl (v := 63) rfl ?_
     refine G.iand H264 D16_348 (J := 349) rfl ?_
     refine G.ior H264 D16_349 (J := 350) rfl ?_
     refine G.i2b H264 D16_350 (J := 351) rfl ?_
     obtain ⟨u268, eu268⟩ : ∃ q, q = ((128 ||| (x1 &&& 63)) : Int32).toInt8.toInt32 := ⟨_, rfl⟩
     rw [← eu268]
     have F272 := (Exa.wr W265 F267)
     refine G.stB H264 A266 (by decide) (i := 5) rfl lB na2 (Sf.mem (mG (i := 0) rfl)) (y := u268) (own_narBg eu268) D16_351 (J := 352) rfl ?_
     intro T269 h269_ H269 W270 A271
     replace A271 : Arv Z h269_ a2 k5 .byte 6 [.int u193, .int u197, .int u202, .int u258, .int u263, .int u268] (.int 0) := A271
     refine G.go H269 D16_352 (by decide) (J := 58) rfl ?_
     show Go _ _ _ _ (T269.setTop (mkF m 58 _ []))
     refine G.iN H269 D16_58 (J := 59) rfl rfl ?_
     refine G.iL H269 D16_59 (J := 61) rfl rfl ?_
     refine G.cY H269 D16_61 (by decide) (by decide) (J := 355) rfl ?_
     refine G.iN H269 D16_355 (J := 356) rfl rfl ?_
     refine G.aL H269 D16_356 (J := 358) rfl rfl rfl ?_
     refine G.aR H269 A271 D16_358 (J := 359) rfl ?_
     refine G.cN H269 D16_359 (J := 362) rfl (by decide) ?_
     refine G.aL H269 D16_362 (J := 364) rfl rfl rfl ?_
     have F273 := (Exa.wr W270 F272)
     have K274 : Keep h0 h269_ [] := (Keep.wr (Keep.wr (Keep.wr (Keep.wr (Keep.wr (Keep.wr (Keep.ext (Keep.refl h0 []) E3) W195 (Or.inr (Nat.le_of_eq ga2.symm))) W199 (Or.inr (Nat.le_of_eq ga2.symm))) W204 (Or.inr (Nat.le_of_eq ga2.symm))) W260 (Or.inr (Nat.le_of_eq ga2.symm))) W265 (Or.inr (Nat.le_of_eq ga2.symm))) W270 (Or.inr (Nat.le_of_eq ga2.symm)))
     exact G.retA H269 (t := (.array .byte)) rfl rfl rfl D16_364 (so := []) all0 (by decide) (by decide) ⟨a2, k5, [u193, u197, u202, u258, u263, u268], rfl, rfl, K274, (Nat.le_of_eq ga2.symm), A271, lB, (by subst eu193; subst eu197; subst eu202; subst eu258; subst eu263; subst eu268; rw [own_e2, own_k6 r1 c12 c101, own_k6 r2 c214 c231]; simp only [encBs, List.flatMap_cons, List.flatMap_nil, List.append_nil, List.append_assoc])⟩
theorem m131 (V : Env1 Z a0 n0 uu0 uu1 uu2 uu3 uu4) (p0 : Addr) (d0 : ClassId) (x0 : Int32) (x1 : Int32) (h0 : Heap) (hO : Old Z n0 h0) (f0 : Arv Z h0 p0 d0 .byte 4 [(.int (x0.toInt8.toInt32)), (.int ((x0 >>> ((8 : Int32) &&& 31)).toInt8.toInt32)), (.int (x1.toInt8.toInt32)), (.int ((x1 >>> ((8 : Int32) &&& 31)).toInt8.toInt32))] (.int 0)) (r1 : ¬ x0 < 0 ∧ ¬ 65535 < x0) (r2 : ¬ x1 < 0 ∧ ¬ 65535 < x1) (ns3 : x1 < 55296 ∨ ¬ x1 < 57344) (ns4 : x0 < 55296 ∨ ¬ x0 < 57344) :
  Met Z a0 ELs True n0 l ⟨"java/lang/String", "encodeUTF8", "(B[BZ)[B"⟩ Y2 9 (some (.array .byte)) ⟨3, 2, 30, 74⟩ #[.int 1, .ref p0, .int 1] h0 [] (fun v h so => (∃ a : Addr, ∃ kc : ClassId, ∃ bs : List Int32, v = some (.ref a) ∧ so = [] ∧ Keep h0 h [] ∧ h0.size ≤ a ∧ Arv Z h a kc .byte (Int32.ofNat bs.length) (bs.map Value.int) (.int 0) ∧ bs.length ≤ 6 ∧ encBs bs = encS [x0, x1])) := by
 refine Met.of (EWl V) (by first | decide +kernel | rfl) hO (L0 := #[.val (.int 1), .val (.ref p0), .val (.int 1), .unset, .unset, .unset, .unset, .unset, .unset]) rfl ?_
 intro p e s m below meth c T H
 refine G.iN H D15_0 (J := 1) rfl rfl ?_
 refine G.iC H D15_1 (J := 2) rfl (v := 1) rfl ?_
 refine G.cN H D15_2 (J := 5) rfl (by decide) ?_
 refine G.aN H D15_5 (J := 6) rfl rfl rfl ?_
 refine G.iN H D15_6 (J := 7) rfl rfl ?_
 refine G.cS H (m130 V p0 d0 x0 x1 h0 H.old f0 r1 r2 ns3 ns4) (wq V 306 rfl) (wq V 307 rfl) (wd11 V) (wq V 308 rfl) [.ref p0, .int 1] [] 0 10 (lenOf (pd_49) rfl) D15_7 all0 (by decide) ?_
 rintro T1 h1_ _ _ H1 ⟨a5, k6, l7, rfl, rfl, K8, g9, F10, R11, R12⟩
 have na5 := Nat.le_trans H.le g9
 show Go _ _ _ _ (T1.setTop (mkF m 10 _ [.ref a5]))
 have K13 : Keep h0 h1_ [] := (Keep.trans (Keep.refl h0 []) K8 all0)
 exact G.retA H1 (t := (.array .byte)) rfl rfl rfl D15_10 (so := []) all0 (by decide) (by decide) ⟨a5, k6, l7, rfl, rfl, K13, g9, F10, (by omega), R12⟩
theorem m132 (V : Env1 Z a0 n0 uu0 uu1 uu2 uu3 uu4) (p0 : Addr) (d0 : ClassId) (x0 : Int32) (x1 : Int32) (h0 : Heap) (hO : Old Z n0 h0) (f0 : Arv Z h0 p0 d0 .byte 4 [(.int (x0.toInt8.toInt32)), (.int ((x0 >>> ((8 : Int32) &&& 31)).toInt8.toInt32)), (.int (x1.toInt8.toInt32)), (.int ((x1 >>> ((8 : Int32) &&& 31)).toInt8.toInt32))] (.int 0)) (r1 : ¬ x0 < 0 ∧ ¬ 65535 < x0) (r2 : ¬ x1 < 0 ∧ ¬ 65535 < x1) (ns3 : x1 < 55296 ∨ ¬ x1 < 57344) (ns4 : x0 < 55296 ∨ ¬ x0 < 57344) :
  Met Z a0 ELs True n0 l ⟨"java/lang/String", "encode", "(Ljava/nio/charset/Charset;B[B)[B"⟩ Y41 3 (some (.array .byte)) ⟨4, 2, 30, 94⟩ #[.ref uu1, .int 1, .ref p0] h0 [] (fun v h so => (∃ a : Addr, ∃ kc : ClassId, ∃ bs : List Int32, v = some (.ref a) ∧ so = [] ∧ Keep h0 h [] ∧ h0.size ≤ a ∧ Arv Z h a kc .byte (Int32.ofNat bs.length) (bs.map Value.int) (.int 0) ∧ bs.length ≤ 6 ∧ encBs bs = encS [x0, x1])) := by
 refine Met.of (EWl V) (by first | decide +kernel | rfl) hO (L0 := #[.val (.ref uu1), .val (.int 1), .val (.ref p0)]) rfl ?_
 intro p e s m below meth c T H
 refine G.aN H D13_0 (J := 1) rfl rfl rfl ?_
 refine G.getS H (wq V 236 rfl) Via.refl (Sta.ext H.old.2 (hv1 V)) D13_1 (J := 4) rfl ?_
 intro T1 H2
 refine G.acmpNo H2 D13_4 (J := 7) rfl rfl rfl (XT.aa_ne_f rfl) ?_
 refine G.iN H2 D13_7 (J := 8) rfl rfl ?_
 refine G.aN H2 D13_8 (J := 9) rfl rfl rfl ?_
 refine G.iC H2 D13_9 (J := 10) rfl (v := 1) rfl ?_
 refine G.cS H2 (m131 V p0 d0 x0 x1 h0 H2.old f0 r1 r2 ns3 ns4) (wq V 238 rfl) (wq V 239 rfl) (wd11 V) (wq V 240 rfl) [.int 1, .ref p0, .int 1] [] 0 13 (lenOf (pd_44) rfl) D13_10 all0 (by decide) ?_
 rintro T3 h3_ _ _ H3 ⟨a7, k8, l9, rfl, rfl, K10, g11, F12, R13, R14⟩
 have na7 := Nat.le_trans H.le g11
 show Go _ _ _ _ (T3.setTop (mkF m 13 _ [.ref a7]))
 have K15 : Keep h0 h3_ [] := (Keep.trans (Keep.refl h0 []) K10 all0)
 exact G.retA H3 (t := (.array .byte)) rfl rfl rfl D13_13 (so := []) all0 (by decide) (by decide) ⟨a7, k8, l9, rfl, rfl, K15, g11, F12, (by omega), R14⟩
theorem m133 (V : Env1 Z a0 n0 uu0 uu1 uu2 uu3 uu4) (p0 : Addr) (p1 : Addr) (d0 : ClassId) (x0 : Int32) (x1 : Int32) (h0 : Heap) (hO : Old Z n0 h0) (f0 : Fld Z h0 p0 "java/lang/String" "value" "[B" (.ref p1)) (f1 : Arv Z h0 p1 d0 .byte 4 [(.int (x0.toInt8.toInt32)), (.int ((x0 >>> ((8 : Int32) &&& 31)).toInt8.toInt32)), (.int (x1.toInt8.toInt32)), (.int ((x1 >>> ((8 : Int32) &&& 31)).toInt8.toInt32))] (.int 0)) (f2 : Exa Z h0 p0 "java/lang/String") (f3 : Fld Z h0 p0 "java/lang/String" "coder" "B" (.int 1)) (r4 : ¬ x0 < 0 ∧ ¬ 65535 < x0) (r5 : ¬ x1 < 0 ∧ ¬ 65535 < x1) (ns6 : x1 < 55296 ∨ ¬ x1 < 57344) (ns7 : x0 < 55296 ∨ ¬ x0 < 57344) :
  Met Z a0 ELs True n0 l ⟨"java/lang/String", "getBytes", "(Ljava/nio/charset/Charset;)[B"⟩ Y38 2 (some (.array .byte)) ⟨5, 2, 30, 108⟩ #[.ref p0, .ref uu1] h0 [] (fun v h so => (∃ a : Addr, ∃ kc : ClassId, ∃ bs : List Int32, v = some (.ref a) ∧ so = [] ∧ Keep h0 h [] ∧ h0.size ≤ a ∧ Arv Z h a kc .byte (Int32.ofNat bs.length) (bs.map Value.int) (.int 0) ∧ bs.length ≤ 6 ∧ encBs bs = encS [x0, x1])) := by
 refine Met.of (EWl V) (by first | decide +kernel | rfl) hO (L0 := #[.val (.ref p0), .val (.ref uu1)]) rfl ?_
 intro p e s m below meth c T H
 refine G.aN H D20_0 (J := 1) rfl rfl rfl ?_
 refine G.ifnonnullYes H D20_1 (by decide) (J := 12) rfl ?_
 refine G.aN H D20_12 (J := 13) rfl rfl rfl ?_
 refine G.aN H D20_13 (J := 14) rfl rfl rfl ?_
 refine G.cV H (m87 V p0 h0 H.old f3) (wd110 V) (wd111 V) (nf_sel (wd113 V)) (wd113 V) (wd112 V) (wd11 V) (wd114 V) f2 [] [.ref uu1] 1 17 (lenOf (pd_10) rfl) D20_14 all0 (by decide) ?_
 rintro T1 h1_ _ _ H1 ⟨rfl, rfl, rfl⟩
 show Go _ _ _ _ (T1.setTop (mkF m 17 _ [.int 1, .ref uu1]))
 refine G.aN H1 D20_17 (J := 18) rfl rfl rfl ?_
 refine G.getF H1 (wd29 V) Via.refl f0 D20_18 (J := 21) rfl ?_
 intro T5 H6
 refine G.cS H6 (m132 V p1 d0 x0 x1 h0 H6.old f1 r4 r5 ns6 ns7) (wq V 233 rfl) (wq V 234 rfl) (wd11 V) (wq V 235 rfl) [.ref uu1, .int 1, .ref p1] [] 0 24 (lenOf (pd_45) rfl) D20_21 all0 (by decide) ?_
 rintro T7 h7_ _ _ H7 ⟨a11, k12, l13, rfl, rfl, K14, g15, F16, R17, R18⟩
 have na11 := Nat.le_trans H1.le g15
 show Go _ _ _ _ (T7.setTop (mkF m 24 _ [.ref a11]))
 have K19 : Keep h0 h7_ [] := (Keep.trans (Keep.refl h0 []) K14 all0)
 exact G.retA H7 (t := (.array .byte)) rfl rfl rfl D20_24 (so := []) all0 (by decide) (by decide) ⟨a11, k12, l13, rfl, rfl, K19, g15, F16, (by omega), R18⟩
theorem m134 (V : Env1 Z a0 n0 uu0 uu1 uu2 uu3 uu4) (p0 : Addr) (p1 : Addr) (p2 : Addr) (p3 : Addr) (j0 : Nat) (d0 : ClassId) (j1 : Nat) (cs0 : List Int32) (p4 : Addr) (d1 : ClassId) (cs1 : List Int32) (p5 : Addr) (d2 : ClassId) (h0 : Heap) (hO : Old Z n0 h0) (f0 : Fld Z h0 p0 "java/lang/AbstractStringBuilder" "value" "[B" (.ref p3)) (ln1 : j0 ≤ 4000) (f1 : Fld Z h0 p0 "java/lang/AbstractStringBuilder" "count" "I" (.int (Int32.ofNat j0))) (ln3 : j1 ≤ 4000) (cp4 : j1 = 16 ∨ j1 = 34 ∨ j1 = 70) (ln5 : cs0.length ≤ 4000) (f3 : Arv Z h0 p3 d0 .byte (Int32.ofNat j1) (cs0.map b8) (.int 0)) (f7 : Exa Z h0 p0 "java/lang/StringBuilder") (f8 : Fld Z h0 p0 "java/lang/AbstractStringBuilder" "coder" "B" (.int 0)) (ln9 : j0 = cs0.length) (ln10 : cs0.length ≤ j1) (ln11 : cs0.length ≤ 39) (f12 : StrU Z h0 p1 p4 d1 cs1) (g13 : n0 ≤ p0) (g14 : n0 ≤ p3) (f15 : Exa Z h0 p3 "[B") (f16 : Exa Z h0 p2 "java/lang/String") (f17 : Str Z h0 p2 p5 d2 []) (q18 : p5 ≠ p3) :
  Met Z a0 ELs True n0 l ⟨"com/example/schema_to_form/schematoform/server/PathSegments", "appendEncoded", "(Ljava/lang/StringBuilder;Ljava/lang/String;Ljava/lang/String;)V"⟩ Y5 7 none ⟨8, 6, 240, 150⟩ #[.ref p0, .ref p1, .ref p2] h0 [p3] (fun v h so => (∃ pp : Addr, ∃ kk : ClassId, ∃ ww : Nat, v = none ∧ so = [pp] ∧ Keep h0 h [p0, p3] ∧ Bld Z h p0 pp kk ww (cs0 ++ (encS cs1)) ∧ n0 ≤ pp ∧ (pp = p3 ∨ h0.size ≤ pp) ∧ Cap ww)) := by
 refine Met.of (EWl V) (by first | decide +kernel | rfl) hO (L0 := #[.val (.ref p0), .val (.ref p1), .val (.ref p2), .unset, .unset, .unset, .unset]) rfl ?_
 intro p e s m below meth c T H
 rcases own_l2 (cs := cs1) f12.2.2.2.2.2 with rfl | ⟨ch0, rfl⟩ | ⟨ch0, ch1, rfl⟩
 ·
  have S1 := StrU.cut0 f12
  refine G.aN H D72_0 (J := 1) rfl rfl rfl ?_
  refine G.aN H D72_1 (J := 2) rfl rfl rfl ?_
  refine G.cS H (m63 V p1 p2 p4 d1 h0 H.old S1.1 S1) (wq V 150 rfl) (wq V 151 rfl) (wd34 V) (wq V 152 rfl) [.ref p1, .ref p2] [] 0 5 (lenOf (pd_34) rfl) D72_2 all0 (by decide) ?_
  rintro T5 h5_ _ _ H5 ⟨rfl, rfl, rfl⟩
  show Go _ _ _ _ (T5.setTop (mkF m 5 _ [.int 1]))
  refine G.ifNo H5 D72_5 (J := 8) rfl (by decide) ?_
  refine G.aN H5 D72_8 (J := 9) rfl rfl rfl ?_
  refine G.aN H5 D72_9 (J := 10) rfl rfl rfl ?_
  refine G.cV H5 (m71 V p0 p1 p3 j0 d0 j1 cs0 p4 d1 ([] : List Int32) h0 H5.old f0 (by omega) f1 (by omega) cp4 (by omega) f3 (by omega) (by omega) (by omega) (by simp only [qa, qc, qn] <;> omega) S1 (by simp only [qa, qc, qn] <;> omega) f7 f8 g13 g14) (wq V 154 rfl) (wq V 155 rfl) (nf_sel (wq V 157 rfl)) (wq V 157 rfl) (wq V 156 rfl) (wd38 V) (wq V 158 rfl) f7 [.ref p1] [] 0 13 (lenOf (pd_39) rfl) D72_10 (allS (mG (i := 0) rfl) all0) (by decide) ?_
  intro T9 h9_ v10 s11 H9 Q12
  rcases Q12 with ⟨a13, k14, c15, rfl, rfl, K16, g17, U18, F19, F20, F21, F22, F23, F24⟩ | ⟨c25, rfl, rfl, K26, U27, F28, F29, F30, F31, F32⟩
  ·
   simp only [qa, qc, qn] at c15
   have na13 := Nat.le_trans H5.le g17
   exfalso; omega
  ·
   simp only [qa, qc, qn] at c25
   show Go _ _ _ _ (T9.setTop (mkF m 13 _ [.ref p0]))
   refine G.pop H9 D72_13 (J := 14) rfl rfl ?_
   refine G.go H9 D72_14 (by decide) (J := 112) rfl ?_
   have K33 : Keep h0 h9_ [p3, p0] := (Keep.trans (Keep.refl h0 [p3, p0]) K26 (allS (Or.inl (mG (i := 0) rfl)) (allS (Or.inl (mG (i := 1) rfl)) all0)))
   have F34 := (Exa.keep f15 K26)
   exact G.retV H9 rfl D72_112 (so := [p3]) (allS (mG (i := 0) rfl) all0) (by decide) (by decide) ⟨p3, d0, j1, rfl, rfl, (Keep.trans (Keep.refl h0 [p0, p3]) K33 (allS (Or.inl (mG (i := 1) rfl)) (allS (Or.inl (mG (i := 0) rfl)) all0))), (own_bl (l := (cs0 ++ ([] : List Int32))) ⟨F31, F29, F32, (own_cnt (i := j0 + ([] : List Int32).length) F30 (by simp only [qa, qc, qn] <;> omega)), F28, (by simp only [qa, qc, qn] <;> omega), F34⟩ (by rw [own_e0] <;> simp)), g14, (Or.inl rfl), cp4⟩
 ·
  rcases StrU.cut1 f12 with ⟨S35, E39⟩ | ⟨c36, F37, A38⟩
  ·
   refine G.aN H D72_0 (J := 1) rfl rfl rfl ?_
   refine G.aN H D72_1 (J := 2) rfl rfl rfl ?_
   refine G.cS H (m79 V p1 p2 p4 d1 ch0 p5 d2 h0 H.old S35.1 S35 (S35.2.2.2.2.1 _ (mG (i := 0) rfl)) f16 f17) (wq V 150 rfl) (wq V 151 rfl) (wd34 V) (wq V 152 rfl) [.ref p1, .ref p2] [] 0 5 (lenOf (pd_34) rfl) D72_2 all0 (by decide) ?_
   intro T40 h40_ v41 s42 H40 Q43
   rcases Q43 with ⟨c44, rfl, rfl, rfl⟩ | ⟨rfl, rfl, rfl⟩
   ·
    show Go _ _ _ _ (T40.setTop (mkF m 5 _ [.int 1]))
    refine G.ifNo H40 D72_5 (J := 8) rfl (by decide) ?_
    refine G.aN H40 D72_8 (J := 9) rfl rfl rfl ?_
    refine G.aN H40 D72_9 (J := 10) rfl rfl rfl ?_
    refine G.cV H40 (m71 V p0 p1 p3 j0 d0 j1 cs0 p4 d1 ([ch0] : List Int32) h0 H40.old f0 (by omega) f1 (by omega) cp4 (by omega) f3 (by omega) (by omega) (by omega) (by simp only [qa, qc, qn] <;> omega) S35 (by simp only [qa, qc, qn] <;> omega) f7 f8 g13 g14) (wq V 154 rfl) (wq V 155 rfl) (nf_sel (wq V 157 rfl)) (wq V 157 rfl) (wq V 156 rfl) (wd38 V) (wq V 158 rfl) f7 [.ref p1] [] 0 13 (lenOf (pd_39) rfl) D72_10 (allS (mG (i := 0) rfl) all0) (by decide) ?_
    intro T45 h45_ v46 s47 H45 Q48
    rcases Q48 with ⟨a49, k50, c51, rfl, rfl, K52, g53, U54, F55, F56, F57, F58, F59, F60⟩ | ⟨c61, rfl, rfl, K62, U63, F64, F65, F66, F67, F68⟩
    ·
     simp only [qa, qc, qn] at c51
     have na49 := Nat.le_trans H40.le g53
     show Go _ _ _ _ (T45.setTop (mkF m 13 _ [.ref p0]))
     refine G.pop H45 D72_13 (J := 14) rfl rfl ?_
     refine G.go H45 D72_14 (by decide) (J := 112) rfl ?_
     have K69 : Keep h0 h45_ [p0] := (Keep.trans (Keep.refl h0 [p0]) K52 (allS (Or.inl (mG (i := 0) rfl)) all0))
     exact G.retV H45 rfl D72_112 (so := [a49]) (allS (mG (i := 0) rfl) all0) (by decide) (by decide) ⟨a49, k50, j1 + (j1 + 2), rfl, rfl, (Keep.trans (Keep.refl h0 [p0, p3]) K69 (allS (Or.inl (mG (i := 0) rfl)) all0)), (own_bl (l := ((([] : List Int32) ++ cs0) ++ ([ch0] : List Int32))) ⟨F57, F55, F58, (own_cnt (i := j0 + ([ch0] : List Int32).length) F56 (by simp only [qa, qc, qn] <;> omega)), F59, (by simp only [qa, qc, qn] <;> omega), F60⟩ (by rw [own_e1, own_k1 c44] <;> simp)), na49, (Or.inr g53), (by unfold Cap; omega)⟩
    ·
     simp only [qa, qc, qn] at c61
     show Go _ _ _ _ (T45.setTop (mkF m 13 _ [.ref p0]))
     refine G.pop H45 D72_13 (J := 14) rfl rfl ?_
     refine G.go H45 D72_14 (by decide) (J := 112) rfl ?_
     have K70 : Keep h0 h45_ [p3, p0] := (Keep.trans (Keep.refl h0 [p3, p0]) K62 (allS (Or.inl (mG (i := 0) rfl)) (allS (Or.inl (mG (i := 1) rfl)) all0)))
     have F71 := (Exa.keep f15 K62)
     exact G.retV H45 rfl D72_112 (so := [p3]) (allS (mG (i := 0) rfl) all0) (by decide) (by decide) ⟨p3, d0, j1, rfl, rfl, (Keep.trans (Keep.refl h0 [p0, p3]) K70 (allS (Or.inl (mG (i := 1) rfl)) (allS (Or.inl (mG (i := 0) rfl)) all0))), (own_bl (l := (cs0 ++ ([ch0] : List Int32))) ⟨F67, F65, F68, (own_cnt (i := j0 + ([ch0] : List Int32).length) F66 (by simp only [qa, qc, qn] <;> omega)), F64, (by simp only [qa, qc, qn] <;> omega), F71⟩ (by rw [own_e1, own_k1 c44] <;> simp)), g14, (Or.inl rfl), cp4⟩
   ·
    show Go _ _ _ _ (T40.setTop (mkF m 5 _ [.int 0]))
    refine G.ifYes H40 D72_5 (by decide) (by decide) (J := 17) rfl ?_
    refine G.aN H40 D72_17 (J := 18) rfl rfl rfl ?_
    refine G.getS H40 (wq V 226 rfl) Via.refl (Sta.ext H40.old.2 (hv3 V)) D72_18 (J := 21) rfl ?_
    intro T72 H73
    refine G.cV H73 (m86 V p1 p4 d1 ch0 h0 H73.old S35 (S35.2.2.2.2.1 _ (mG (i := 0) rfl)) E39) (wq V 228 rfl) (wq V 229 rfl) (nf_sel (wq V 231 rfl)) (wq V 231 rfl) (wq V 230 rfl) (wd11 V) (wq V 232 rfl) S35.1 [.ref uu1] [] 0 24 (lenOf (pd_46) rfl) D72_21 all0 (by decide) ?_
    rintro T74 h74_ _ _ H74 ⟨a78, k79, l80, rfl, rfl, K81, g82, F83, R84, R85⟩
    have na78 := Nat.le_trans H40.le g82
    show Go _ _ _ _ (T74.setTop (mkF m 24 _ [.ref a78]))
    refine G.astoreN H74 (L' := #[.val (.ref p0), .val (.ref p1), .val (.ref p2), .val (.ref a78), .unset, .unset, .unset]) D72_24 (J := 25) rfl rfl rfl ?_
    refine G.aN H74 D72_25 (J := 26) rfl rfl rfl ?_
    refine G.aR H74 F83 D72_26 (J := 27) rfl ?_
    refine G.sI H74 (L' := #[.val (.ref p0), .val (.ref p1), .val (.ref p2), .val (.ref a78), .val (.int (Int32.ofNat l80.length)), .unset, .unset]) D72_27 (J := 29) rfl rfl ?_
    refine G.iC H74 D72_29 (J := 30) rfl (v := 0) rfl ?_
    refine G.sI H74 (L' := #[.val (.ref p0), .val (.ref p1), .val (.ref p2), .val (.ref a78), .val (.int (Int32.ofNat l80.length)), .val (.int 0), .unset]) D72_30 (J := 32) rfl rfl ?_
    have F86 := (Fld.keep f0 K81 nin0)
    have F87 := (Fld.keep f1 K81 nin0)
    have F88 := (Arv.keep f3 K81 nin0)
    have F89 := (Exa.keep f7 K81)
    have F90 := (Fld.keep f8 K81 nin0)
    have F91 := (Exa.keep f15 K81)
    have hb92 : Bud j1 1 2 6 240 := Bud.of cp4 (by decide) (by decide)
    have F93 := (Str.keep f17 K81 nin0 nin0)
    have N94 : a78 ≠ p3 := (Ne.symm (Nat.ne_of_lt (Nat.lt_of_lt_of_le f3.lt g82)))
    refine own_loop V p0 p1 p2 a78 p5 d2 k79 (l80.length) l80 rfl (by omega) (l80.length) (sf := []) p3 d0 j1 0 cs0 (Nat.zero_add _) (H74.less (allS (mG (i := 0) rfl) all0)) ⟨F89, F86, F90, (own_cnt (i := j0) F87 (by omega)), F88, (by omega), F91⟩ g13 g14 hb92 (by omega) F83 F93 N94 q18 (Or.inl rfl) ?_
    intro T95 h95_ b96 k97 w98 C99 S100 q101 H95 K102 g103 N104 B105 hb106
    replace B105 : Bld Z h95_ p0 b96 k97 w98 (cs0 ++ (encBs l80)) := B105
    have cp107 := Bud.cap hb106; unfold Cap at cp107; have le108 := B105.2.2.2.2.2.1
    simp only [qa, qc, qn] at le108
    show Go _ _ _ _ (T95.setTop (mkF m 32 _ []))
    refine G.iL H95 D72_32 (J := 34) rfl rfl ?_
    refine G.iL H95 D72_34 (J := 36) rfl rfl ?_
    refine G.cY H95 D72_36 (XT.ii_ge_t (own_ltF (a := l80.length) (b := l80.length) (by omega) (by omega) (by omega))) (by decide) (J := 112) rfl ?_
    have F109 := (Exa.keep F91 K102)
    have K110 : Keep h0 h95_ [p0, p3] := (Keep.trans (Keep.trans (Keep.refl h0 [p0, p3]) K81 all0) K102 (allS (Or.inl (mG (i := 0) rfl)) (allS (Or.inl (mG (i := 1) rfl)) all0)))
    have K111 : Keep h0 h74_ [] := (Keep.trans (Keep.refl h0 []) K81 all0)
    exact G.retV H95 rfl D72_112 (so := [b96]) (allS (mG (i := 0) rfl) all0) (Bud.cc hb106) (Bud.ss hb106) ⟨b96, k97, w98, rfl, rfl, K110, (own_bl (l := (cs0 ++ (encBs l80))) ⟨B105.1, B105.2.1, B105.2.2.1, B105.2.2.2.1, B105.2.2.2.2.1, (by simp only [qa, qc, qn] <;> omega), B105.2.2.2.2.2.2⟩ (by rw [R85])), g103, (own_nw2 N104 (Or.inl rfl) K111.1), cp107⟩
  ·
   refine G.aN H D72_0 (J := 1) rfl rfl rfl ?_
   refine G.aN H D72_1 (J := 2) rfl rfl rfl ?_
   refine G.cS H (m96 V p1 p2 p4 d1 ch0 p5 d2 h0 H.old f12.1 f12.2.2.1 A38 F37 (f12.2.2.2.2.1 _ (mG (i := 0) rfl)).1 (own_iA c36 (by decide)) (own_iB c36 (by decide)) (own_iA c36 (by decide)) (own_iB c36 (by decide)) (own_iA c36 (by decide)) (own_iB c36 (by decide)) (own_iE c36 (by decide)) (own_iE c36 (by decide)) (own_iE c36 (by decide)) (own_iE c36 (by decide)) f16 f17) (wq V 150 rfl) (wq V 151 rfl) (wd34 V) (wq V 152 rfl) [.ref p1, .ref p2] [] 0 5 (lenOf (pd_34) rfl) D72_2 all0 (by decide) ?_
   rintro T112 h112_ _ _ H112 ⟨rfl, rfl, rfl⟩
   show Go _ _ _ _ (T112.setTop (mkF m 5 _ [.int 0]))
   refine G.ifYes H112 D72_5 (by decide) (by decide) (J := 17) rfl ?_
   refine G.aN H112 D72_17 (J := 18) rfl rfl rfl ?_
   refine G.getS H112 (wq V 226 rfl) Via.refl (Sta.ext H112.old.2 (hv3 V)) D72_18 (J := 21) rfl ?_
   intro T116 H117
   refine G.cV H117 (m103 V p1 p4 d1 ch0 h0 H117.old f12.2.2.1 A38 f12.1 F37 (f12.2.2.2.2.1 _ (mG (i := 0) rfl)).1 (own_iA c36 (by decide)) (f12.2.2.2.2.1 _ (mG (i := 0) rfl)).2) (wq V 228 rfl) (wq V 229 rfl) (nf_sel (wq V 231 rfl)) (wq V 231 rfl) (wq V 230 rfl) (wd11 V) (wq V 232 rfl) f12.1 [.ref uu1] [] 0 24 (lenOf (pd_46) rfl) D72_21 all0 (by decide) ?_
   rintro T118 h118_ _ _ H118 ⟨a122, k123, l124, rfl, rfl, K125, g126, F127, R128, R129⟩
   have na122 := Nat.le_trans H112.le g126
   show Go _ _ _ _ (T118.setTop (mkF m 24 _ [.ref a122]))
   refine G.astoreN H118 (L' := #[.val (.ref p0), .val (.ref p1), .val (.ref p2), .val (.ref a122), .unset, .unset, .unset]) D72_24 (J := 25) rfl rfl rfl ?_
   refine G.aN H118 D72_25 (J := 26) rfl rfl rfl ?_
   refine G.aR H118 F127 D72_26 (J := 27) rfl ?_
   refine G.sI H118 (L' := #[.val (.ref p0), .val (.ref p1), .val (.ref p2), .val (.ref a122), .val (.int (Int32.ofNat l124.length)), .unset, .unset]) D72_27 (J := 29) rfl rfl ?_
   refine G.iC H118 D72_29 (J := 30) rfl (v := 0) rfl ?_
   refine G.sI H118 (L' := #[.val (.ref p0), .val (.ref p1), .val (.ref p2), .val (.ref a122), .val (.int (Int32.ofNat l124.length)), .val (.int 0), .unset]) D72_30 (J := 32) rfl rfl ?_
   have F130 := (Fld.keep f0 K125 nin0)
   have F131 := (Fld.keep f1 K125 nin0)
   have F132 := (Arv.keep f3 K125 nin0)
   have F133 := (Exa.keep f7 K125)
   have F134 := (Fld.keep f8 K125 nin0)
   have F135 := (Exa.keep f15 K125)
   have hb136 : Bud j1 2 27 6 240 := Bud.of cp4 (by decide) (by decide)
   have F137 := (Str.keep f17 K125 nin0 nin0)
   have N138 : a122 ≠ p3 := (Ne.symm (Nat.ne_of_lt (Nat.lt_of_lt_of_le f3.lt g126)))
   refine own_loop V p0 p1 p2 a122 p5 d2 k123 (l124.length) l124 rfl (by omega) (l124.length) (sf := []) p3 d0 j1 0 cs0 (Nat.zero_add _) (H118.less (allS (mG (i := 0) rfl) all0)) ⟨F133, F130, F134, (own_cnt (i := j0) F131 (by omega)), F132, (by omega), F135⟩ g13 g14 hb136 (by omega) F127 F137 N138 q18 (Or.inl rfl) ?_
   intro T139 h139_ b140 k141 w142 C143 S144 q145 H139 K146 g147 N148 B149 hb150
   replace B149 : Bld Z h139_ p0 b140 k141 w142 (cs0 ++ (encBs l124)) := B149
   have cp151 := Bud.cap hb150; unfold Cap at cp151; have le152 := B149.2.2.2.2.2.1
   simp only [qa, qc, qn] at le152
   show Go _ _ _ _ (T139.setTop (mkF m 32 _ []))
   refine G.iL H139 D72_32 (J := 34) rfl rfl ?_
   refine G.iL H139 D72_34 (J := 36) rfl rfl ?_
   refine G.cY H139 D72_36 (XT.ii_ge_t (own_ltF (a := l124.length) (b := l124.length) (by omega) (by omega) (by omega))) (by decide) (J := 112) rfl ?_
   have F153 := (Exa.keep F135 K146)
   have K154 : Keep h0 h139_ [p0, p3] := (Keep.trans (Keep.trans (Keep.refl h0 [p0, p3]) K125 all0) K146 (allS (Or.inl (mG (i := 0) rfl)) (allS (Or.inl (mG (i := 1) rfl)) all0)))
   have K155 : Keep h0 h118_ [] := (Keep.trans (Keep.refl h0 []) K125 all0)
   exact G.retV H139 rfl D72_112 (so := [b140]) (allS (mG (i := 0) rfl) all0) (Bud.cc hb150) (Bud.ss hb150) ⟨b140, k141, w142, rfl, rfl, K154, (own_bl (l := (cs0 ++ (encBs l124))) ⟨B149.1, B149.2.1, B149.2.2.1, B149.2.2.2.1, B149.2.2.2.2.1, (by simp only [qa, qc, qn] <;> omega), B149.2.2.2.2.2.2⟩ (by rw [R129])), g147, (own_nw2 N148 (Or.inl rfl) K155.1), cp151⟩
 ·
  rcases StrU.cut2 f12 with ⟨S156, E160⟩ | ⟨c157, F158, A159⟩
  ·
   refine G.aN H D72_0 (J := 1) rfl rfl rfl ?_
   refine G.aN H D72_1 (J := 2) rfl rfl rfl ?_
   refine G.cS H (m115 V p1 p2 p4 d1 ch0 ch1 p5 d2 h0 H.old S156.1 S156 (S156.2.2.2.2.1 _ (mG (i := 0) rfl)) f16 f17 (S156.2.2.2.2.1 _ (mG (i := 1) rfl))) (wq V 150 rfl) (wq V 151 rfl) (wd34 V) (wq V 152 rfl) [.ref p1, .ref p2] [] 0 5 (lenOf (pd_34) rfl) D72_2 all0 (by decide) ?_
   intro T161 h161_ v162 s163 H161 Q164
   rcases Q164 with ⟨c165, c166, rfl, rfl, rfl⟩ | ⟨rfl, rfl, rfl⟩
   ·
    show Go _ _ _ _ (T161.setTop (mkF m 5 _ [.int 1]))
    refine G.ifNo H161 D72_5 (J := 8) rfl (by decide) ?_
    refine G.aN H161 D72_8 (J := 9) rfl rfl rfl ?_
    refine G.aN H161 D72_9 (J := 10) rfl rfl rfl ?_
    refine G.cV H161 (m71 V p0 p1 p3 j0 d0 j1 cs0 p4 d1 ([ch0, ch1] : List Int32) h0 H161.old f0 (by omega) f1 (by omega) cp4 (by omega) f3 (by omega) (by omega) (by omega) (by simp only [qa, qc, qn] <;> omega) S156 (by simp only [qa, qc, qn] <;> omega) f7 f8 g13 g14) (wq V 154 rfl) (wq V 155 rfl) (nf_sel (wq V 157 rfl)) (wq V 157 rfl) (wq V 156 rfl) (wd38 V) (wq V 158 rfl) f7 [.ref p1] [] 0 13 (lenOf (pd_39) rfl) D72_10 (allS (mG (i := 0) rfl) all0) (by decide) ?_
    intro T167 h167_ v168 s169 H167 Q170
    rcases Q170 with ⟨a171, k172, c173, rfl, rfl, K174, g175, U176, F177, F178, F179, F180, F181, F182⟩ | ⟨c183, rfl, rfl, K184, U185, F186, F187, F188, F189, F190⟩
    ·
     simp only [qa, qc, qn] at c173
     have na171 := Nat.le_trans H161.le g175
     show Go _ _ _ _ (T167.setTop (mkF m 13 _ [.ref p0]))
     refine G.pop H167 D72_13 (J := 14) rfl rfl ?_
     refine G.go H167 D72_14 (by decide) (J := 112) rfl ?_
     have K191 : Keep h0 h167_ [p0] := (Keep.trans (Keep.refl h0 [p0]) K174 (allS (Or.inl (mG (i := 0) rfl)) all0))
     exact G.retV H167 rfl D72_112 (so := [a171]) (allS (mG (i := 0) rfl) all0) (by decide) (by decide) ⟨a171, k172, j1 + (j1 + 2), rfl, rfl, (Keep.trans (Keep.refl h0 [p0, p3]) K191 (allS (Or.inl (mG (i := 0) rfl)) all0)), (own_bl (l := ((([] : List Int32) ++ cs0) ++ ([ch0, ch1] : List Int32))) ⟨F179, F177, F180, (own_cnt (i := j0 + ([ch0, ch1] : List Int32).length) F178 (by simp only [qa, qc, qn] <;> omega)), F181, (by simp only [qa, qc, qn] <;> omega), F182⟩ (by rw [own_e2, own_k1 c165, own_k1 c166] <;> simp)), na171, (Or.inr g175), (by unfold Cap; omega)⟩
    ·
     simp only [qa, qc, qn] at c183
     show Go _ _ _ _ (T167.setTop (mkF m 13 _ [.ref p0]))
     refine G.pop H167 D72_13 (J := 14) rfl rfl ?_
     refine G.go H167 D72_14 (by decide) (J := 112) rfl ?_
     have K192 : Keep h0 h167_ [p3, p0] := (Keep.trans (Keep.refl h0 [p3, p0]) K184 (allS (Or.inl (mG (i := 0) rfl)) (allS (Or.inl (mG (i := 1) rfl)) all0)))
     have F193 := (Exa.keep f15 K184)
     exact G.retV H167 rfl D72_112 (so := [p3]) (allS (mG (i := 0) rfl) all0) (by decide) (by decide) ⟨p3, d0, j1, rfl, rfl, (Keep.trans (Keep.refl h0 [p0, p3]) K192 (allS (Or.inl (mG (i := 1) rfl)) (allS (Or.inl (mG (i := 0) rfl)) all0))), (own_bl (l := (cs0 ++ ([ch0, ch1] : List Int32))) ⟨F189, F187, F190, (own_cnt (i := j0 + ([ch0, ch1] : List Int32).length) F188 (by simp only [qa, qc, qn] <;> omega)), F186, (by simp only [qa, qc, qn] <;> omega), F193⟩ (by rw [own_e2, own_k1 c165, own_k1 c166] <;> simp)), g14, (Or.inl rfl), cp4⟩
   ·
    show Go _ _ _ _ (T161.setTop (mkF m 5 _ [.int 0]))
    refine G.ifYes H161 D72_5 (by decide) (by decide) (J := 17) rfl ?_
    refine G.aN H161 D72_17 (J := 18) rfl rfl rfl ?_
    refine G.getS H161 (wq V 226 rfl) Via.refl (Sta.ext H161.old.2 (hv3 V)) D72_18 (J := 21) rfl ?_
    intro T194 H195
    refine G.cV H195 (m120 V p1 p4 d1 ch0 ch1 h0 H195.old S156 (S156.2.2.2.2.1 _ (mG (i := 0) rfl)) (S156.2.2.2.2.1 _ (mG (i := 1) rfl)) E160) (wq V 228 rfl) (wq V 229 rfl) (nf_sel (wq V 231 rfl)) (wq V 231 rfl) (wq V 230 rfl) (wd11 V) (wq V 232 rfl) S156.1 [.ref uu1] [] 0 24 (lenOf (pd_46) rfl) D72_21 all0 (by decide) ?_
    rintro T196 h196_ _ _ H196 ⟨a200, k201, l202, rfl, rfl, K203, g204, F205, R206, R207⟩
    have na200 := Nat.le_trans H161.le g204
    show Go _ _ _ _ (T196.setTop (mkF m 24 _ [.ref a200]))
    refine G.astoreN H196 (L' := #[.val (.ref p0), .val (.ref p1), .val (.ref p2), .val (.ref a200), .unset, .unset, .unset]) D72_24 (J := 25) rfl rfl rfl ?_
    refine G.aN H196 D72_25 (J := 26) rfl rfl rfl ?_
    refine G.aR H196 F205 D72_26 (J := 27) rfl ?_
    refine G.sI H196 (L' := #[.val (.ref p0), .val (.ref p1), .val (.ref p2), .val (.ref a200), .val (.int (Int32.ofNat l202.length)), .unset, .unset]) D72_27 (J := 29) rfl rfl ?_
    refine G.iC H196 D72_29 (J := 30) rfl (v := 0) rfl ?_
    refine G.sI H196 (L' := #[.val (.ref p0), .val (.ref p1), .val (.ref p2), .val (.ref a200), .val (.int (Int32.ofNat l202.length)), .val (.int 0), .unset]) D72_30 (J := 32) rfl rfl ?_
    have F208 := (Fld.keep f0 K203 nin0)
    have F209 := (Fld.keep f1 K203 nin0)
    have F210 := (Arv.keep f3 K203 nin0)
    have F211 := (Exa.keep f7 K203)
    have F212 := (Fld.keep f8 K203 nin0)
    have F213 := (Exa.keep f15 K203)
    have hb214 : Bud j1 2 28 6 240 := Bud.of cp4 (by decide) (by decide)
    have F215 := (Str.keep f17 K203 nin0 nin0)
    have N216 : a200 ≠ p3 := (Ne.symm (Nat.ne_of_lt (Nat.lt_of_lt_of_le f3.lt g204)))
    refine own_loop V p0 p1 p2 a200 p5 d2 k201 (l202.length) l202 rfl (by omega) (l202.length) (sf := []) p3 d0 j1 0 cs0 (Nat.zero_add _) (H196.less (allS (mG (i := 0) rfl) all0)) ⟨F211, F208, F212, (own_cnt (i := j0) F209 (by omega)), F210, (by omega), F213⟩ g13 g14 hb214 (by omega) F205 F215 N216 q18 (Or.inl rfl) ?_
    intro T217 h217_ b218 k219 w220 C221 S222 q223 H217 K224 g225 N226 B227 hb228
    replace B227 : Bld Z h217_ p0 b218 k219 w220 (cs0 ++ (encBs l202)) := B227
    have cp229 := Bud.cap hb228; unfold Cap at cp229; have le230 := B227.2.2.2.2.2.1
    simp only [qa, qc, qn] at le230
    show Go _ _ _ _ (T217.setTop (mkF m 32 _ []))
    refine G.iL H217 D72_32 (J := 34) rfl rfl ?_
    refine G.iL H217 D72_34 (J := 36) rfl rfl ?_
    refine G.cY H217 D72_36 (XT.ii_ge_t (own_ltF (a := l202.length) (b := l202.length) (by omega) (by omega) (by omega))) (by decide) (J := 112) rfl ?_
    have F231 := (Exa.keep F213 K224)
    have K232 : Keep h0 h217_ [p0, p3] := (Keep.trans (Keep.trans (Keep.refl h0 [p0, p3]) K203 all0) K224 (allS (Or.inl (mG (i := 0) rfl)) (allS (Or.inl (mG (i := 1) rfl)) all0)))
    have K233 : Keep h0 h196_ [] := (Keep.trans (Keep.refl h0 []) K203 all0)
    exact G.retV H217 rfl D72_112 (so := [b218]) (allS (mG (i := 0) rfl) all0) (Bud.cc hb228) (Bud.ss hb228) ⟨b218, k219, w220, rfl, rfl, K232, (own_bl (l := (cs0 ++ (encBs l202))) ⟨B227.1, B227.2.1, B227.2.2.1, B227.2.2.2.1, B227.2.2.2.2.1, (by simp only [qa, qc, qn] <;> omega), B227.2.2.2.2.2.2⟩ (by rw [R207])), g225, (own_nw2 N226 (Or.inl rfl) K233.1), cp229⟩
  ·
   refine G.aN H D72_0 (J := 1) rfl rfl rfl ?_
   refine G.aN H D72_1 (J := 2) rfl rfl rfl ?_
   refine G.cS H (m129 V p1 p2 p4 d1 ch0 ch1 p5 d2 h0 H.old f12.1 f12.2.2.1 A159 F158 (f12.2.2.2.2.1 _ (mG (i := 0) rfl)).1 c157 f16 f17 (f12.2.2.2.2.1 _ (mG (i := 1) rfl)).1) (wq V 150 rfl) (wq V 151 rfl) (wd34 V) (wq V 152 rfl) [.ref p1, .ref p2] [] 0 5 (lenOf (pd_34) rfl) D72_2 all0 (by decide) ?_
   rintro T234 h234_ _ _ H234 ⟨rfl, rfl, rfl⟩
   show Go _ _ _ _ (T234.setTop (mkF m 5 _ [.int 0]))
   refine G.ifYes H234 D72_5 (by decide) (by decide) (J := 17) rfl ?_
   refine G.aN H234 D72_17 (J := 18) rfl rfl rfl ?_
   refine G.getS H234 (wq V 226 rfl) Via.refl (Sta.ext H234.old.2 (hv3 V)) D72_18 (J := 21) rfl ?_
   intro T238 H239
   refine G.cV H239 (m133 V p1 p4 d1 ch0 ch1 h0 H239.old f12.2.2.1 A159 f12.1 F158 (f12.2.2.2.2.1 _ (mG (i := 0) rfl)).1 (f12.2.2.2.2.1 _ (mG (i := 1) rfl)).1 (f12.2.2.2.2.1 _ (mG (i := 1) rfl)).2 (f12.2.2.2.2.1 _ (mG (i := 0) rfl)).2) (wq V 228 rfl) (wq V 229 rfl) (nf_sel (wq V 231 rfl)) (wq V 231 rfl) (wq V 230 rfl) (wd11 V) (wq V 232 rfl) f12.1 [.ref uu1] [] 0 24 (lenOf (pd_46) rfl) D72_21 all0 (by decide) ?_
   rintro T240 h240_ _ _ H240 ⟨a244, k245, l246, rfl, rfl, K247, g248, F249, R250, R251⟩
   have na244 := Nat.le_trans H234.le g248
   show Go _ _ _ _ (T240.setTop (mkF m 24 _ [.ref a244]))
   refine G.astoreN H240 (L' := #[.val (.ref p0), .val (.ref p1), .val (.ref p2), .val (.ref a244), .unset, .unset, .unset]) D72_24 (J := 25) rfl rfl rfl ?_
   refine G.aN H240 D72_25 (J := 26) rfl rfl rfl ?_
   refine G.aR H240 F249 D72_26 (J := 27) rfl ?_
   refine G.sI H240 (L' := #[.val (.ref p0), .val (.ref p1), .val (.ref p2), .val (.ref a244), .val (.int (Int32.ofNat l246.length)), .unset, .unset]) D72_27 (J := 29) rfl rfl ?_
   refine G.iC H240 D72_29 (J := 30) rfl (v := 0) rfl ?_
   refine G.sI H240 (L' := #[.val (.ref p0), .val (.ref p1), .val (.ref p2), .val (.ref a244), .val (.int (Int32.ofNat l246.length)), .val (.int 0), .unset]) D72_30 (J := 32) rfl rfl ?_
   have F252 := (Fld.keep f0 K247 nin0)
   have F253 := (Fld.keep f1 K247 nin0)
   have F254 := (Arv.keep f3 K247 nin0)
   have F255 := (Exa.keep f7 K247)
   have F256 := (Fld.keep f8 K247 nin0)
   have F257 := (Exa.keep f15 K247)
   have hb258 : Bud j1 2 30 6 240 := Bud.of cp4 (by decide) (by decide)
   have F259 := (Str.keep f17 K247 nin0 nin0)
   have N260 : a244 ≠ p3 := (Ne.symm (Nat.ne_of_lt (Nat.lt_of_lt_of_le f3.lt g248)))
   refine own_loop V p0 p1 p2 a244 p5 d2 k245 (l246.length) l246 rfl (by omega) (l246.length) (sf := []) p3 d0 j1 0 cs0 (Nat.zero_add _) (H240.less (allS (mG (i := 0) rfl) all0)) ⟨F255, F252, F256, (own_cnt (i := j0) F253 (by omega)), F254, (by omega), F257⟩ g13 g14 hb258 (by omega) F249 F259 N260 q18 (Or.inl rfl) ?_
   intro T261 h261_ b262 k263 w264 C265 S266 q267 H261 K268 g269 N270 B271 hb272
   replace B271 : Bld Z h261_ p0 b262 k263 w264 (cs0 ++ (encBs l246)) := B271
   have cp273 := Bud.cap hb272; unfold Cap at cp273; have le274 := B271.2.2.2.2.2.1
   simp only [qa, qc, qn] at le274
   show Go _ _ _ _ (T261.setTop (mkF m 32 _ []))
   refine G.iL H261 D72_32 (J := 34) rfl rfl ?_
   refine G.iL H261 D72_34 (J := 36) rfl rfl ?_
   refine G.cY H261 D72_36 (XT.ii_ge_t (own_ltF (a := l246.length) (b := l246.length) (by omega) (by omega) (by omega))) (by decide) (J := 112) rfl ?_
   have F275 := (Exa.keep F257 K268)
   have K276 : Keep h0 h261_ [p0, p3] := (Keep.trans (Keep.trans (Keep.refl h0 [p0, p3]) K247 all0) K268 (allS (Or.inl (mG (i := 0) rfl)) (allS (Or.inl (mG (i := 1) rfl)) all0)))
   have K277 : Keep h0 h240_ [] := (Keep.trans (Keep.refl h0 []) K247 all0)
   exact G.retV H261 rfl D72_112 (so := [b262]) (allS (mG (i := 0) rfl) all0) (Bud.cc hb272) (Bud.ss hb272) ⟨b262, k263, w264, rfl, rfl, K276, (own_bl (l := (cs0 ++ (encBs l246))) ⟨B271.1, B271.2.1, B271.2.2.1, B271.2.2.2.1, B271.2.2.2.2.1, (by simp only [qa, qc, qn] <;> omega), B271.2.2.2.2.2.2⟩ (by rw [R251])), g269, (own_nw2 N270 (Or.inl rfl) K277.1), cp273⟩
theorem m135 (V : Env1 Z a0 n0 uu0 uu1 uu2 uu3 uu4) (p0 : Addr) (d0 : ClassId) (p1 : Addr) (p2 : Addr) (d1 : ClassId) (cs0 : List Int32) (h0 : Heap) (hO : Old Z n0 h0) (f0 : Arv Z h0 p0 d0 (.object "java/lang/String") 1 [.ref p1] .null) (f1 : StrU Z h0 p1 p2 d1 cs0) :
  Met Z a0 ELs True n0 l ⟨"com/example/schema_to_form/schematoform/server/PathSegments", "path", "([Ljava/lang/String;)Ljava/lang/String;"⟩ Y10 6 (some (.object "java/lang/String")) ⟨9, 14, 478, 168⟩ #[.ref p0] h0 [] (fun v h so => (∃ a77 a78 : Addr, ∃ k79 : ClassId, v = some (.ref a77) ∧ so = [] ∧ Keep h0 h [] ∧ h0.size ≤ a77 ∧ Str Z h a77 a78 k79 ((([] : List Int32) ++ [47]) ++ (encS cs0)))) := by
 refine Met.of (EWl V) (by first | decide +kernel | rfl) hO (L0 := #[.val (.ref p0), .unset, .unset, .unset, .unset, .unset]) rfl ?_
 intro p e s m below meth c T H
 refine G.new H (wq V 36 rfl) (wd37 V) (wd38 V) D71_0 (J := 3) rfl (by decide) (by decide) ?_
 intro T1 h1_ a2 ga2 H1 E3 A4 D5
 have na2 := H.nle ga2
 refine G.dup H1 D71_3 (J := 4) rfl rfl ?_
 have F6 : Fld Z h1_ a2 "java/lang/AbstractStringBuilder" "value" "[B" .null := D5 (Or.inl (wd51 V)) (ty := (.array .byte)) (by decide)
 have F7 : Fld Z h1_ a2 "java/lang/AbstractStringBuilder" "coder" "B" (.int 0) := D5 (Or.inl (wd53 V)) (ty := .byte) (by decide)
 refine G.callI H1 (m49 V a2 h1_ H1.old A4 F6 na2 F7) rfl (wq V 39 rfl) (wq V 40 rfl) (wd38 V) (wq V 41 rfl) (by decide) (a := a2) (argsL := []) (rest := [.ref a2]) (W := 1) rfl rfl (lenOf (pd_26) rfl) rfl rfl D71_4 (J := 7) rfl (by decide) (by decide) (by decide) (by decide) all0 ?_
 rintro T8 h8_ _ _ H8 ⟨a12, k13, rfl, rfl, K14, g15, U16, F17, F18, F19, F20, F21⟩
 have na12 := Nat.le_trans H1.le g15
 show Go _ _ _ _ (T8.setTop (mkF m 7 _ [.ref a2]))
 refine G.astoreN H8 (L' := #[.val (.ref p0), .val (.ref a2), .unset, .unset, .unset, .unset]) D71_7 (J := 8) rfl rfl rfl ?_
 refine G.aN H8 D71_8 (J := 9) rfl rfl rfl ?_
 refine G.astoreN H8 (L' := #[.val (.ref p0), .val (.ref a2), .val (.ref p0), .unset, .unset, .unset]) D71_9 (J := 10) rfl rfl rfl ?_
 refine G.aN H8 D71_10 (J := 11) rfl rfl rfl ?_
 have K22 : Keep h0 h8_ [] := (Keep.trans (Keep.ext (Keep.refl h0 []) E3) K14 (allS (Or.inr (Nat.le_of_eq ga2.symm)) all0))
 have F23 := (Arv.keep f0 K22 nin0)
 refine G.aR H8 F23 D71_11 (J := 12) rfl ?_
 refine G.sN H8 (L' := #[.val (.ref p0), .val (.ref a2), .val (.ref p0), .val (.int 1), .unset, .unset]) D71_12 (J := 13) rfl rfl ?_
 refine G.iC H8 D71_13 (J := 14) rfl (v := 0) rfl ?_
 refine G.sI H8 (L' := #[.val (.ref p0), .val (.ref a2), .val (.ref p0), .val (.int 1), .val (.int 0), .unset]) D71_14 (J := 16) rfl rfl ?_
 refine G.iL H8 D71_16 (J := 18) rfl rfl ?_
 refine G.iN H8 D71_18 (J := 19) rfl rfl ?_
 refine G.cN H8 D71_19 (J := 22) rfl (by decide) ?_
 refine G.aN H8 D71_22 (J := 23) rfl rfl rfl ?_
 refine G.iL H8 D71_23 (J := 25) rfl rfl ?_
 refine G.aaloadG H8 F23 rfl (j := 0) (v := (.ref p1)) (by decide) rfl D71_25 (J := 26) rfl ?_
 refine G.astore H8 (L' := #[.val (.ref p0), .val (.ref a2), .val (.ref p0), .val (.int 1), .val (.int 0), .val (.ref p1)]) D71_26 (J := 28) rfl rfl rfl ?_
 refine G.aN H8 D71_28 (J := 29) rfl rfl rfl ?_
 refine G.bP H8 D71_29 (J := 31) rfl (v := 47) rfl ?_
 have F24 : Fld Z h1_ a2 "java/lang/AbstractStringBuilder" "count" "I" (.int 0) := D5 (Or.inl (wd81 V)) (ty := .int) (by decide)
 have F25 := (U16 "java/lang/AbstractStringBuilder" "count" "I" (.int 0) F24 (slot_ne (Or.inl (wd81 V)) (Or.inl (wd51 V)) (by decide) (t := .int) (t' := (.array .byte)) (by decide) (by decide)) (slot_ne (Or.inl (wd81 V)) (Or.inl (wd53 V)) (by decide) (t := .int) (t' := .byte) (by decide) (by decide)))
 refine own_appC V H8 (wd130 V) (k1 := k13) (w := 16) (X := ([] : List Int32)) (x := 47) ⟨F17, F18, F19, (own_cnt (i := 0) F25 (by simp only [qa, qc, qn] <;> omega)), F20, (by simp only [qa, qc, qn] <;> omega), F21⟩ na2 na12 (mG (i := 0) rfl) (by decide) (by simp only [qa, qc, qn] <;> omega) (Bud.of (C := 2) (S := 20) (Cm := 4) (Sm := 160) (Or.inl rfl) (by decide) (by decide)) (by decide) (by decide) (W := 0) (by decide) (by decide) (rest := []) rfl rfl D71_31 (J := 34) rfl ?_
 intro T26 h26_ b27 k28 w29 C30 S31 H26 K32 g33 N34 B35 hb36
 replace H26 := H26.mono (Bud.cc hb36) (Bud.ss hb36)
 have cp37 := Bud.cap hb36; unfold Cap at cp37; have le38 := B35.2.2.2.2.2.1
 simp only [qa, qc, qn] at le38
 show Go _ _ _ _ (T26.setTop (mkF m 34 _ [.ref a2]))
 refine G.pop H26 D71_34 (J := 35) rfl rfl ?_
 refine G.aN H26 D71_35 (J := 36) rfl rfl rfl ?_
 refine G.aL H26 D71_36 (J := 38) rfl rfl rfl ?_
 refine G.ldcS H26 trivial (wS V) (wq V 146 rfl) (by decide) (vs := []) (z := 0) (by decide) (by decide) rfl (n := 0) (by decide) (by decide) (by decide) (by decide) D71_38 (J := 40) rfl ?_
 intro T39 h39_ a40 b42 k43 H39 E41 X44 F45 F46 A47 Q48
 have S49 : Str Z h39_ a40 b42 k43 [] := ⟨X44, F45, F46, A47, by decide, by decide⟩
 have F50 := (Fld.ext E41 B35.2.1)
 have F51 := (Fld.ext E41 B35.2.2.2.1)
 have F52 := (Arv.ext B35.2.2.2.2.1 E41)
 have F53 := (Exa.ext E41 B35.1)
 have F54 := (Fld.ext E41 B35.2.2.1)
 have K55 : Keep h0 h1_ [] := (Keep.ext (Keep.refl h0 []) E3)
 have K56 : Keep h0 h39_ [] := (Keep.ext (Keep.trans K22 K32 (allS (Or.inr (Nat.le_of_eq ga2.symm)) (allS (Or.inr (Nat.le_trans K55.1 g15)) all0))) E41)
 have F57 := (StrU.keep f1 K56 nin0 nin0)
 have F58 := (Exa.ext E41 B35.2.2.2.2.2.2)
 refine G.cS H39 (m134 V a2 p1 a40 b27 ((([] : List Int32) ++ [47]).length) k28 w29 (([] : List Int32) ++ [47]) p2 d1 cs0 b42 k43 h39_ H39.old F50 (by simp only [qa, qc, qn] <;> omega) F51 (by omega) cp37 (by simp only [qa, qc, qn] <;> omega) F52 F53 F54 (by simp only [qa, qc, qn] <;> omega) (by simp only [qa, qc, qn] <;> omega) (by simp only [qa, qc, qn] <;> omega) F57 na2 g33 F58 X44 S49 (Ne.symm (Q48 _ (mG (i := 0) rfl)).2)) (wq V 147 rfl) (wq V 148 rfl) (wd34 V) (wq V 149 rfl) [.ref a2, .ref p1, .ref a40] [] 0 43 (lenOf (pd_50) rfl) D71_40 (allS (mG (i := 0) rfl) all0) (by decide) ?_
 rintro T59 h59_ _ _ H59 ⟨a63, k64, w65, rfl, rfl, K66, R67, R68, R69, R70⟩
 have le71 := R67.2.2.2.2.2.1
 simp only [qa, qc, qn] at le71
 have lb72 := own_encsl F57.2.2.2.2.2
 unfold Cap at R70
 show Go _ _ _ _ (T59.setTop (mkF m 43 _ []))
 refine G.iI H59 (v := 1) (L' := #[.val (.ref p0), .val (.ref a2), .val (.ref p0), .val (.int 1), .val (.int 1), .val (.ref p1)]) D71_43 (J := 46) rfl rfl rfl rfl ?_
 refine G.go H59 D71_46 (by decide) (J := 16) rfl ?_
 show Go _ _ _ _ (T59.setTop (mkF m 16 _ []))
 refine G.iL H59 D71_16 (J := 18) rfl rfl ?_
 refine G.iN H59 D71_18 (J := 19) rfl rfl ?_
 refine G.cY H59 D71_19 (by decide) (by decide) (J := 49) rfl ?_
 refine G.aN H59 D71_49 (J := 50) rfl rfl rfl ?_
 refine G.cV H59 (m59 V a2 a63 (((([] : List Int32) ++ [47]) ++ (encS cs0)).length) k64 w65 ((([] : List Int32) ++ [47]) ++ (encS cs0)) h59_ H59.old R67.2.1 (by simp only [qa, qc, qn] <;> omega) R67.2.2.2.1 (by omega) R70 (by simp only [qa, qc, qn] <;> omega) R67.2.2.2.2.1 R67.1 (by simp only [qa, qc, qn] <;> omega) (by simp only [qa, qc, qn] <;> omega) (by simp only [qa, qc, qn] <;> omega) R67.2.2.1 R67.2.2.2.2.2.2 (own_rapp (own_rapp cb0 (cbS (by decide) cb0)) (own_encsr _))) (wq V 54 rfl) (wq V 55 rfl) (nf_sel (wq V 57 rfl)) (wq V 57 rfl) (wq V 56 rfl) (wd38 V) (wq V 58 rfl) R67.1 [] [] 0 53 (lenOf (pd_32) rfl) D71_50 all0 (by decide) ?_
 rintro T73 h73_ _ _ H73 ⟨a77, a78, k79, rfl, rfl, K80, g81, F82⟩
 have na77 := Nat.le_trans H59.le g81
 show Go _ _ _ _ (T73.setTop (mkF m 53 _ [.ref a77]))
 have K83 : Keep h0 h73_ [] := (Keep.trans (Keep.trans K56 K66 (allS (Or.inr (Nat.le_of_eq ga2.symm)) (allS (own_nw N34 (Or.inr (Nat.le_trans K55.1 g15)) K22.1) all0))) K80 all0)
 have K84 : Keep h0 h59_ [] := (Keep.trans K56 K66 (allS (Or.inr (Nat.le_of_eq ga2.symm)) (allS (own_nw N34 (Or.inr (Nat.le_trans K55.1 g15)) K22.1) all0)))
 exact G.retA H73 (t := (.object "java/lang/String")) rfl rfl rfl D71_53 (so := []) all0 (by decide) (by decide) ⟨a77, a78, k79, rfl, rfl, K83, (Nat.le_trans K84.1 g81), F82⟩
theorem m136 (V : Env1 Z a0 n0 uu0 uu1 uu2 uu3 uu4) (p0 : Addr) (p1 : Addr) (d0 : ClassId) (cs0 : List Int32) (h0 : Heap) (hO : Old Z n0 h0) (ln0 : cs0.length ≤ 4000) (f0 : Str Z h0 p0 p1 d0 cs0) :
  Met Z a0 ELs True n0 l ⟨"java/lang/String", "isLatin1", "()Z"⟩ Y35 1 (some .boolean) ⟨0, 0, 0, 0⟩ #[.ref p0] h0 [] (fun v h so => (v = some (.int 1) ∧ so = [] ∧ h0 = h)) := by
 refine Met.of (EWl V) (by first | decide +kernel | rfl) hO (L0 := #[.val (.ref p0)]) rfl ?_
 intro p e s m below meth c T H
 refine G.getS H (wd115 V) Via.refl (Sta.ext H.old.2 (hv8 V)) D11_0 (J := 3) rfl ?_
 intro T1 H2
 refine G.ifNo H2 D11_3 (J := 6) rfl (XT.i0_eq_f (hv9 V)) ?_
 refine G.aN H2 D11_6 (J := 7) rfl rfl rfl ?_
 refine G.getF H2 (wd30 V) Via.refl f0.2.1 D11_7 (J := 10) rfl ?_
 intro T3 H4
 refine G.ifNo H4 D11_10 (J := 13) rfl (by decide) ?_
 refine G.iC H4 D11_13 (J := 14) rfl (v := 1) rfl ?_
 refine G.go H4 D11_14 (by decide) (J := 18) rfl ?_
 exact G.retN H4 (t := .boolean) rfl (by decide) D11_18 (so := []) all0 (by decide) (by decide) ⟨rfl, rfl, rfl⟩
theorem m137 (V : Env1 Z a0 n0 uu0 uu1 uu2 uu3 uu4) (j0 : Nat) (j1 : Nat) (h0 : Heap) (hO : Old Z n0 h0) (ln0 : j0 ≤ 4000) (ln1 : j1 ≤ 4000) (ln2 : j0 < j1) :
  Met Z a0 ELs True n0 l ⟨"jdk/internal/util/Preconditions", "checkIndex", "(IILjava/util/function/BiFunction;)I"⟩ Y46 3 (some .int) ⟨0, 0, 0, 0⟩ #[(.int (Int32.ofNat j0)), (.int (Int32.ofNat j1)), uu3] h0 [] (fun v h so => (v = some (.int (Int32.ofNat j0)) ∧ so = [] ∧ h0 = h)) := by
 refine Met.of (EWl V) (by first | decide +kernel | rfl) hO (L0 := #[.val (.int (Int32.ofNat j0)), .val (.int (Int32.ofNat j1)), .val uu3]) (by rcases XT.refc (hv11 V) with rfl | ⟨_, rfl⟩ <;> rfl) ?_
 intro p e s m below meth c T H
 refine G.iN H D4_0 (J := 1) rfl rfl ?_
 refine G.ifNo H D4_1 (J := 4) rfl (XT.i0_lt_f (own_ltF (a := j0) (b := 0) (by omega) (by omega) (by omega))) ?_
 refine G.iN H D4_4 (J := 5) rfl rfl ?_
 refine G.iN H D4_5 (J := 6) rfl rfl ?_
 refine G.cY H D4_6 (XT.ii_lt_t (own_ltT (a := j0) (b := j1) (by omega) (by omega) (by omega))) (by decide) (J := 16) rfl ?_
 refine G.iN H D4_16 (J := 17) rfl rfl ?_
 exact G.retI H rfl D4_17 (so := []) all0 (by decide) (by decide) ⟨rfl, rfl, rfl⟩
theorem m138 (V : Env1 Z a0 n0 uu0 uu1 uu2 uu3 uu4) (j0 : Nat) (j1 : Nat) (h0 : Heap) (hO : Old Z n0 h0) (ln0 : j0 ≤ 4000) (ln1 : j1 ≤ 4000) (ln2 : j0 < j1) :
  Met Z a0 ELs True n0 l ⟨"java/lang/String", "checkIndex", "(II)V"⟩ Y50 2 none ⟨1, 0, 0, 14⟩ #[(.int (Int32.ofNat j0)), (.int (Int32.ofNat j1))] h0 [] (fun v h so => (v = none ∧ so = [] ∧ h0 = h)) := by
 refine Met.of (EWl V) (by first | decide +kernel | rfl) hO (L0 := #[.val (.int (Int32.ofNat j0)), .val (.int (Int32.ofNat j1))]) rfl ?_
 intro p e s m below meth c T H
 refine G.iN H D12_0 (J := 1) rfl rfl ?_
 refine G.iN H D12_1 (J := 2) rfl rfl ?_
 refine G.getS H (wq V 197 rfl) Via.refl (Sta.ext H.old.2 (hv10 V)) D12_2 (J := 5) rfl ?_
 intro T1 H2
 refine G.cS H2 (m137 V j0 j1 h0 H2.old (by omega) (by omega) (by omega)) (wq V 199 rfl) (wq V 200 rfl) (wq V 198 rfl) (wq V 201 rfl) [(.int (Int32.ofNat j0)), (.int (Int32.ofNat j1)), uu3] [] 0 8 (lenOf (pd_40) rfl) D12_5 all0 (by decide) ?_
 rintro T3 h3_ _ _ H3 ⟨rfl, rfl, rfl⟩
 show Go _ _ _ _ (T3.setTop (mkF m 8 _ [(.int (Int32.ofNat j0))]))
 refine G.pop H3 D12_8 (J := 9) rfl rfl ?_
 exact G.retV H3 rfl D12_9 (so := []) all0 (by decide) (by decide) ⟨rfl, rfl, rfl⟩
theorem m139 (V : Env1 Z a0 n0 uu0 uu1 uu2 uu3 uu4) (p0 : Addr) (j0 : Nat) (cs0 : List Int32) (cs1 : List Int32) (x0 : Int32) (d0 : ClassId) (j1 : Nat) (h0 : Heap) (hO : Old Z n0 h0) (ln0 : j0 ≤ 4000) (ln1 : cs0.length ≤ 4000) (ln2 : cs1.length ≤ 4000) (ln3 : j1 ≤ 4000) (f3 : Arv Z h0 p0 d0 .byte (Int32.ofNat j1) ((cs0 ++ ([x0] ++ cs1)).map b8) (.int 0)) (ln5 : j0 = cs0.length) (ln6 : cs0.length + cs1.length ≤ 3999) (ln7 : j0 < j1) (r8 : ¬ x0 < 0 ∧ ¬ 255 < x0) :
  Met Z a0 ELs True n0 l ⟨"java/lang/StringLatin1", "charAt", "([BI)C"⟩ Y34 2 (some .char) ⟨2, 0, 0, 27⟩ #[.ref p0, (.int (Int32.ofNat j0))] h0 [] (fun v h so => (v = some (.int x0) ∧ so = [] ∧ h0 = h)) := by
 refine Met.of (EWl V) (by first | decide +kernel | rfl) hO (L0 := #[.val (.ref p0), .val (.int (Int32.ofNat j0))]) rfl ?_
 intro p e s m below meth c T H
 refine G.iN H D24_0 (J := 1) rfl rfl ?_
 refine G.aN H D24_1 (J := 2) rfl rfl rfl ?_
 refine G.aR H f3 D24_2 (J := 3) rfl ?_
 refine G.cS H (m138 V j0 j1 h0 H.old (by omega) (by omega) (by omega)) (wq V 194 rfl) (wq V 195 rfl) (wd11 V) (wq V 196 rfl) [(.int (Int32.ofNat j0)), (.int (Int32.ofNat j1))] [] 0 6 (lenOf (pd_28) rfl) D24_3 all0 (by decide) ?_
 rintro T1 h1_ _ _ H1 ⟨rfl, rfl, rfl⟩
 show Go _ _ _ _ (T1.setTop (mkF m 6 _ []))
 refine G.aN H1 D24_6 (J := 7) rfl rfl rfl ?_
 refine G.iN H1 D24_7 (J := 8) rfl rfl ?_
 refine G.baloadG H1 f3 (j := (Int32.ofNat j0)) (v := b8 x0) ⟨own_nn (a := j0) (by omega), own_ltT (a := j0) (b := j1) (by omega) (by omega) (by omega)⟩ (own_getf ((own_cl (a := j0) (by omega)).trans (by omega))) D24_8 (J := 9) rfl ?_
 show Go _ _ _ _ (T1.setTop (mkF m 9 _ [(.int (x0.toInt8.toInt32))]))
 refine G.sP H1 D24_9 (J := 12) rfl (v := 255) rfl ?_
 refine G.iand H1 D24_12 (J := 13) rfl ?_
 rw [own_b8and r8]
 refine G.i2c H1 (y := x0) D24_13 (J := 14) rfl (own_c16 (own_u16 r8)) ?_
 exact G.retN H1 (t := .char) rfl (by decide) D24_14 (so := []) all0 (by decide) (by decide) ⟨(congrArg (fun q => some (Value.int q)) (own_narC (own_u16 r8))), rfl, rfl⟩
theorem m140 (V : Env1 Z a0 n0 uu0 uu1 uu2 uu3 uu4) (p0 : Addr) (j0 : Nat) (cs0 : List Int32) (cs1 : List Int32) (x0 : Int32) (p1 : Addr) (d0 : ClassId) (h0 : Heap) (hO : Old Z n0 h0) (ln0 : j0 ≤ 4000) (f1 : Exa Z h0 p0 "java/lang/String") (ln2 : cs0.length ≤ 4000) (ln3 : cs1.length ≤ 4000) (f4 : Str Z h0 p0 p1 d0 (cs0 ++ ([x0] ++ cs1))) (ln5 : j0 = cs0.length) (ln6 : cs0.length + cs1.length ≤ 3999) (r7 : ¬ x0 < 0 ∧ ¬ 255 < x0) :
  Met Z a0 ELs True n0 l ⟨"java/lang/String", "charAt", "(I)C"⟩ Y28 2 (some .char) ⟨3, 0, 0, 40⟩ #[.ref p0, (.int (Int32.ofNat j0))] h0 [] (fun v h so => (v = some (.int x0) ∧ so = [] ∧ h0 = h)) := by
 refine Met.of (EWl V) (by first | decide +kernel | rfl) hO (L0 := #[.val (.ref p0), .val (.int (Int32.ofNat j0))]) rfl ?_
 intro p e s m below meth c T H
 refine G.aN H D19_0 (J := 1) rfl rfl rfl ?_
 refine G.cV H (m136 V p0 p1 d0 (cs0 ++ ([x0] ++ cs1)) h0 H.old (by simp only [qa, qc, qn] <;> omega) f4) (wq V 186 rfl) (wq V 187 rfl) (nf_sel (wd189 V)) (wd189 V) (wq V 188 rfl) (wd11 V) (wq V 190 rfl) f1 [] [] 0 4 (lenOf (pd_1) rfl) D19_1 all0 (by decide) ?_
 rintro T1 h1_ _ _ H1 ⟨rfl, rfl, rfl⟩
 show Go _ _ _ _ (T1.setTop (mkF m 4 _ [.int 1]))
 refine G.ifNo H1 D19_4 (J := 7) rfl (by decide) ?_
 refine G.aN H1 D19_7 (J := 8) rfl rfl rfl ?_
 refine G.getF H1 (wd29 V) Via.refl f4.2.2.1 D19_8 (J := 11) rfl ?_
 intro T5 H6
 refine G.iN H6 D19_11 (J := 12) rfl rfl ?_
 have A7 : Arv Z h0 p1 d0 .byte (Int32.ofNat ((cs0 ++ ([x0] ++ cs1)).length)) ((cs0 ++ ([x0] ++ cs1)).map b8) (.int 0) := Str.al f4
 refine G.cS H6 (m139 V p1 j0 cs0 (cs1 ) x0 d0 ((cs0 ++ ([x0] ++ cs1)).length) h0 H6.old (by omega) (by omega) (by omega) (by simp only [qa, qc, qn] <;> omega) A7 (by omega) (by omega) (by simp only [qa, qc, qn] <;> omega) r7) (wq V 191 rfl) (wq V 192 rfl) (wd121 V) (wq V 193 rfl) [.ref p1, (.int (Int32.ofNat j0))] [] 0 15 (lenOf (pd_23) rfl) D19_12 all0 (by decide) ?_
 rintro T8 h8_ _ _ H8 ⟨rfl, rfl, rfl⟩
 show Go _ _ _ _ (T8.setTop (mkF m 15 _ [.int x0]))
 exact G.retN H8 (t := .char) rfl (by decide) D19_15 (so := []) all0 (by decide) (by decide) ⟨(congrArg (fun q => some (Value.int q)) (own_narC (own_u16 r7))), rfl, rfl⟩
theorem m141 (V : Env1 Z a0 n0 uu0 uu1 uu2 uu3 uu4) (p0 : Addr) (j0 : Nat) (x0 : Int32) (cs0 : List Int32) (cs1 : List Int32) (p1 : Addr) (d0 : ClassId) (h0 : Heap) (hO : Old Z n0 h0) (ln0 : j0 ≤ 4000) (f1 : Exa Z h0 p0 "java/lang/String") (ln2 : cs0.length ≤ 4000) (ln3 : cs1.length ≤ 4000) (f4 : Str Z h0 p0 p1 d0 (cs0 ++ ([x0] ++ cs1))) (ln5 : j0 = cs0.length) (ln6 : cs0.length + cs1.length ≤ 3999) (r7 : ¬ x0 < 0 ∧ ¬ 255 < x0) :
  Met Z a0 ELs True n0 l ⟨"com/example/schema_to_form/schematoform/server/PathSegmentsPathPinLaw", "expectChar", "(Ljava/lang/String;IC)I"⟩ Y7 3 (some .int) ⟨4, 0, 0, 53⟩ #[.ref p0, (.int (Int32.ofNat j0)), .int x0] h0 [] (fun v h so => (v = some (.int (Int32.ofNat (j0 + 1))) ∧ so = [] ∧ h0 = h)) := by
 refine Met.of (EWl V) (by first | decide +kernel | rfl) hO (L0 := #[.val (.ref p0), .val (.int (Int32.ofNat j0)), .val (.int x0)]) rfl ?_
 intro p e s m below meth c T H
 refine G.iN H D66_0 (J := 1) rfl rfl ?_
 refine G.ifNo H D66_1 (J := 4) rfl (XT.i0_lt_f (own_ltF (a := j0) (b := 0) (by omega) (by omega) (by omega))) ?_
 refine G.iN H D66_4 (J := 5) rfl rfl ?_
 refine G.aN H D66_5 (J := 6) rfl rfl rfl ?_
 refine G.cV H (m62 V p0 p1 d0 (cs0 ++ ([x0] ++ cs1)) h0 H.old (by simp only [qa, qc, qn] <;> omega) f4) (wq V 105 rfl) (wd106 V) (nf_sel (wd108 V)) (wd108 V) (wd107 V) (wd11 V) (wd109 V) f1 [] [(.int (Int32.ofNat j0))] 1 9 (lenOf (pd_11) rfl) D66_6 all0 (by decide) ?_
 rintro T1 h1_ _ _ H1 ⟨rfl, rfl, rfl⟩
 show Go _ _ _ _ (T1.setTop (mkF m 9 _ [(.int (Int32.ofNat ((cs0 ++ ([x0] ++ cs1)).length))), (.int (Int32.ofNat j0))]))
 refine G.cY H1 D66_9 (XT.ii_lt_t (own_ltT (a := j0) (b := (cs0 ++ ([x0] ++ cs1)).length) (by omega) (by simp only [qa, qc, qn] <;> omega) (by simp only [qa, qc, qn] <;> omega))) (by decide) (J := 14) rfl ?_
 refine G.aN H1 D66_14 (J := 15) rfl rfl rfl ?_
 refine G.iN H1 D66_15 (J := 16) rfl rfl ?_
 have S5 : Str Z h0 p0 p1 d0 (cs0 ++ (([x0] : List Int32) ++ cs1)) := own_strl (by simp only [ra, rb, rz, rd]) f4
 refine G.cV H1 (m140 V p0 j0 cs0 (cs1 ) x0 p1 d0 h0 H1.old (by omega) f1 (by omega) (by omega) S5 (by omega) (by omega) r7) (wq V 264 rfl) (wq V 182 rfl) (nf_sel (wd184 V)) (wd184 V) (wq V 183 rfl) (wd11 V) (wq V 185 rfl) f1 [(.int (Int32.ofNat j0))] [] 0 19 (lenOf (pd_41) rfl) D66_16 all0 (by decide) ?_
 rintro T6 h6_ _ _ H6 ⟨rfl, rfl, rfl⟩
 show Go _ _ _ _ (T6.setTop (mkF m 19 _ [.int x0]))
 refine G.iN H6 D66_19 (J := 20) rfl rfl ?_
 refine G.cN H6 D66_20 (J := 23) rfl (XT.ii_ne_f rfl) ?_
 refine G.iN H6 D66_23 (J := 24) rfl rfl ?_
 refine G.iC H6 D66_24 (J := 25) rfl (v := 1) rfl ?_
 refine G.iadd H6 D66_25 (J := 26) rfl ?_
 rw [show ((Int32.ofNat j0) + 1 : Int32) = (Int32.ofNat (j0 + 1)) from own_addN j0 1]
 refine G.go H6 D66_26 (by decide) (J := 30) rfl ?_
 exact G.retI H6 rfl D66_30 (so := []) all0 (by decide) (by decide) ⟨rfl, rfl, rfl⟩
theorem m142 (V : Env1 Z a0 n0 uu0 uu1 uu2 uu3 uu4) (x0 : Int32) (h0 : Heap) (hO : Old Z n0 h0)  :
  Met Z a0 ELs True n0 l ⟨"com/example/schema_to_form/schematoform/server/PathSegmentsPathPinLaw", "unreserved", "(I)Z"⟩ Y4 1 (some .boolean) ⟨0, 0, 0, 0⟩ #[.int x0] h0 [] (fun v h so => (v = some (.int (unrB x0)) ∧ so = [] ∧ ((unrB x0) = 0 ∨ (unrB x0) = 1) ∧ h0 = h)) := by
 refine Met.of (EWl V) (by first | decide +kernel | rfl) hO (L0 := #[.val (.int x0)]) rfl ?_
 intro p e s m below meth c T H
 refine G.iN H D64_0 (J := 1) rfl rfl ?_
 refine G.bP H D64_1 (J := 3) rfl (v := 97) rfl ?_
 by_cases c1 : x0 < 97
 ·
  refine G.cY H D64_3 (XT.ii_lt_t c1) (by decide) (J := 14) rfl ?_
  refine G.iN H D64_14 (J := 15) rfl rfl ?_
  refine G.bP H D64_15 (J := 17) rfl (v := 65) rfl ?_
  by_cases c2 : x0 < 65
  ·
   refine G.cY H D64_17 (XT.ii_lt_t c2) (by decide) (J := 28) rfl ?_
   refine G.iN H D64_28 (J := 29) rfl rfl ?_
   refine G.bP H D64_29 (J := 31) rfl (v := 48) rfl ?_
   by_cases c3 : x0 < 48
   ·
    refine G.cY H D64_31 (XT.ii_lt_t c3) (by decide) (J := 42) rfl ?_
    refine G.iN H D64_42 (J := 43) rfl rfl ?_
    refine G.bP H D64_43 (J := 45) rfl (v := 45) rfl ?_
    by_cases c4 : x0 = 45
    ·
     refine G.cY H D64_45 (XT.ii_eq_t c4) (by decide) (J := 66) rfl ?_
     refine G.iC H D64_66 (J := 67) rfl (v := 1) rfl ?_
     refine G.go H D64_67 (by decide) (J := 71) rfl ?_
     exact G.retN H (t := .boolean) rfl (by decide) D64_71 (so := []) all0 (by decide) (by decide) ⟨congrArg (fun q => some (Value.int q)) (Eq.symm (own_v1 (by have h0 : x0.toInt < 97 := own_tl c1; have h1 : x0.toInt < 65 := own_tl c2; have h2 : x0.toInt < 48 := own_tl c3; have h3 : x0.toInt = 45 := own_te c4; omega))), rfl, own_unrb _, rfl⟩
    ·
     refine G.cN H D64_45 (J := 48) rfl (XT.ii_eq_f c4) ?_
     refine G.iN H D64_48 (J := 49) rfl rfl ?_
     refine G.bP H D64_49 (J := 51) rfl (v := 46) rfl ?_
     by_cases c5 : x0 = 46
     ·
      refine G.cY H D64_51 (XT.ii_eq_t c5) (by decide) (J := 66) rfl ?_
      refine G.iC H D64_66 (J := 67) rfl (v := 1) rfl ?_
      refine G.go H D64_67 (by decide) (J := 71) rfl ?_
      exact G.retN H (t := .boolean) rfl (by decide) D64_71 (so := []) all0 (by decide) (by decide) ⟨congrArg (fun q => some (Value.int q)) (Eq.symm (own_v1 (by have h0 : x0.toInt < 97 := own_tl c1; have h1 : x0.toInt < 65 := own_tl c2; have h2 : x0.toInt < 48 := own_tl c3; have h3 : ¬ x0.toInt = 45 := own_tf c4; have h4 : x0.toInt = 46 := own_te c5; omega))), rfl, own_unrb _, rfl⟩
     ·
      refine G.cN H D64_51 (J := 54) rfl (XT.ii_eq_f c5) ?_
      refine G.iN H D64_54 (J := 55) rfl rfl ?_
      refine G.bP H D64_55 (J := 57) rfl (v := 95) rfl ?_
      refine G.cN H D64_57 (J := 60) rfl (XT.ii_eq_f (own_iF c2 (by decide))) ?_
      refine G.iN H D64_60 (J := 61) rfl rfl ?_
      refine G.bP H D64_61 (J := 63) rfl (v := 126) rfl ?_
      refine G.cY H D64_63 (XT.ii_ne_t (own_iF c1 (by decide))) (by decide) (J := 70) rfl ?_
      refine G.iC H D64_70 (J := 71) rfl (v := 0) rfl ?_
      exact G.retN H (t := .boolean) rfl (by decide) D64_71 (so := []) all0 (by decide) (by decide) ⟨congrArg (fun q => some (Value.int q)) (Eq.symm (own_v0 (by have h0 : x0.toInt < 97 := own_tl c1; have h1 : x0.toInt < 65 := own_tl c2; have h2 : x0.toInt < 48 := own_tl c3; have h3 : ¬ x0.toInt = 45 := own_tf c4; have h4 : ¬ x0.toInt = 46 := own_tf c5; omega))), rfl, own_unrb _, rfl⟩
   ·
    refine G.cN H D64_31 (J := 34) rfl (XT.ii_lt_f c3) ?_
    refine G.iN H D64_34 (J := 35) rfl rfl ?_
    refine G.bP H D64_35 (J := 37) rfl (v := 57) rfl ?_
    by_cases c6 : 57 < x0
    ·
     refine G.cY H D64_37 (XT.ii_gt_t c6) (by decide) (J := 42) rfl ?_
     refine G.iN H D64_42 (J := 43) rfl rfl ?_
     refine G.bP H D64_43 (J := 45) rfl (v := 45) rfl ?_
     refine G.cN H D64_45 (J := 48) rfl (XT.ii_eq_f (own_iL c3 (by decide))) ?_
     refine G.iN H D64_48 (J := 49) rfl rfl ?_
     refine G.bP H D64_49 (J := 51) rfl (v := 46) rfl ?_
     refine G.cN H D64_51 (J := 54) rfl (XT.ii_eq_f (own_iL c3 (by decide))) ?_
     refine G.iN H D64_54 (J := 55) rfl rfl ?_
     refine G.bP H D64_55 (J := 57) rfl (v := 95) rfl ?_
     refine G.cN H D64_57 (J := 60) rfl (XT.ii_eq_f (own_iF c2 (by decide))) ?_
     refine G.iN H D64_60 (J := 61) rfl rfl ?_
     refine G.bP H D64_61 (J := 63) rfl (v := 126) rfl ?_
     refine G.cY H D64_63 (XT.ii_ne_t (own_iF c1 (by decide))) (by decide) (J := 70) rfl ?_
     refine G.iC H D64_70 (J := 71) rfl (v := 0) rfl ?_
     exact G.retN H (t := .boolean) rfl (by decide) D64_71 (so := []) all0 (by decide) (by decide) ⟨congrArg (fun q => some (Value.int q)) (Eq.symm (own_v0 (by have h0 : x0.toInt < 97 := own_tl c1; have h1 : x0.toInt < 65 := own_tl c2; have h2 : ¬ x0.toInt < 48 := own_tn c3; have h3 : 57 < x0.toInt := own_tl c6; omega))), rfl, own_unrb _, rfl⟩
    ·
     refine G.cN H D64_37 (J := 40) rfl (XT.ii_gt_f c6) ?_
     refine G.iC H D64_40 (J := 41) rfl (v := 1) rfl ?_
     exact G.retN H (t := .boolean) rfl (by decide) D64_41 (so := []) all0 (by decide) (by decide) ⟨congrArg (fun q => some (Value.int q)) (Eq.symm (own_v1 (by have h0 : x0.toInt < 97 := own_tl c1; have h1 : x0.toInt < 65 := own_tl c2; have h2 : ¬ x0.toInt < 48 := own_tn c3; have h3 : ¬ 57 < x0.toInt := own_tn c6; omega))), rfl, own_unrb _, rfl⟩
  ·
   refine G.cN H D64_17 (J := 20) rfl (XT.ii_lt_f c2) ?_
   refine G.iN H D64_20 (J := 21) rfl rfl ?_
   refine G.bP H D64_21 (J := 23) rfl (v := 90) rfl ?_
   by_cases c7 : 90 < x0
   ·
    refine G.cY H D64_23 (XT.ii_gt_t c7) (by decide) (J := 28) rfl ?_
    refine G.iN H D64_28 (J := 29) rfl rfl ?_
    refine G.bP H D64_29 (J := 31) rfl (v := 48) rfl ?_
    refine G.cN H D64_31 (J := 34) rfl (XT.ii_lt_f (own_iJ c2 (by decide))) ?_
    refine G.iN H D64_34 (J := 35) rfl rfl ?_
    refine G.bP H D64_35 (J := 37) rfl (v := 57) rfl ?_
    refine G.cY H D64_37 (XT.ii_gt_t (own_iK c2 (by decide))) (by decide) (J := 42) rfl ?_
    refine G.iN H D64_42 (J := 43) rfl rfl ?_
    refine G.bP H D64_43 (J := 45) rfl (v := 45) rfl ?_
    refine G.cN H D64_45 (J := 48) rfl (XT.ii_eq_f (own_iL c2 (by decide))) ?_
    refine G.iN H D64_48 (J := 49) rfl rfl ?_
    refine G.bP H D64_49 (J := 51) rfl (v := 46) rfl ?_
    refine G.cN H D64_51 (J := 54) rfl (XT.ii_eq_f (own_iL c2 (by decide))) ?_
    refine G.iN H D64_54 (J := 55) rfl rfl ?_
    refine G.bP H D64_55 (J := 57) rfl (v := 95) rfl ?_
    by_cases c8 : x0 = 95
    ·
     refine G.cY H D64_57 (XT.ii_eq_t c8) (by decide) (J := 66) rfl ?_
     refine G.iC H D64_66 (J := 67) rfl (v := 1) rfl ?_
     refine G.go H D64_67 (by decide) (J := 71) rfl ?_
     exact G.retN H (t := .boolean) rfl (by decide) D64_71 (so := []) all0 (by decide) (by decide) ⟨congrArg (fun q => some (Value.int q)) (Eq.symm (own_v1 (by have h0 : x0.toInt < 97 := own_tl c1; have h1 : ¬ x0.toInt < 65 := own_tn c2; have h2 : 90 < x0.toInt := own_tl c7; have h3 : x0.toInt = 95 := own_te c8; omega))), rfl, own_unrb _, rfl⟩
    ·
     refine G.cN H D64_57 (J := 60) rfl (XT.ii_eq_f c8) ?_
     refine G.iN H D64_60 (J := 61) rfl rfl ?_
     refine G.bP H D64_61 (J := 63) rfl (v := 126) rfl ?_
     refine G.cY H D64_63 (XT.ii_ne_t (own_iF c1 (by decide))) (by decide) (J := 70) rfl ?_
     refine G.iC H D64_70 (J := 71) rfl (v := 0) rfl ?_
     exact G.retN H (t := .boolean) rfl (by decide) D64_71 (so := []) all0 (by decide) (by decide) ⟨congrArg (fun q => some (Value.int q)) (Eq.symm (own_v0 (by have h0 : x0.toInt < 97 := own_tl c1; have h1 : ¬ x0.toInt < 65 := own_tn c2; have h2 : 90 < x0.toInt := own_tl c7; have h3 : ¬ x0.toInt = 95 := own_tf c8; omega))), rfl, own_unrb _, rfl⟩
   ·
    refine G.cN H D64_23 (J := 26) rfl (XT.ii_gt_f c7) ?_
    refine G.iC H D64_26 (J := 27) rfl (v := 1) rfl ?_
    exact G.retN H (t := .boolean) rfl (by decide) D64_27 (so := []) all0 (by decide) (by decide) ⟨congrArg (fun q => some (Value.int q)) (Eq.symm (own_v1 (by have h0 : x0.toInt < 97 := own_tl c1; have h1 : ¬ x0.toInt < 65 := own_tn c2; have h2 : ¬ 90 < x0.toInt := own_tn c7; omega))), rfl, own_unrb _, rfl⟩
 ·
  refine G.cN H D64_3 (J := 6) rfl (XT.ii_lt_f c1) ?_
  refine G.iN H D64_6 (J := 7) rfl rfl ?_
  refine G.bP H D64_7 (J := 9) rfl (v := 122) rfl ?_
  by_cases c9 : 122 < x0
  ·
   refine G.cY H D64_9 (XT.ii_gt_t c9) (by decide) (J := 14) rfl ?_
   refine G.iN H D64_14 (J := 15) rfl rfl ?_
   refine G.bP H D64_15 (J := 17) rfl (v := 65) rfl ?_
   refine G.cN H D64_17 (J := 20) rfl (XT.ii_lt_f (own_iJ c1 (by decide))) ?_
   refine G.iN H D64_20 (J := 21) rfl rfl ?_
   refine G.bP H D64_21 (J := 23) rfl (v := 90) rfl ?_
   refine G.cY H D64_23 (XT.ii_gt_t (own_iK c1 (by decide))) (by decide) (J := 28) rfl ?_
   refine G.iN H D64_28 (J := 29) rfl rfl ?_
   refine G.bP H D64_29 (J := 31) rfl (v := 48) rfl ?_
   refine G.cN H D64_31 (J := 34) rfl (XT.ii_lt_f (own_iJ c1 (by decide))) ?_
   refine G.iN H D64_34 (J := 35) rfl rfl ?_
   refine G.bP H D64_35 (J := 37) rfl (v := 57) rfl ?_
   refine G.cY H D64_37 (XT.ii_gt_t (own_iK c1 (by decide))) (by decide) (J := 42) rfl ?_
   refine G.iN H D64_42 (J := 43) rfl rfl ?_
   refine G.bP H D64_43 (J := 45) rfl (v := 45) rfl ?_
   refine G.cN H D64_45 (J := 48) rfl (XT.ii_eq_f (own_iL c1 (by decide))) ?_
   refine G.iN H D64_48 (J := 49) rfl rfl ?_
   refine G.bP H D64_49 (J := 51) rfl (v := 46) rfl ?_
   refine G.cN H D64_51 (J := 54) rfl (XT.ii_eq_f (own_iL c1 (by decide))) ?_
   refine G.iN H D64_54 (J := 55) rfl rfl ?_
   refine G.bP H D64_55 (J := 57) rfl (v := 95) rfl ?_
   refine G.cN H D64_57 (J := 60) rfl (XT.ii_eq_f (own_iL c1 (by decide))) ?_
   refine G.iN H D64_60 (J := 61) rfl rfl ?_
   refine G.bP H D64_61 (J := 63) rfl (v := 126) rfl ?_
   by_cases c10 : x0 = 126
   ·
    refine G.cN H D64_63 (J := 66) rfl (XT.ii_ne_f c10) ?_
    refine G.iC H D64_66 (J := 67) rfl (v := 1) rfl ?_
    refine G.go H D64_67 (by decide) (J := 71) rfl ?_
    exact G.retN H (t := .boolean) rfl (by decide) D64_71 (so := []) all0 (by decide) (by decide) ⟨congrArg (fun q => some (Value.int q)) (Eq.symm (own_v1 (by have h0 : ¬ x0.toInt < 97 := own_tn c1; have h1 : 122 < x0.toInt := own_tl c9; have h2 : x0.toInt = 126 := own_te c10; omega))), rfl, own_unrb _, rfl⟩
   ·
    refine G.cY H D64_63 (XT.ii_ne_t c10) (by decide) (J := 70) rfl ?_
    refine G.iC H D64_70 (J := 71) rfl (v := 0) rfl ?_
    exact G.retN H (t := .boolean) rfl (by decide) D64_71 (so := []) all0 (by decide) (by decide) ⟨congrArg (fun q => some (Value.int q)) (Eq.symm (own_v0 (by have h0 : ¬ x0.toInt < 97 := own_tn c1; have h1 : 122 < x0.toInt := own_tl c9; have h2 : ¬ x0.toInt = 126 := own_tf c10; omega))), rfl, own_unrb _, rfl⟩
  ·
   refine G.cN H D64_9 (J := 12) rfl (XT.ii_gt_f c9) ?_
   refine G.iC H D64_12 (J := 13) rfl (v := 1) rfl ?_
   exact G.retN H (t := .boolean) rfl (by decide) D64_13 (so := []) all0 (by decide) (by decide) ⟨congrArg (fun q => some (Value.int q)) (Eq.symm (own_v1 (by have h0 : ¬ x0.toInt < 97 := own_tn c1; have h1 : ¬ 122 < x0.toInt := own_tn c9; omega))), rfl, own_unrb _, rfl⟩
theorem m143 (V : Env1 Z a0 n0 uu0 uu1 uu2 uu3 uu4) (x0 : Int32) (h0 : Heap) (hO : Old Z n0 h0) (rh0 : ¬ x0 < 0 ∧ ¬ 15 < x0) :
  Met Z a0 ELs True n0 l ⟨"com/example/schema_to_form/schematoform/server/PathSegmentsPathPinLaw", "hexDigit", "(I)C"⟩ Y17 1 (some .char) ⟨0, 0, 0, 0⟩ #[.int x0] h0 [] (fun v h so => (v = some (.int (hexD x0)) ∧ so = [] ∧ (¬ (hexD x0) < 0 ∧ ¬ 255 < (hexD x0)) ∧ h0 = h)) := by
 refine Met.of (EWl V) (by first | decide +kernel | rfl) hO (L0 := #[.val (.int x0)]) rfl ?_
 intro p e s m below meth c T H
 refine G.iN H D65_0 (J := 1) rfl rfl ?_
 refine G.bP H D65_1 (J := 3) rfl (v := 10) rfl ?_
 by_cases c1 : x0 < 10
 ·
  refine G.cN H D65_3 (J := 6) rfl (XT.ii_ge_f c1) ?_
  refine G.bP H D65_6 (J := 8) rfl (v := 48) rfl ?_
  refine G.iN H D65_8 (J := 9) rfl rfl ?_
  refine G.iadd H D65_9 (J := 10) rfl ?_
  refine G.i2c H D65_10 (J := 11) rfl rfl ?_
  exact G.retN H (t := .char) rfl (by decide) D65_11 (so := []) all0 (by decide) (by decide) ⟨congrArg (fun q => some (Value.int q)) ((congrArg (nar .char) (own_hex0 c1 rh0)).trans (own_narC (own_u16 (own_hexr rh0)))), rfl, own_hexr rh0, rfl⟩
 ·
  refine G.cY H D65_3 (XT.ii_ge_t c1) (by decide) (J := 12) rfl ?_
  refine G.bP H D65_12 (J := 14) rfl (v := 65) rfl ?_
  refine G.iN H D65_14 (J := 15) rfl rfl ?_
  refine G.bP H D65_15 (J := 17) rfl (v := 10) rfl ?_
  refine G.isub H D65_17 (J := 18) rfl ?_
  refine G.iadd H D65_18 (J := 19) rfl ?_
  refine G.i2c H D65_19 (J := 20) rfl rfl ?_
  exact G.retN H (t := .char) rfl (by decide) D65_20 (so := []) all0 (by decide) (by decide) ⟨congrArg (fun q => some (Value.int q)) ((congrArg (nar .char) (own_hex1 c1 rh0)).trans (own_narC (own_u16 (own_hexr rh0)))), rfl, own_hexr rh0, rfl⟩
theorem m144 (V : Env1 Z a0 n0 uu0 uu1 uu2 uu3 uu4) (p0 : Addr) (j0 : Nat) (x0 : Int32) (cs0 : List Int32) (cs1 : List Int32) (p1 : Addr) (d0 : ClassId) (h0 : Heap) (hO : Old Z n0 h0) (ln0 : j0 ≤ 4000) (f1 : Exa Z h0 p0 "java/lang/String") (ln2 : cs0.length ≤ 4000) (ln3 : cs1.length ≤ 4000) (f4 : Str Z h0 p0 p1 d0 (cs0 ++ (([37, (hexD ((x0 >>> ((4 : Int32) &&& 31)) &&& 15)), (hexD (x0 &&& 15))] : List Int32) ++ cs1))) (ln5 : j0 = cs0.length) (ln6 : cs0.length + cs1.length ≤ 3997) :
  Met Z a0 ELs True n0 l ⟨"com/example/schema_to_form/schematoform/server/PathSegmentsPathPinLaw", "expectByte", "(Ljava/lang/String;II)I"⟩ Y22 4 (some .int) ⟨5, 0, 0, 67⟩ #[.ref p0, (.int (Int32.ofNat j0)), .int x0] h0 [] (fun v h so => (v = some (.int (Int32.ofNat (((j0 + 1) + 1) + 1))) ∧ so = [] ∧ h0 = h)) := by
 refine Met.of (EWl V) (by first | decide +kernel | rfl) hO (L0 := #[.val (.ref p0), .val (.int (Int32.ofNat j0)), .val (.int x0), .unset]) rfl ?_
 intro p e s m below meth c T H
 refine G.aN H D67_0 (J := 1) rfl rfl rfl ?_
 refine G.iN H D67_1 (J := 2) rfl rfl ?_
 refine G.bP H D67_2 (J := 4) rfl (v := 37) rfl ?_
 have S1 : Str Z h0 p0 p1 d0 (cs0 ++ (([37] : List Int32) ++ (([(hexD ((x0 >>> (4 &&& 31)) &&& 15)), (hexD (x0 &&& 15))] : List Int32) ++ cs1))) := own_strl (by simp only [ra, rb, rz, rd]) f4
 refine G.cS H (m141 V p0 j0 37 cs0 (([(hexD ((x0 >>> (4 &&& 31)) &&& 15)), (hexD (x0 &&& 15))] : List Int32) ++ cs1)  p1 d0 h0 H.old (by omega) f1 (by omega) (by simp only [qa, qc, qn] <;> omega) S1 (by omega) (by simp only [qa, qc, qn] <;> omega) (by decide)) (wq V 261 rfl) (wq V 262 rfl) (wd2 V) (wq V 263 rfl) [.ref p0, (.int (Int32.ofNat j0)), .int 37] [] 0 7 (lenOf (pd_51) rfl) D67_4 all0 (by decide) ?_
 rintro T2 h2_ _ _ H2 ⟨rfl, rfl, rfl⟩
 show Go _ _ _ _ (T2.setTop (mkF m 7 _ [(.int (Int32.ofNat (j0 + 1)))]))
 refine G.sN H2 (L' := #[.val (.ref p0), .val (.int (Int32.ofNat j0)), .val (.int x0), .val (.int (Int32.ofNat (j0 + 1)))]) D67_7 (J := 8) rfl rfl ?_
 refine G.aN H2 D67_8 (J := 9) rfl rfl rfl ?_
 refine G.iN H2 D67_9 (J := 10) rfl rfl ?_
 refine G.iN H2 D67_10 (J := 11) rfl rfl ?_
 refine G.iC H2 D67_11 (J := 12) rfl (v := 4) rfl ?_
 refine G.ishr H2 D67_12 (J := 13) rfl ?_
 refine G.bP H2 D67_13 (J := 15) rfl (v := 15) rfl ?_
 refine G.iand H2 D67_15 (J := 16) rfl ?_
 refine G.cS H2 (m143 V ((x0 >>> ((4 : Int32) &&& 31)) &&& 15) h0 H2.old (own_and15 _)) (wq V 271 rfl) (wq V 272 rfl) (wd2 V) (wq V 273 rfl) [(.int ((x0 >>> ((4 : Int32) &&& 31)) &&& 15))] [(.int (Int32.ofNat (j0 + 1))), .ref p0] 2 19 (lenOf (pd_41) rfl) D67_16 all0 (by decide) ?_
 rintro T6 h6_ _ _ H6 ⟨rfl, rfl, r10, rfl⟩
 show Go _ _ _ _ (T6.setTop (mkF m 19 _ [(.int (hexD ((x0 >>> ((4 : Int32) &&& 31)) &&& 15))), (.int (Int32.ofNat (j0 + 1))), .ref p0]))
 have S11 : Str Z h0 p0 p1 d0 ((cs0 ++ ([37] : List Int32)) ++ (([(hexD ((x0 >>> (4 &&& 31)) &&& 15))] : List Int32) ++ (([(hexD (x0 &&& 15))] : List Int32) ++ cs1))) := own_strl (by simp only [ra, rb, rz, rd]) S1
 refine G.cS H6 (m141 V p0 (j0 + 1) (hexD ((x0 >>> ((4 : Int32) &&& 31)) &&& 15)) (cs0 ++ ([37] : List Int32)) (([(hexD (x0 &&& 15))] : List Int32) ++ cs1)  p1 d0 h0 H6.old (by omega) f1 (by simp only [qa, qc, qn] <;> omega) (by simp only [qa, qc, qn] <;> omega) S11 (by simp only [qa, qc, qn] <;> omega) (by simp only [qa, qc, qn] <;> omega) r10) (wq V 261 rfl) (wq V 262 rfl) (wd2 V) (wq V 263 rfl) [.ref p0, (.int (Int32.ofNat (j0 + 1))), (.int (hexD ((x0 >>> ((4 : Int32) &&& 31)) &&& 15)))] [] 0 22 (lenOf (pd_51) rfl) D67_19 all0 (by decide) ?_
 rintro T12 h12_ _ _ H12 ⟨rfl, rfl, rfl⟩
 show Go _ _ _ _ (T12.setTop (mkF m 22 _ [(.int (Int32.ofNat ((j0 + 1) + 1)))]))
 refine G.sN H12 (L' := #[.val (.ref p0), .val (.int (Int32.ofNat j0)), .val (.int x0), .val (.int (Int32.ofNat ((j0 + 1) + 1)))]) D67_22 (J := 23) rfl rfl ?_
 refine G.aN H12 D67_23 (J := 24) rfl rfl rfl ?_
 refine G.iN H12 D67_24 (J := 25) rfl rfl ?_
 refine G.iN H12 D67_25 (J := 26) rfl rfl ?_
 refine G.bP H12 D67_26 (J := 28) rfl (v := 15) rfl ?_
 refine G.iand H12 D67_28 (J := 29) rfl ?_
 refine G.cS H12 (m143 V (x0 &&& 15) h0 H12.old (own_and15 _)) (wq V 271 rfl) (wq V 272 rfl) (wd2 V) (wq V 273 rfl) [(.int (x0 &&& 15))] [(.int (Int32.ofNat ((j0 + 1) + 1))), .ref p0] 2 32 (lenOf (pd_41) rfl) D67_29 all0 (by decide) ?_
 rintro T16 h16_ _ _ H16 ⟨rfl, rfl, r20, rfl⟩
 show Go _ _ _ _ (T16.setTop (mkF m 32 _ [(.int (hexD (x0 &&& 15))), (.int (Int32.ofNat ((j0 + 1) + 1))), .ref p0]))
 have S21 : Str Z h0 p0 p1 d0 ((cs0 ++ ([37, (hexD ((x0 >>> (4 &&& 31)) &&& 15))] : List Int32)) ++ (([(hexD (x0 &&& 15))] : List Int32) ++ cs1)) := own_strl (by simp only [ra, rb, rz, rd]) S11
 refine G.cS H16 (m141 V p0 ((j0 + 1) + 1) (hexD (x0 &&& 15)) (cs0 ++ ([37, (hexD ((x0 >>> (4 &&& 31)) &&& 15))] : List Int32)) (cs1 ) p1 d0 h0 H16.old (by omega) f1 (by simp only [qa, qc, qn] <;> omega) (by omega) S21 (by simp only [qa, qc, qn] <;> omega) (by simp only [qa, qc, qn] <;> omega) r20) (wq V 261 rfl) (wq V 262 rfl) (wd2 V) (wq V 263 rfl) [.ref p0, (.int (Int32.ofNat ((j0 + 1) + 1))), (.int (hexD (x0 &&& 15)))] [] 0 35 (lenOf (pd_51) rfl) D67_32 all0 (by decide) ?_
 rintro T22 h22_ _ _ H22 ⟨rfl, rfl, rfl⟩
 show Go _ _ _ _ (T22.setTop (mkF m 35 _ [(.int (Int32.ofNat (((j0 + 1) + 1) + 1)))]))
 exact G.retI H22 rfl D67_35 (so := []) all0 (by decide) (by decide) ⟨rfl, rfl, rfl⟩
theorem m145 (V : Env1 Z a0 n0 uu0 uu1 uu2 uu3 uu4) (p0 : Addr) (j0 : Nat) (x0 : Int32) (cs0 : List Int32) (cs1 : List Int32) (p1 : Addr) (d0 : ClassId) (h0 : Heap) (hO : Old Z n0 h0) (ln0 : j0 ≤ 4000) (ln1 : cs0.length ≤ 4000) (ln2 : cs1.length ≤ 4000) (f3 : Str Z h0 p0 p1 d0 (cs0 ++ ((encU x0) ++ cs1))) (ln4 : j0 = cs0.length) (ln5 : cs0.length + (encU x0).length + cs1.length ≤ 4000) :
  Met Z a0 ELs True n0 l ⟨"com/example/schema_to_form/schematoform/server/PathSegmentsPathPinLaw", "expectUnit", "(Ljava/lang/String;IC)I"⟩ Y0 5 (some .int) ⟨6, 0, 0, 82⟩ #[.ref p0, (.int (Int32.ofNat j0)), .int x0] h0 [] (fun v h so => (v = some (.int (Int32.ofNat (j0 + (encU x0).length))) ∧ so = [] ∧ h0 = h)) := by
 refine Met.of (EWl V) (by first | decide +kernel | rfl) hO (L0 := #[.val (.ref p0), .val (.int (Int32.ofNat j0)), .val (.int x0), .unset, .unset]) rfl ?_
 intro p e s m below meth c T H
 refine G.iN H D68_0 (J := 1) rfl rfl ?_
 refine G.sN H (L' := #[.val (.ref p0), .val (.int (Int32.ofNat j0)), .val (.int x0), .val (.int x0), .unset]) D68_1 (J := 2) rfl rfl ?_
 refine G.iN H D68_2 (J := 3) rfl rfl ?_
 refine G.sP H D68_3 (J := 6) rfl (v := 128) rfl ?_
 by_cases c1 : x0 < 128
 ·
  refine G.cN H D68_6 (J := 9) rfl (XT.ii_ge_f c1) ?_
  refine G.iN H D68_9 (J := 10) rfl rfl ?_
  refine G.cS H (m142 V x0 h0 H.old) (wq V 340 rfl) (wq V 341 rfl) (wd2 V) (wq V 342 rfl) [.int x0] [] 0 13 (lenOf (pd_9) rfl) D68_10 all0 (by decide) ?_
  rintro T2 h2_ _ _ H2 ⟨rfl, rfl, r6, rfl⟩
  show Go _ _ _ _ (T2.setTop (mkF m 13 _ [(.int (unrB x0))]))
  by_cases c7 : (unrB x0) = 0
  ·
   refine G.ifYes H2 D68_13 (XT.i0_eq_t c7) (by decide) (J := 23) rfl ?_
   refine G.aN H2 D68_23 (J := 24) rfl rfl rfl ?_
   refine G.iN H2 D68_24 (J := 25) rfl rfl ?_
   refine G.iN H2 D68_25 (J := 26) rfl rfl ?_
   have el8 : (encU x0).length = (pct x0).length := congrArg List.length (own_x2 c1 c7)
   simp only [qa, qc, qn, own_pctl] at el8
   have S9 : Str Z h0 p0 p1 d0 (cs0 ++ ((pct x0) ++ cs1)) := own_strl (by rw [own_x2 c1 c7] <;> simp only [ra, rb, rz, rd]) f3
   refine G.cS H2 (m144 V p0 j0 x0 cs0 (cs1 ) p1 d0 h0 H2.old (by omega) f3.1 (by omega) (by omega) S9 (by omega) (by omega)) (wq V 268 rfl) (wq V 269 rfl) (wd2 V) (wq V 270 rfl) [.ref p0, (.int (Int32.ofNat j0)), .int x0] [] 0 29 (lenOf (pd_52) rfl) D68_26 all0 (by decide) ?_
   rintro T10 h10_ _ _ H10 ⟨rfl, rfl, rfl⟩
   show Go _ _ _ _ (T10.setTop (mkF m 29 _ [(.int (Int32.ofNat (((j0 + 1) + 1) + 1)))]))
   exact G.retI H10 rfl D68_29 (so := []) all0 (by decide) (by decide) ⟨own_vn (a := ((j0 + 1) + 1) + 1) (by rw [own_x2 c1 c7]; simp only [pct, qa, qc, qn] <;> omega), rfl, rfl⟩
  ·
   refine G.ifNo H2 D68_13 (J := 16) rfl (XT.i0_eq_f c7) ?_
   refine G.aN H2 D68_16 (J := 17) rfl rfl rfl ?_
   refine G.iN H2 D68_17 (J := 18) rfl rfl ?_
   refine G.iN H2 D68_18 (J := 19) rfl rfl ?_
   have el14 : (encU x0).length = ([x0] : List Int32).length := congrArg List.length (own_x1 c1 c7)
   simp only [qa, qc, qn] at el14
   have S15 : Str Z h0 p0 p1 d0 (cs0 ++ (([x0] : List Int32) ++ cs1)) := own_strl (by rw [own_x1 c1 c7] <;> simp only [ra, rb, rz, rd]) f3
   refine G.cS H2 (m141 V p0 j0 x0 cs0 (cs1 ) p1 d0 h0 H2.old (by omega) f3.1 (by omega) (by omega) S15 (by omega) (by omega) (own_unr8 c7)) (wq V 261 rfl) (wq V 262 rfl) (wd2 V) (wq V 263 rfl) [.ref p0, (.int (Int32.ofNat j0)), .int x0] [] 0 22 (lenOf (pd_51) rfl) D68_19 all0 (by decide) ?_
   rintro T16 h16_ _ _ H16 ⟨rfl, rfl, rfl⟩
   show Go _ _ _ _ (T16.setTop (mkF m 22 _ [(.int (Int32.ofNat (j0 + 1)))]))
   exact G.retI H16 rfl D68_22 (so := []) all0 (by decide) (by decide) ⟨own_vn (a := j0 + 1) (by rw [own_x1 c1 c7]; simp only [pct, qa, qc, qn] <;> omega), rfl, rfl⟩
 ·
  refine G.cY H D68_6 (XT.ii_ge_t c1) (by decide) (J := 30) rfl ?_
  refine G.iN H D68_30 (J := 31) rfl rfl ?_
  refine G.sP H D68_31 (J := 34) rfl (v := 2048) rfl ?_
  by_cases c20 : x0 < 2048
  ·
   refine G.cN H D68_34 (J := 37) rfl (XT.ii_ge_f c20) ?_
   refine G.aN H D68_37 (J := 38) rfl rfl rfl ?_
   refine G.iN H D68_38 (J := 39) rfl rfl ?_
   refine G.sP H D68_39 (J := 42) rfl (v := 192) rfl ?_
   refine G.iN H D68_42 (J := 43) rfl rfl ?_
   refine G.bP H D68_43 (J := 45) rfl (v := 6) rfl ?_
   refine G.ishr H D68_45 (J := 46) rfl ?_
   refine G.ior H D68_46 (J := 47) rfl ?_
   have el21 : (encU x0).length = ((pct (192 ||| (x0 >>> ((6 : Int32) &&& 31)))) ++ (pct (128 ||| (x0 &&& 63)))).length := congrArg List.length (own_x3 c1 c20)
   simp only [qa, qc, qn, own_pctl] at el21
   have S22 : Str Z h0 p0 p1 d0 (cs0 ++ ((pct (192 ||| (x0 >>> ((6 : Int32) &&& 31)))) ++ ((pct (128 ||| (x0 &&& 63))) ++ cs1))) := own_strl (by rw [own_x3 c1 c20] <;> simp only [ra, rb, rz, rd]) f3
   refine G.cS H (m144 V p0 j0 (192 ||| (x0 >>> ((6 : Int32) &&& 31))) cs0 ((pct (128 ||| (x0 &&& 63))) ++ cs1)  p1 d0 h0 H.old (by omega) f3.1 (by omega) (by simp only [qa, qc, qn, own_pctl] <;> omega) S22 (by omega) (by simp only [qa, qc, qn, own_pctl] <;> omega)) (wq V 268 rfl) (wq V 269 rfl) (wd2 V) (wq V 270 rfl) [.ref p0, (.int (Int32.ofNat j0)), (.int (192 ||| (x0 >>> ((6 : Int32) &&& 31))))] [] 0 50 (lenOf (pd_52) rfl) D68_47 all0 (by decide) ?_
   rintro T23 h23_ _ _ H23 ⟨rfl, rfl, rfl⟩
   show Go _ _ _ _ (T23.setTop (mkF m 50 _ [(.int (Int32.ofNat (((j0 + 1) + 1) + 1)))]))
   refine G.sI H23 (L' := #[.val (.ref p0), .val (.int (Int32.ofNat j0)), .val (.int x0), .val (.int x0), .val (.int (Int32.ofNat (((j0 + 1) + 1) + 1)))]) D68_50 (J := 52) rfl rfl ?_
   refine G.aN H23 D68_52 (J := 53) rfl rfl rfl ?_
   refine G.iL H23 D68_53 (J := 55) rfl rfl ?_
   refine G.sP H23 D68_55 (J := 58) rfl (v := 128) rfl ?_
   refine G.iN H23 D68_58 (J := 59) rfl rfl ?_
   refine G.bP H23 D68_59 (J := 61) rfl (v := 63) rfl ?_
   refine G.iand H23 D68_61 (J := 62) rfl ?_
   refine G.ior H23 D68_62 (J := 63) rfl ?_
   have S27 : Str Z h0 p0 p1 d0 ((cs0 ++ (pct (192 ||| (x0 >>> ((6 : Int32) &&& 31))))) ++ ((pct (128 ||| (x0 &&& 63))) ++ cs1)) := own_strl (by simp only [ra, rb, rz, rd]) S22
   refine G.cS H23 (m144 V p0 (((j0 + 1) + 1) + 1) (128 ||| (x0 &&& 63)) (cs0 ++ (pct (192 ||| (x0 >>> ((6 : Int32) &&& 31))))) (cs1 ) p1 d0 h0 H23.old (by omega) f3.1 (by simp only [qa, qc, qn, own_pctl] <;> omega) (by omega) S27 (by simp only [qa, qc, qn, own_pctl] <;> omega) (by simp only [qa, qc, qn, own_pctl] <;> omega)) (wq V 268 rfl) (wq V 269 rfl) (wd2 V) (wq V 270 rfl) [.ref p0, (.int (Int32.ofNat (((j0 + 1) + 1) + 1))), (.int (128 ||| (x0 &&& 63)))] [] 0 66 (lenOf (pd_52) rfl) D68_63 all0 (by decide) ?_
   rintro T28 h28_ _ _ H28 ⟨rfl, rfl, rfl⟩
   show Go _ _ _ _ (T28.setTop (mkF m 66 _ [(.int (Int32.ofNat ((((((j0 + 1) + 1) + 1) + 1) + 1) + 1)))]))
   exact G.retI H28 rfl D68_66 (so := []) all0 (by decide) (by decide) ⟨own_vn (a := (((((j0 + 1) + 1) + 1) + 1) + 1) + 1) (by rw [own_x3 c1 c20]; simp only [pct, qa, qc, qn] <;> omega), rfl, rfl⟩
  ·
   refine G.cY H D68_34 (XT.ii_ge_t c20) (by decide) (J := 67) rfl ?_
   refine G.aN H D68_67 (J := 68) rfl rfl rfl ?_
   refine G.iN H D68_68 (J := 69) rfl rfl ?_
   refine G.sP H D68_69 (J := 72) rfl (v := 224) rfl ?_
   refine G.iN H D68_72 (J := 73) rfl rfl ?_
   refine G.bP H D68_73 (J := 75) rfl (v := 12) rfl ?_
   refine G.ishr H D68_75 (J := 76) rfl ?_
   refine G.ior H D68_76 (J := 77) rfl ?_
   have el32 : (encU x0).length = (((pct (224 ||| (x0 >>> ((12 : Int32) &&& 31)))) ++ (pct (128 ||| ((x0 >>> ((6 : Int32) &&& 31)) &&& 63)))) ++ (pct (128 ||| (x0 &&& 63)))).length := congrArg List.length (own_x4 c1 c20)
   simp only [qa, qc, qn, own_pctl] at el32
   have S33 : Str Z h0 p0 p1 d0 (cs0 ++ ((pct (224 ||| (x0 >>> ((12 : Int32) &&& 31)))) ++ (((pct (128 ||| ((x0 >>> ((6 : Int32) &&& 31)) &&& 63))) ++ (pct (128 ||| (x0 &&& 63)))) ++ cs1))) := own_strl (by rw [own_x4 c1 c20] <;> simp only [ra, rb, rz, rd]) f3
   refine G.cS H (m144 V p0 j0 (224 ||| (x0 >>> ((12 : Int32) &&& 31))) cs0 (((pct (128 ||| ((x0 >>> ((6 : Int32) &&& 31)) &&& 63))) ++ (pct (128 ||| (x0 &&& 63)))) ++ cs1)  p1 d0 h0 H.old (by omega) f3.1 (by omega) (by simp only [qa, qc, qn, own_pctl] <;> omega) S33 (by omega) (by simp only [qa, qc, qn, own_pctl] <;> omega)) (wq V 268 rfl) (wq V 269 rfl) (wd2 V) (wq V 270 rfl) [.ref p0, (.int (Int32.ofNat j0)), (.int (224 ||| (x0 >>> ((12 : Int32) &&& 31))))] [] 0 80 (lenOf (pd_52) rfl) D68_77 all0 (by decide) ?_
   rintro T34 h34_ _ _ H34 ⟨rfl, rfl, rfl⟩
   show Go _ _ _ _ (T34.setTop (mkF m 80 _ [(.int (Int32.ofNat (((j0 + 1) + 1) + 1)))]))
   refine G.sI H34 (L' := #[.val (.ref p0), .val (.int (Int32.ofNat j0)), .val (.int x0), .val (.int x0), .val (.int (Int32.ofNat (((j0 + 1) + 1) + 1)))]) D68_80 (J := 82) rfl rfl ?_
   refine G.aN H34 D68_82 (J := 83) rfl rfl rfl ?_
   refine G.iL H34 D68_83 (J := 85) rfl rfl ?_
   refine G.sP H34 D68_85 (J := 88) rfl (v := 128) rfl ?_
   refine G.iN H34 D68_88 (J := 89) rfl rfl ?_
   refine G.bP H34 D68_89 (J := 91) rfl (v := 6) rfl ?_
   refine G.ishr H34 D68_91 (J := 92) rfl ?_
   refine G.bP H34 D68_92 (J := 94) rfl (v := 63) rfl ?_
   refine G.iand H34 D68_94 (J := 95) rfl ?_
   refine G.ior H34 D68_95 (J := 96) rfl ?_
   have S38 : Str Z h0 p0 p1 d0 ((cs0 ++ (pct (224 ||| (x0 >>> ((12 : Int32) &&& 31))))) ++ ((pct (128 ||| ((x0 >>> ((6 : Int32) &&& 31)) &&& 63))) ++ ((pct (128 ||| (x0 &&& 63))) ++ cs1))) := own_strl (by simp only [ra, rb, rz, rd]) S33
   refine G.cS H34 (m144 V p0 (((j0 + 1) + 1) + 1) (128 ||| ((x0 >>> ((6 : Int32) &&& 31)) &&& 63)) (cs0 ++ (pct (224 ||| (x0 >>> ((12 : Int32) &&& 31))))) ((pct (128 ||| (x0 &&& 63))) ++ cs1)  p1 d0 h0 H34.old (by omega) f3.1 (by simp only [qa, qc, qn, own_pctl] <;> omega) (by simp only [qa, qc, qn, own_pctl] <;> omega) S38 (by simp only [qa, qc, qn, own_pctl] <;> omega) (by simp only [qa, qc, qn, own_pctl] <;> omega)) (wq V 268 rfl) (wq V 269 rfl) (wd2 V) (wq V 270 rfl) [.ref p0, (.int (Int32.ofNat (((j0 + 1) + 1) + 1))), (.int (128 ||| ((x0 >>> ((6 : Int32) &&& 31)) &&& 63)))] [] 0 99 (lenOf (pd_52) rfl) D68_96 all0 (by decide) ?_
   rintro T39 h39_ _ _ H39 ⟨rfl, rfl, rfl⟩
   show Go _ _ _ _ (T39.setTop (mkF m 99 _ [(.int (Int32.ofNat ((((((j0 + 1) + 1) + 1) + 1) + 1) + 1)))]))
   refine G.sI H39 (L' := #[.val (.ref p0), .val (.int (Int32.ofNat j0)), .val (.int x0), .val (.int x0), .val (.int (Int32.ofNat ((((((j0 + 1) + 1) + 1) + 1) + 1) + 1)))]) D68_99 (J := 101) rfl rfl ?_
   refine G.aN H39 D68_101 (J := 102) rfl rfl rfl ?_
   refine G.iL H39 D68_102 (J := 104) rfl rfl ?_
   refine G.sP H39 D68_104 (J := 107) rfl (v := 128) rfl ?_
   refine G.iN H39 D68_107 (J := 108) rfl rfl ?_
   refine G.bP H39 D68_108 (J := 110) rfl (v := 63) rfl ?_
   refine G.iand H39 D68_110 (J := 111) rfl ?_
   refine G.ior H39 D68_111 (J := 112) rfl ?_
   have S43 : Str Z h0 p0 p1 d0 (((cs0 ++ (pct (224 ||| (x0 >>> ((12 : Int32) &&& 31))))) ++ (pct (128 ||| ((x0 >>> ((6 : Int32) &&& 31)) &&& 63)))) ++ ((pct (128 ||| (x0 &&& 63))) ++ cs1)) := own_strl (by simp only [ra, rb, rz, rd]) S38
   refine G.cS H39 (m144 V p0 ((((((j0 + 1) + 1) + 1) + 1) + 1) + 1) (128 ||| (x0 &&& 63)) ((cs0 ++ (pct (224 ||| (x0 >>> ((12 : Int32) &&& 31))))) ++ (pct (128 ||| ((x0 >>> ((6 : Int32) &&& 31)) &&& 63)))) (cs1 ) p1 d0 h0 H39.old (by omega) f3.1 (by simp only [qa, qc, qn, own_pctl] <;> omega) (by omega) S43 (by simp only [qa, qc, qn, own_pctl] <;> omega) (by simp only [qa, qc, qn, own_pctl] <;> omega)) (wq V 268 rfl) (wq V 269 rfl) (wd2 V) (wq V 270 rfl) [.ref p0, (.int (Int32.ofNat ((((((j0 + 1) + 1) + 1) + 1) + 1) + 1))), (.int (128 ||| (x0 &&& 63)))] [] 0 115 (lenOf (pd_52) rfl) D68_112 all0 (by decide) ?_
   rintro T44 h44_ _ _ H44 ⟨rfl, rfl, rfl⟩
   show Go _ _ _ _ (T44.setTop (mkF m 115 _ [(.int (Int32.ofNat (((((((((j0 + 1) + 1) + 1) + 1) + 1) + 1) + 1) + 1) + 1)))]))
   exact G.retI H44 rfl D68_115 (so := []) all0 (by decide) (by decide) ⟨own_vn (a := ((((((((j0 + 1) + 1) + 1) + 1) + 1) + 1) + 1) + 1) + 1) (by rw [own_x4 c1 c20]; simp only [pct, qa, qc, qn] <;> omega), rfl, rfl⟩
theorem m146 (V : Env1 Z a0 n0 uu0 uu1 uu2 uu3 uu4) (p0 : Addr) (j0 : Nat) (x0 : Int32) (x1 : Int32) (x2 : Int32) (cs0 : List Int32) (cs1 : List Int32) (p1 : Addr) (d0 : ClassId) (h0 : Heap) (hO : Old Z n0 h0) (ln0 : j0 ≤ 4000) (ln1 : cs0.length ≤ 4000) (ln2 : cs1.length ≤ 4000) (f3 : Str Z h0 p0 p1 d0 (cs0 ++ ((([47] : List Int32) ++ (encS (segOf x0 x1 x2))) ++ cs1))) (ln4 : j0 = cs0.length) (ln5 : cs0.length + (encS (segOf x0 x1 x2)).length + cs1.length ≤ 3999) (th6 : x0 = 0 ∨ x0 = 1 ∨ x0 = 2) :
  Met Z a0 ELs True n0 l ⟨"com/example/schema_to_form/schematoform/server/PathSegmentsPathPinLaw", "expectSeg", "(Ljava/lang/String;IICC)I"⟩ Y8 6 (some .int) ⟨7, 0, 0, 98⟩ #[.ref p0, (.int (Int32.ofNat j0)), .int x0, .int x1, .int x2] h0 [] (fun v h so => (v = some (.int (Int32.ofNat (j0 + (1 + (encS (segOf x0 x1 x2)).length)))) ∧ so = [] ∧ h0 = h)) := by
 refine Met.of (EWl V) (by first | decide +kernel | rfl) hO (L0 := #[.val (.ref p0), .val (.int (Int32.ofNat j0)), .val (.int x0), .val (.int x1), .val (.int x2), .unset]) rfl ?_
 intro p e s m below meth c T H
 refine G.aN H D61_0 (J := 1) rfl rfl rfl ?_
 refine G.iN H D61_1 (J := 2) rfl rfl ?_
 refine G.bP H D61_2 (J := 4) rfl (v := 47) rfl ?_
 have S1 : Str Z h0 p0 p1 d0 (cs0 ++ (([47] : List Int32) ++ ((encS (segOf x0 x1 x2)) ++ cs1))) := own_strl (by simp only [ra, rb, rz, rd]) f3
 refine G.cS H (m141 V p0 j0 47 cs0 ((encS (segOf x0 x1 x2)) ++ cs1)  p1 d0 h0 H.old (by omega) f3.1 (by omega) (by simp only [qa, qc, qn] <;> omega) S1 (by omega) (by simp only [qa, qc, qn] <;> omega) (by decide)) (wq V 261 rfl) (wq V 262 rfl) (wd2 V) (wq V 263 rfl) [.ref p0, (.int (Int32.ofNat j0)), .int 47] [] 0 7 (lenOf (pd_51) rfl) D61_4 all0 (by decide) ?_
 rintro T2 h2_ _ _ H2 ⟨rfl, rfl, rfl⟩
 show Go _ _ _ _ (T2.setTop (mkF m 7 _ [(.int (Int32.ofNat (j0 + 1)))]))
 refine G.sI H2 (L' := #[.val (.ref p0), .val (.int (Int32.ofNat j0)), .val (.int x0), .val (.int x1), .val (.int x2), .val (.int (Int32.ofNat (j0 + 1)))]) D61_7 (J := 9) rfl rfl ?_
 refine G.iN H2 D61_9 (J := 10) rfl rfl ?_
 refine G.iC H2 D61_10 (J := 11) rfl (v := 1) rfl ?_
 by_cases c6 : x0 < 1
 ·
  refine G.cY H2 D61_11 (XT.ii_lt_t c6) (by decide) (J := 23) rfl ?_
  refine G.iN H2 D61_23 (J := 24) rfl rfl ?_
  refine G.iC H2 D61_24 (J := 25) rfl (v := 2) rfl ?_
  refine G.cY H2 D61_25 (XT.ii_lt_t (own_iC c6 (by decide))) (by decide) (J := 38) rfl ?_
  refine G.iL H2 D61_38 (J := 40) rfl rfl ?_
  exact G.retI H2 rfl D61_40 (so := []) all0 (by decide) (by decide) ⟨own_vn (a := j0 + 1) (by rw [own_y0 th6 c6]; simp only [qa, qc, qn] <;> omega), rfl, rfl⟩
 ·
  refine G.cN H2 D61_11 (J := 14) rfl (XT.ii_lt_f c6) ?_
  refine G.aN H2 D61_14 (J := 15) rfl rfl rfl ?_
  refine G.iL H2 D61_15 (J := 17) rfl rfl ?_
  refine G.iN H2 D61_17 (J := 18) rfl rfl ?_
  have el7 : (encS (segOf x0 x1 x2)).length = ((encU x1) ++ (tlS x0 x2)).length := congrArg List.length (own_y1 th6 c6)
  simp only [qa, qc, qn] at el7
  have S8 : Str Z h0 p0 p1 d0 ((cs0 ++ ([47] : List Int32)) ++ ((encU x1) ++ ((tlS x0 x2) ++ cs1))) := own_strl (by rw [own_y1 th6 c6] <;> simp only [ra, rb, rz, rd]) S1
  refine G.cS H2 (m145 V p0 (j0 + 1) x1 (cs0 ++ ([47] : List Int32)) ((tlS x0 x2) ++ cs1)  p1 d0 h0 H2.old (by omega) (by simp only [qa, qc, qn] <;> omega) (by simp only [qa, qc, qn] <;> omega) S8 (by simp only [qa, qc, qn] <;> omega) (by simp only [qa, qc, qn] <;> omega)) (wq V 265 rfl) (wq V 266 rfl) (wd2 V) (wq V 267 rfl) [.ref p0, (.int (Int32.ofNat (j0 + 1))), .int x1] [] 0 21 (lenOf (pd_51) rfl) D61_18 all0 (by decide) ?_
  rintro T9 h9_ _ _ H9 ⟨rfl, rfl, rfl⟩
  show Go _ _ _ _ (T9.setTop (mkF m 21 _ [(.int (Int32.ofNat ((j0 + 1) + (encU x1).length)))]))
  refine G.sI H9 (L' := #[.val (.ref p0), .val (.int (Int32.ofNat j0)), .val (.int x0), .val (.int x1), .val (.int x2), .val (.int (Int32.ofNat ((j0 + 1) + (encU x1).length)))]) D61_21 (J := 23) rfl rfl ?_
  refine G.iN H9 D61_23 (J := 24) rfl rfl ?_
  refine G.iC H9 D61_24 (J := 25) rfl (v := 2) rfl ?_
  by_cases c13 : x0 < 2
  ·
   refine G.cY H9 D61_25 (XT.ii_lt_t c13) (by decide) (J := 38) rfl ?_
   refine G.iL H9 D61_38 (J := 40) rfl rfl ?_
   exact G.retI H9 rfl D61_40 (so := []) all0 (by decide) (by decide) ⟨own_vn (a := (j0 + 1) + (encU x1).length) (by rw [own_y1 th6 c6, own_z0 th6 c6 c13]; simp only [qa, qc, qn] <;> omega), rfl, rfl⟩
  ·
   refine G.cN H9 D61_25 (J := 28) rfl (XT.ii_lt_f c13) ?_
   refine G.aN H9 D61_28 (J := 29) rfl rfl rfl ?_
   refine G.iL H9 D61_29 (J := 31) rfl rfl ?_
   refine G.iL H9 D61_31 (J := 33) rfl rfl ?_
   have el14 : (tlS x0 x2).length = (encU x2).length := congrArg List.length (own_z1 c13)
   have S15 : Str Z h0 p0 p1 d0 (((cs0 ++ ([47] : List Int32)) ++ (encU x1)) ++ ((encU x2) ++ cs1)) := own_strl (by rw [own_z1 c13] <;> simp only [ra, rb, rz, rd]) S8
   refine G.cS H9 (m145 V p0 ((j0 + 1) + (encU x1).length) x2 ((cs0 ++ ([47] : List Int32)) ++ (encU x1)) (cs1 ) p1 d0 h0 H9.old (by omega) (by simp only [qa, qc, qn] <;> omega) (by omega) S15 (by simp only [qa, qc, qn] <;> omega) (by simp only [qa, qc, qn] <;> omega)) (wq V 265 rfl) (wq V 266 rfl) (wd2 V) (wq V 267 rfl) [.ref p0, (.int (Int32.ofNat ((j0 + 1) + (encU x1).length))), .int x2] [] 0 36 (lenOf (pd_51) rfl) D61_33 all0 (by decide) ?_
   rintro T16 h16_ _ _ H16 ⟨rfl, rfl, rfl⟩
   show Go _ _ _ _ (T16.setTop (mkF m 36 _ [(.int (Int32.ofNat (((j0 + 1) + (encU x1).length) + (encU x2).length)))]))
   refine G.sI H16 (L' := #[.val (.ref p0), .val (.int (Int32.ofNat j0)), .val (.int x0), .val (.int x1), .val (.int x2), .val (.int (Int32.ofNat (((j0 + 1) + (encU x1).length) + (encU x2).length)))]) D61_36 (J := 38) rfl rfl ?_
   refine G.iL H16 D61_38 (J := 40) rfl rfl ?_
   exact G.retI H16 rfl D61_40 (so := []) all0 (by decide) (by decide) ⟨own_vn (a := ((j0 + 1) + (encU x1).length) + (encU x2).length) (by rw [own_y1 th6 c6, own_z1 c13]; simp only [qa, qc, qn] <;> omega), rfl, rfl⟩
theorem m147 (V : Env1 Z a0 n0 uu0 uu1 uu2 uu3 uu4) (p0 : Addr) (d0 : ClassId) (p1 : Addr) (p2 : Addr) (p3 : Addr) (d1 : ClassId) (cs0 : List Int32) (p4 : Addr) (d2 : ClassId) (cs1 : List Int32) (h0 : Heap) (hO : Old Z n0 h0) (f0 : Arv Z h0 p0 d0 (.object "java/lang/String") 2 [.ref p1, .ref p2] .null) (f1 : StrU Z h0 p1 p3 d1 cs0) (f2 : StrU Z h0 p2 p4 d2 cs1) :
  Met Z a0 ELs True n0 l ⟨"com/example/schema_to_form/schematoform/server/PathSegments", "path", "([Ljava/lang/String;)Ljava/lang/String;"⟩ Y10 6 (some (.object "java/lang/String")) ⟨9, 24, 862, 168⟩ #[.ref p0] h0 [] (fun v h so => (∃ a127 a128 : Addr, ∃ k129 : ClassId, v = some (.ref a127) ∧ so = [] ∧ Keep h0 h [] ∧ h0.size ≤ a127 ∧ Str Z h a127 a128 k129 ((((([] : List Int32) ++ [47]) ++ (encS cs0)) ++ [47]) ++ (encS cs1)))) := by
 refine Met.of (EWl V) (by first | decide +kernel | rfl) hO (L0 := #[.val (.ref p0), .unset, .unset, .unset, .unset, .unset]) rfl ?_
 intro p e s m below meth c T H
 refine G.new H (wq V 36 rfl) (wd37 V) (wd38 V) D71_0 (J := 3) rfl (by decide) (by decide) ?_
 intro T1 h1_ a2 ga2 H1 E3 A4 D5
 have na2 := H.nle ga2
 refine G.dup H1 D71_3 (J := 4) rfl rfl ?_
 have F6 : Fld Z h1_ a2 "java/lang/AbstractStringBuilder" "value" "[B" .null := D5 (Or.inl (wd51 V)) (ty := (.array .byte)) (by decide)
 have F7 : Fld Z h1_ a2 "java/lang/AbstractStringBuilder" "coder" "B" (.int 0) := D5 (Or.inl (wd53 V)) (ty := .byte) (by decide)
 refine G.callI H1 (m49 V a2 h1_ H1.old A4 F6 na2 F7) rfl (wq V 39 rfl) (wq V 40 rfl) (wd38 V) (wq V 41 rfl) (by decide) (a := a2) (argsL := []) (rest := [.ref a2]) (W := 1) rfl rfl (lenOf (pd_26) rfl) rfl rfl D71_4 (J := 7) rfl (by decide) (by decide) (by decide) (by decide) all0 ?_
 rintro T8 h8_ _ _ H8 ⟨a12, k13, rfl, rfl, K14, g15, U16, F17, F18, F19, F20, F21⟩
 have na12 := Nat.le_trans H1.le g15
 show Go _ _ _ _ (T8.setTop (mkF m 7 _ [.ref a2]))
 refine G.astoreN H8 (L' := #[.val (.ref p0), .val (.ref a2), .unset, .unset, .unset, .unset]) D71_7 (J := 8) rfl rfl rfl ?_
 refine G.aN H8 D71_8 (J := 9) rfl rfl rfl ?_
 refine G.astoreN H8 (L' := #[.val (.ref p0), .val (.ref a2), .val (.ref p0), .unset, .unset, .unset]) D71_9 (J := 10) rfl rfl rfl ?_
 refine G.aN H8 D71_10 (J := 11) rfl rfl rfl ?_
 have K22 : Keep h0 h8_ [] := (Keep.trans (Keep.ext (Keep.refl h0 []) E3) K14 (allS (Or.inr (Nat.le_of_eq ga2.symm)) all0))
 have F23 := (Arv.keep f0 K22 nin0)
 refine G.aR H8 F23 D71_11 (J := 12) rfl ?_
 refine G.sN H8 (L' := #[.val (.ref p0), .val (.ref a2), .val (.ref p0), .val (.int 2), .unset, .unset]) D71_12 (J := 13) rfl rfl ?_
 refine G.iC H8 D71_13 (J := 14) rfl (v := 0) rfl ?_
 refine G.sI H8 (L' := #[.val (.ref p0), .val (.ref a2), .val (.ref p0), .val (.int 2), .val (.int 0), .unset]) D71_14 (J := 16) rfl rfl ?_
 refine G.iL H8 D71_16 (J := 18) rfl rfl ?_
 refine G.iN H8 D71_18 (J := 19) rfl rfl ?_
 refine G.cN H8 D71_19 (J := 22) rfl (by decide) ?_
 refine G.aN H8 D71_22 (J := 23) rfl rfl rfl ?_
 refine G.iL H8 D71_23 (J := 25) rfl rfl ?_
 refine G.aaloadG H8 F23 rfl (j := 0) (v := (.ref p1)) (by decide) rfl D71_25 (J := 26) rfl ?_
 refine G.astore H8 (L' := #[.val (.ref p0), .val (.ref a2), .val (.ref p0), .val (.int 2), .val (.int 0), .val (.ref p1)]) D71_26 (J := 28) rfl rfl rfl ?_
 refine G.aN H8 D71_28 (J := 29) rfl rfl rfl ?_
 refine G.bP H8 D71_29 (J := 31) rfl (v := 47) rfl ?_
 have F24 : Fld Z h1_ a2 "java/lang/AbstractStringBuilder" "count" "I" (.int 0) := D5 (Or.inl (wd81 V)) (ty := .int) (by decide)
 have F25 := (U16 "java/lang/AbstractStringBuilder" "count" "I" (.int 0) F24 (slot_ne (Or.inl (wd81 V)) (Or.inl (wd51 V)) (by decide) (t := .int) (t' := (.array .byte)) (by decide) (by decide)) (slot_ne (Or.inl (wd81 V)) (Or.inl (wd53 V)) (by decide) (t := .int) (t' := .byte) (by decide) (by decide)))
 refine own_appC V H8 (wd130 V) (k1 := k13) (w := 16) (X := ([] : List Int32)) (x := 47) ⟨F17, F18, F19, (own_cnt (i := 0) F25 (by simp only [qa, qc, qn] <;> omega)), F20, (by simp only [qa, qc, qn] <;> omega), F21⟩ na2 na12 (mG (i := 0) rfl) (by decide) (by simp only [qa, qc, qn] <;> omega) (Bud.of (C := 2) (S := 20) (Cm := 4) (Sm := 160) (Or.inl rfl) (by decide) (by decide)) (by decide) (by decide) (W := 0) (by decide) (by decide) (rest := []) rfl rfl D71_31 (J := 34) rfl ?_
 intro T26 h26_ b27 k28 w29 C30 S31 H26 K32 g33 N34 B35 hb36
 replace H26 := H26.mono (Bud.cc hb36) (Bud.ss hb36)
 have cp37 := Bud.cap hb36; unfold Cap at cp37; have le38 := B35.2.2.2.2.2.1
 simp only [qa, qc, qn] at le38
 show Go _ _ _ _ (T26.setTop (mkF m 34 _ [.ref a2]))
 refine G.pop H26 D71_34 (J := 35) rfl rfl ?_
 refine G.aN H26 D71_35 (J := 36) rfl rfl rfl ?_
 refine G.aL H26 D71_36 (J := 38) rfl rfl rfl ?_
 refine G.ldcS H26 trivial (wS V) (wq V 146 rfl) (by decide) (vs := []) (z := 0) (by decide) (by decide) rfl (n := 0) (by decide) (by decide) (by decide) (by decide) D71_38 (J := 40) rfl ?_
 intro T39 h39_ a40 b42 k43 H39 E41 X44 F45 F46 A47 Q48
 have S49 : Str Z h39_ a40 b42 k43 [] := ⟨X44, F45, F46, A47, by decide, by decide⟩
 have F50 := (Fld.ext E41 B35.2.1)
 have F51 := (Fld.ext E41 B35.2.2.2.1)
 have F52 := (Arv.ext B35.2.2.2.2.1 E41)
 have F53 := (Exa.ext E41 B35.1)
 have F54 := (Fld.ext E41 B35.2.2.1)
 have K55 : Keep h0 h1_ [] := (Keep.ext (Keep.refl h0 []) E3)
 have K56 : Keep h0 h39_ [] := (Keep.ext (Keep.trans K22 K32 (allS (Or.inr (Nat.le_of_eq ga2.symm)) (allS (Or.inr (Nat.le_trans K55.1 g15)) all0))) E41)
 have F57 := (StrU.keep f1 K56 nin0 nin0)
 have F58 := (Exa.ext E41 B35.2.2.2.2.2.2)
 refine G.cS H39 (m134 V a2 p1 a40 b27 ((([] : List Int32) ++ [47]).length) k28 w29 (([] : List Int32) ++ [47]) p3 d1 cs0 b42 k43 h39_ H39.old F50 (by simp only [qa, qc, qn] <;> omega) F51 (by omega) cp37 (by simp only [qa, qc, qn] <;> omega) F52 F53 F54 (by simp only [qa, qc, qn] <;> omega) (by simp only [qa, qc, qn] <;> omega) (by simp only [qa, qc, qn] <;> omega) F57 na2 g33 F58 X44 S49 (Ne.symm (Q48 _ (mG (i := 0) rfl)).2)) (wq V 147 rfl) (wq V 148 rfl) (wd34 V) (wq V 149 rfl) [.ref a2, .ref p1, .ref a40] [] 0 43 (lenOf (pd_50) rfl) D71_40 (allS (mG (i := 0) rfl) all0) (by decide) ?_
 rintro T59 h59_ _ _ H59 ⟨a63, k64, w65, rfl, rfl, K66, R67, R68, R69, R70⟩
 have le71 := R67.2.2.2.2.2.1
 simp only [qa, qc, qn] at le71
 have lb72 := own_encsl F57.2.2.2.2.2
 unfold Cap at R70
 show Go _ _ _ _ (T59.setTop (mkF m 43 _ []))
 refine G.iI H59 (v := 1) (L' := #[.val (.ref p0), .val (.ref a2), .val (.ref p0), .val (.int 2), .val (.int 1), .val (.ref p1)]) D71_43 (J := 46) rfl rfl rfl rfl ?_
 refine G.go H59 D71_46 (by decide) (J := 16) rfl ?_
 show Go _ _ _ _ (T59.setTop (mkF m 16 _ []))
 refine G.iL H59 D71_16 (J := 18) rfl rfl ?_
 refine G.iN H59 D71_18 (J := 19) rfl rfl ?_
 refine G.cN H59 D71_19 (J := 22) rfl (by decide) ?_
 refine G.aN H59 D71_22 (J := 23) rfl rfl rfl ?_
 refine G.iL H59 D71_23 (J := 25) rfl rfl ?_
 have K73 : Keep h8_ h59_ [a2, a12] := (Keep.trans (Keep.ext (Keep.trans (Keep.refl h8_ [a2, a12]) K32 (allS (Or.inl (mG (i := 0) rfl)) (allS (Or.inl (mG (i := 1) rfl)) all0))) E41) K66 (allS (Or.inl (mG (i := 0) rfl)) (allS (own_nw N34 (Or.inl (mG (i := 1) rfl)) (Nat.le_refl _)) all0)))
 have N74 : p0 ≠ a12 := (Nat.ne_of_lt (Nat.lt_of_lt_of_le (Nat.lt_of_lt_of_le f0.lt K55.1) g15))
 have N75 : p0 ≠ a2 := (Nat.ne_of_lt (Nat.lt_of_lt_of_le f0.lt (Nat.le_of_eq ga2.symm)))
 have F76 := (Arv.keep F23 K73 (ninS N75 (ninS N74 nin0)))
 refine G.aaloadG H59 F76 rfl (j := 1) (v := (.ref p2)) (by decide) rfl D71_25 (J := 26) rfl ?_
 refine G.astore H59 (L' := #[.val (.ref p0), .val (.ref a2), .val (.ref p0), .val (.int 2), .val (.int 1), .val (.ref p2)]) D71_26 (J := 28) rfl rfl rfl ?_
 refine G.aN H59 D71_28 (J := 29) rfl rfl rfl ?_
 refine G.bP H59 D71_29 (J := 31) rfl (v := 47) rfl ?_
 refine own_appC V H59 (wd130 V) (k1 := k64) (w := w65) (X := ((([] : List Int32) ++ [47]) ++ (encS cs0))) (x := 47) ⟨R67.1, R67.2.1, R67.2.2.1, R67.2.2.2.1, R67.2.2.2.2.1, (by simp only [qa, qc, qn] <;> omega), R67.2.2.2.2.2.2⟩ na2 R68 (mG (i := 0) rfl) (by decide) (by simp only [qa, qc, qn] <;> omega) (Bud.of (C := 12) (S := 404) (Cm := 14) (Sm := 544) R70 (by decide) (by decide)) (by decide) (by decide) (W := 0) (by decide) (by decide) (rest := []) rfl rfl D71_31 (J := 34) rfl ?_
 intro T77 h77_ b78 k79 w80 C81 S82 H77 K83 g84 N85 B86 hb87
 replace H77 := H77.mono (Bud.cc hb87) (Bud.ss hb87)
 have cp88 := Bud.cap hb87; unfold Cap at cp88; have le89 := B86.2.2.2.2.2.1
 simp only [qa, qc, qn] at le89
 show Go _ _ _ _ (T77.setTop (mkF m 34 _ [.ref a2]))
 refine G.pop H77 D71_34 (J := 35) rfl rfl ?_
 refine G.aN H77 D71_35 (J := 36) rfl rfl rfl ?_
 refine G.aL H77 D71_36 (J := 38) rfl rfl rfl ?_
 refine G.ldcS H77 trivial (wS V) (wq V 146 rfl) (by decide) (vs := []) (z := 0) (by decide) (by decide) rfl (n := 0) (by decide) (by decide) (by decide) (by decide) D71_38 (J := 40) rfl ?_
 intro T90 h90_ a91 b93 k94 H90 E92 X95 F96 F97 A98 Q99
 have S100 : Str Z h90_ a91 b93 k94 [] := ⟨X95, F96, F97, A98, by decide, by decide⟩
 have F101 := (Fld.ext E92 B86.2.1)
 have F102 := (Fld.ext E92 B86.2.2.2.1)
 have F103 := (Arv.ext B86.2.2.2.2.1 E92)
 have F104 := (Exa.ext E92 B86.1)
 have F105 := (Fld.ext E92 B86.2.2.1)
 have K106 : Keep h0 h90_ [] := (Keep.ext (Keep.trans (Keep.trans K56 K66 (allS (Or.inr (Nat.le_of_eq ga2.symm)) (allS (own_nw N34 (Or.inr (Nat.le_trans K55.1 g15)) K22.1) all0))) K83 (allS (Or.inr (Nat.le_of_eq ga2.symm)) (allS (own_nw R69 (own_nw N34 (Or.inr (Nat.le_trans K55.1 g15)) K22.1) K56.1) all0))) E92)
 have F107 := (StrU.keep f2 K106 nin0 nin0)
 have F108 := (Exa.ext E92 B86.2.2.2.2.2.2)
 refine G.cS H90 (m134 V a2 p2 a91 b78 ((((([] : List Int32) ++ [47]) ++ (encS cs0)) ++ [47]).length) k79 w80 (((([] : List Int32) ++ [47]) ++ (encS cs0)) ++ [47]) p4 d2 cs1 b93 k94 h90_ H90.old F101 (by simp only [qa, qc, qn] <;> omega) F102 (by omega) cp88 (by simp only [qa, qc, qn] <;> omega) F103 F104 F105 (by simp only [qa, qc, qn] <;> omega) (by simp only [qa, qc, qn] <;> omega) (by simp only [qa, qc, qn] <;> omega) F107 na2 g84 F108 X95 S100 (Ne.symm (Q99 _ (mG (i := 0) rfl)).2)) (wq V 147 rfl) (wq V 148 rfl) (wd34 V) (wq V 149 rfl) [.ref a2, .ref p2, .ref a91] [] 0 43 (lenOf (pd_50) rfl) D71_40 (allS (mG (i := 0) rfl) all0) (by decide) ?_
 rintro T109 h109_ _ _ H109 ⟨a113, k114, w115, rfl, rfl, K116, R117, R118, R119, R120⟩
 have le121 := R117.2.2.2.2.2.1
 simp only [qa, qc, qn] at le121
 have lb122 := own_encsl F107.2.2.2.2.2
 unfold Cap at R120
 show Go _ _ _ _ (T109.setTop (mkF m 43 _ []))
 refine G.iI H109 (v := 2) (L' := #[.val (.ref p0), .val (.ref a2), .val (.ref p0), .val (.int 2), .val (.int 2), .val (.ref p2)]) D71_43 (J := 46) rfl rfl rfl rfl ?_
 refine G.go H109 D71_46 (by decide) (J := 16) rfl ?_
 show Go _ _ _ _ (T109.setTop (mkF m 16 _ []))
 refine G.iL H109 D71_16 (J := 18) rfl rfl ?_
 refine G.iN H109 D71_18 (J := 19) rfl rfl ?_
 refine G.cY H109 D71_19 (by decide) (by decide) (J := 49) rfl ?_
 refine G.aN H109 D71_49 (J := 50) rfl rfl rfl ?_
 refine G.cV H109 (m59 V a2 a113 (((((([] : List Int32) ++ [47]) ++ (encS cs0)) ++ [47]) ++ (encS cs1)).length) k114 w115 ((((([] : List Int32) ++ [47]) ++ (encS cs0)) ++ [47]) ++ (encS cs1)) h109_ H109.old R117.2.1 (by simp only [qa, qc, qn] <;> omega) R117.2.2.2.1 (by omega) R120 (by simp only [qa, qc, qn] <;> omega) R117.2.2.2.2.1 R117.1 (by simp only [qa, qc, qn] <;> omega) (by simp only [qa, qc, qn] <;> omega) (by simp only [qa, qc, qn] <;> omega) R117.2.2.1 R117.2.2.2.2.2.2 (own_rapp (own_rapp (own_rapp (own_rapp cb0 (cbS (by decide) cb0)) (own_encsr _)) (cbS (by decide) cb0)) (own_encsr _))) (wq V 54 rfl) (wq V 55 rfl) (nf_sel (wq V 57 rfl)) (wq V 57 rfl) (wq V 56 rfl) (wd38 V) (wq V 58 rfl) R117.1 [] [] 0 53 (lenOf (pd_32) rfl) D71_50 all0 (by decide) ?_
 rintro T123 h123_ _ _ H123 ⟨a127, a128, k129, rfl, rfl, K130, g131, F132⟩
 have na127 := Nat.le_trans H109.le g131
 show Go _ _ _ _ (T123.setTop (mkF m 53 _ [.ref a127]))
 have K133 : Keep h0 h59_ [] := (Keep.trans K56 K66 (allS (Or.inr (Nat.le_of_eq ga2.symm)) (allS (own_nw N34 (Or.inr (Nat.le_trans K55.1 g15)) K22.1) all0)))
 have K134 : Keep h0 h123_ [] := (Keep.trans (Keep.trans K106 K116 (allS (Or.inr (Nat.le_of_eq ga2.symm)) (allS (own_nw N85 (own_nw R69 (own_nw N34 (Or.inr (Nat.le_trans K55.1 g15)) K22.1) K56.1) K133.1) all0))) K130 all0)
 have K135 : Keep h0 h109_ [] := (Keep.trans K106 K116 (allS (Or.inr (Nat.le_of_eq ga2.symm)) (allS (own_nw N85 (own_nw R69 (own_nw N34 (Or.inr (Nat.le_trans K55.1 g15)) K22.1) K56.1) K133.1) all0)))
 exact G.retA H123 (t := (.object "java/lang/String")) rfl rfl rfl D71_53 (so := []) all0 (by decide) (by decide) ⟨a127, a128, k129, rfl, rfl, K134, (Nat.le_trans K135.1 g131), F132⟩
theorem m148 (V : Env1 Z a0 n0 uu0 uu1 uu2 uu3 uu4) (p0 : Addr) (d0 : ClassId) (p1 : Addr) (p2 : Addr) (p3 : Addr) (p4 : Addr) (d1 : ClassId) (cs0 : List Int32) (p5 : Addr) (d2 : ClassId) (cs1 : List Int32) (p6 : Addr) (d3 : ClassId) (cs2 : List Int32) (h0 : Heap) (hO : Old Z n0 h0) (f0 : Arv Z h0 p0 d0 (.object "java/lang/String") 3 [.ref p1, .ref p2, .ref p3] .null) (f1 : StrU Z h0 p1 p4 d1 cs0) (f2 : StrU Z h0 p2 p5 d2 cs1) (f3 : StrU Z h0 p3 p6 d3 cs2) :
  Met Z a0 ELs True n0 l ⟨"com/example/schema_to_form/schematoform/server/PathSegments", "path", "([Ljava/lang/String;)Ljava/lang/String;"⟩ Y10 6 (some (.object "java/lang/String")) ⟨9, 34, 1246, 168⟩ #[.ref p0] h0 [] (fun v h so => (∃ a178 a179 : Addr, ∃ k180 : ClassId, v = some (.ref a178) ∧ so = [] ∧ Keep h0 h [] ∧ h0.size ≤ a178 ∧ Str Z h a178 a179 k180 ((((((([] : List Int32) ++ [47]) ++ (encS cs0)) ++ [47]) ++ (encS cs1)) ++ [47]) ++ (encS cs2)))) := by
 refine Met.of (EWl V) (by first | decide +kernel | rfl) hO (L0 := #[.val (.ref p0), .unset, .unset, .unset, .unset, .unset]) rfl ?_
 intro p e s m below meth c T H
 refine G.new H (wq V 36 rfl) (wd37 V) (wd38 V) D71_0 (J := 3) rfl (by decide) (by decide) ?_
 intro T1 h1_ a2 ga2 H1 E3 A4 D5
 have na2 := H.nle ga2
 refine G.dup H1 D71_3 (J := 4) rfl rfl ?_
 have F6 : Fld Z h1_ a2 "java/lang/AbstractStringBuilder" "value" "[B" .null := D5 (Or.inl (wd51 V)) (ty := (.array .byte)) (by decide)
 have F7 : Fld Z h1_ a2 "java/lang/AbstractStringBuilder" "coder" "B" (.int 0) := D5 (Or.inl (wd53 V)) (ty := .byte) (by decide)
 refine G.callI H1 (m49 V a2 h1_ H1.old A4 F6 na2 F7) rfl (wq V 39 rfl) (wq V 40 rfl) (wd38 V) (wq V 41 rfl) (by decide) (a := a2) (argsL := []) (rest := [.ref a2]) (W := 1) rfl rfl (lenOf (pd_26) rfl) rfl rfl D71_4 (J := 7) rfl (by decide) (by decide) (by decide) (by decide) all0 ?_
 rintro T8 h8_ _ _ H8 ⟨a12, k13, rfl, rfl, K14, g15, U16, F17, F18, F19, F20, F21⟩
 have na12 := Nat.le_trans H1.le g15
 show Go _ _ _ _ (T8.setTop (mkF m 7 _ [.ref a2]))
 refine G.astoreN H8 (L' := #[.val (.ref p0), .val (.ref a2), .unset, .unset, .unset, .unset]) D71_7 (J := 8) rfl rfl rfl ?_
 refine G.aN H8 D71_8 (J := 9) rfl rfl rfl ?_
 refine G.astoreN H8 (L' := #[.val (.ref p0), .val (.ref a2), .val (.ref p0), .unset, .unset, .unset]) D71_9 (J := 10) rfl rfl rfl ?_
 refine G.aN H8 D71_10 (J := 11) rfl rfl rfl ?_
 have K22 : Keep h0 h8_ [] := (Keep.trans (Keep.ext (Keep.refl h0 []) E3) K14 (allS (Or.inr (Nat.le_of_eq ga2.symm)) all0))
 have F23 := (Arv.keep f0 K22 nin0)
 refine G.aR H8 F23 D71_11 (J := 12) rfl ?_
 refine G.sN H8 (L' := #[.val (.ref p0), .val (.ref a2), .val (.ref p0), .val (.int 3), .unset, .unset]) D71_12 (J := 13) rfl rfl ?_
 refine G.iC H8 D71_13 (J := 14) rfl (v := 0) rfl ?_
 refine G.sI H8 (L' := #[.val (.ref p0), .val (.ref a2), .val (.ref p0), .val (.int 3), .val (.int 0), .unset]) D71_14 (J := 16) rfl rfl ?_
 refine G.iL H8 D71_16 (J := 18) rfl rfl ?_
 refine G.iN H8 D71_18 (J := 19) rfl rfl ?_
 refine G.cN H8 D71_19 (J := 22) rfl (by decide) ?_
 refine G.aN H8 D71_22 (J := 23) rfl rfl rfl ?_
 refine G.iL H8 D71_23 (J := 25) rfl rfl ?_
 refine G.aaloadG H8 F23 rfl (j := 0) (v := (.ref p1)) (by decide) rfl D71_25 (J := 26) rfl ?_
 refine G.astore H8 (L' := #[.val (.ref p0), .val (.ref a2), .val (.ref p0), .val (.int 3), .val (.int 0), .val (.ref p1)]) D71_26 (J := 28) rfl rfl rfl ?_
 refine G.aN H8 D71_28 (J := 29) rfl rfl rfl ?_
 refine G.bP H8 D71_29 (J := 31) rfl (v := 47) rfl ?_
 have F24 : Fld Z h1_ a2 "java/lang/AbstractStringBuilder" "count" "I" (.int 0) := D5 (Or.inl (wd81 V)) (ty := .int) (by decide)
 have F25 := (U16 "java/lang/AbstractStringBuilder" "count" "I" (.int 0) F24 (slot_ne (Or.inl (wd81 V)) (Or.inl (wd51 V)) (by decide) (t := .int) (t' := (.array .byte)) (by decide) (by decide)) (slot_ne (Or.inl (wd81 V)) (Or.inl (wd53 V)) (by decide) (t := .int) (t' := .byte) (by decide) (by decide)))
 refine own_appC V H8 (wd130 V) (k1 := k13) (w := 16) (X := ([] : List Int32)) (x := 47) ⟨F17, F18, F19, (own_cnt (i := 0) F25 (by simp only [qa, qc, qn] <;> omega)), F20, (by simp only [qa, qc, qn] <;> omega), F21⟩ na2 na12 (mG (i := 0) rfl) (by decide) (by simp only [qa, qc, qn] <;> omega) (Bud.of (C := 2) (S := 20) (Cm := 4) (Sm := 160) (Or.inl rfl) (by decide) (by decide)) (by decide) (by decide) (W := 0) (by decide) (by decide) (rest := []) rfl rfl D71_31 (J := 34) rfl ?_
 intro T26 h26_ b27 k28 w29 C30 S31 H26 K32 g33 N34 B35 hb36
 replace H26 := H26.mono (Bud.cc hb36) (Bud.ss hb36)
 have cp37 := Bud.cap hb36; unfold Cap at cp37; have le38 := B35.2.2.2.2.2.1
 simp only [qa, qc, qn] at le38
 show Go _ _ _ _ (T26.setTop (mkF m 34 _ [.ref a2]))
 refine G.pop H26 D71_34 (J := 35) rfl rfl ?_
 refine G.aN H26 D71_35 (J := 36) rfl rfl rfl ?_
 refine G.aL H26 D71_36 (J := 38) rfl rfl rfl ?_
 refine G.ldcS H26 trivial (wS V) (wq V 146 rfl) (by decide) (vs := []) (z := 0) (by decide) (by decide) rfl (n := 0) (by decide) (by decide) (by decide) (by decide) D71_38 (J := 40) rfl ?_
 intro T39 h39_ a40 b42 k43 H39 E41 X44 F45 F46 A47 Q48
 have S49 : Str Z h39_ a40 b42 k43 [] := ⟨X44, F45, F46, A47, by decide, by decide⟩
 have F50 := (Fld.ext E41 B35.2.1)
 have F51 := (Fld.ext E41 B35.2.2.2.1)
 have F52 := (Arv.ext B35.2.2.2.2.1 E41)
 have F53 := (Exa.ext E41 B35.1)
 have F54 := (Fld.ext E41 B35.2.2.1)
 have K55 : Keep h0 h1_ [] := (Keep.ext (Keep.refl h0 []) E3)
 have K56 : Keep h0 h39_ [] := (Keep.ext (Keep.trans K22 K32 (allS (Or.inr (Nat.le_of_eq ga2.symm)) (allS (Or.inr (Nat.le_trans K55.1 g15)) all0))) E41)
 have F57 := (StrU.keep f1 K56 nin0 nin0)
 have F58 := (Exa.ext E41 B35.2.2.2.2.2.2)
 refine G.cS H39 (m134 V a2 p1 a40 b27 ((([] : List Int32) ++ [47]).length) k28 w29 (([] : List Int32) ++ [47]) p4 d1 cs0 b42 k43 h39_ H39.old F50 (by simp only [qa, qc, qn] <;> omega) F51 (by omega) cp37 (by simp only [qa, qc, qn] <;> omega) F52 F53 F54 (by simp only [qa, qc, qn] <;> omega) (by simp only [qa, qc, qn] <;> omega) (by simp only [qa, qc, qn] <;> omega) F57 na2 g33 F58 X44 S49 (Ne.symm (Q48 _ (mG (i := 0) rfl)).2)) (wq V 147 rfl) (wq V 148 rfl) (wd34 V) (wq V 149 rfl) [.ref a2, .ref p1, .ref a40] [] 0 43 (lenOf (pd_50) rfl) D71_40 (allS (mG (i := 0) rfl) all0) (by decide) ?_
 rintro T59 h59_ _ _ H59 ⟨a63, k64, w65, rfl, rfl, K66, R67, R68, R69, R70⟩
 have le71 := R67.2.2.2.2.2.1
 simp only [qa, qc, qn] at le71
 have lb72 := own_encsl F57.2.2.2.2.2
 unfold Cap at R70
 show Go _ _ _ _ (T59.setTop (mkF m 43 _ []))
 refine G.iI H59 (v := 1) (L' := #[.val (.ref p0), .val (.ref a2), .val (.ref p0), .val (.int 3), .val (.int 1), .val (.ref p1)]) D71_43 (J := 46) rfl rfl rfl rfl ?_
 refine G.go H59 D71_46 (by decide) (J := 16) rfl ?_
 show Go _ _ _ _ (T59.setTop (mkF m 16 _ []))
 refine G.iL H59 D71_16 (J := 18) rfl rfl ?_
 refine G.iN H59 D71_18 (J := 19) rfl rfl ?_
 refine G.cN H59 D71_19 (J := 22) rfl (by decide) ?_
 refine G.aN H59 D71_22 (J := 23) rfl rfl rfl ?_
 refine G.iL H59 D71_23 (J := 25) rfl rfl ?_
 have K73 : Keep h8_ h59_ [a2, a12] := (Keep.trans (Keep.ext (Keep.trans (Keep.refl h8_ [a2, a12]) K32 (allS (Or.inl (mG (i := 0) rfl)) (allS (Or.inl (mG (i := 1) rfl)) all0))) E41) K66 (allS (Or.inl (mG (i := 0) rfl)) (allS (own_nw N34 (Or.inl (mG (i := 1) rfl)) (Nat.le_refl _)) all0)))
 have N74 : p0 ≠ a12 := (Nat.ne_of_lt (Nat.lt_of_lt_of_le (Nat.lt_of_lt_of_le f0.lt K55.1) g15))
 have N75 : p0 ≠ a2 := (Nat.ne_of_lt (Nat.lt_of_lt_of_le f0.lt (Nat.le_of_eq ga2.symm)))
 have F76 := (Arv.keep F23 K73 (ninS N75 (ninS N74 nin0)))
 refine G.aaloadG H59 F76 rfl (j := 1) (v := (.ref p2)) (by decide) rfl D71_25 (J := 26) rfl ?_
 refine G.astore H59 (L' := #[.val (.ref p0), .val (.ref a2), .val (.ref p0), .val (.int 3), .val (.int 1), .val (.ref p2)]) D71_26 (J := 28) rfl rfl rfl ?_
 refine G.aN H59 D71_28 (J := 29) rfl rfl rfl ?_
 refine G.bP H59 D71_29 (J := 31) rfl (v := 47) rfl ?_
 refine own_appC V H59 (wd130 V) (k1 := k64) (w := w65) (X := ((([] : List Int32) ++ [47]) ++ (encS cs0))) (x := 47) ⟨R67.1, R67.2.1, R67.2.2.1, R67.2.2.2.1, R67.2.2.2.2.1, (by simp only [qa, qc, qn] <;> omega), R67.2.2.2.2.2.2⟩ na2 R68 (mG (i := 0) rfl) (by decide) (by simp only [qa, qc, qn] <;> omega) (Bud.of (C := 12) (S := 404) (Cm := 14) (Sm := 544) R70 (by decide) (by decide)) (by decide) (by decide) (W := 0) (by decide) (by decide) (rest := []) rfl rfl D71_31 (J := 34) rfl ?_
 intro T77 h77_ b78 k79 w80 C81 S82 H77 K83 g84 N85 B86 hb87
 replace H77 := H77.mono (Bud.cc hb87) (Bud.ss hb87)
 have cp88 := Bud.cap hb87; unfold Cap at cp88; have le89 := B86.2.2.2.2.2.1
 simp only [qa, qc, qn] at le89
 show Go _ _ _ _ (T77.setTop (mkF m 34 _ [.ref a2]))
 refine G.pop H77 D71_34 (J := 35) rfl rfl ?_
 refine G.aN H77 D71_35 (J := 36) rfl rfl rfl ?_
 refine G.aL H77 D71_36 (J := 38) rfl rfl rfl ?_
 refine G.ldcS H77 trivial (wS V) (wq V 146 rfl) (by decide) (vs := []) (z := 0) (by decide) (by decide) rfl (n := 0) (by decide) (by decide) (by decide) (by decide) D71_38 (J := 40) rfl ?_
 intro T90 h90_ a91 b93 k94 H90 E92 X95 F96 F97 A98 Q99
 have S100 : Str Z h90_ a91 b93 k94 [] := ⟨X95, F96, F97, A98, by decide, by decide⟩
 have F101 := (Fld.ext E92 B86.2.1)
 have F102 := (Fld.ext E92 B86.2.2.2.1)
 have F103 := (Arv.ext B86.2.2.2.2.1 E92)
 have F104 := (Exa.ext E92 B86.1)
 have F105 := (Fld.ext E92 B86.2.2.1)
 have K106 : Keep h0 h90_ [] := (Keep.ext (Keep.trans (Keep.trans K56 K66 (allS (Or.inr (Nat.le_of_eq ga2.symm)) (allS (own_nw N34 (Or.inr (Nat.le_trans K55.1 g15)) K22.1) all0))) K83 (allS (Or.inr (Nat.le_of_eq ga2.symm)) (allS (own_nw R69 (own_nw N34 (Or.inr (Nat.le_trans K55.1 g15)) K22.1) K56.1) all0))) E92)
 have F107 := (StrU.keep f2 K106 nin0 nin0)
 have F108 := (Exa.ext E92 B86.2.2.2.2.2.2)
 refine G.cS H90 (m134 V a2 p2 a91 b78 ((((([] : List Int32) ++ [47]) ++ (encS cs0)) ++ [47]).length) k79 w80 (((([] : List Int32) ++ [47]) ++ (encS cs0)) ++ [47]) p5 d2 cs1 b93 k94 h90_ H90.old F101 (by simp only [qa, qc, qn] <;> omega) F102 (by omega) cp88 (by simp only [qa, qc, qn] <;> omega) F103 F104 F105 (by simp only [qa, qc, qn] <;> omega) (by simp only [qa, qc, qn] <;> omega) (by simp only [qa, qc, qn] <;> omega) F107 na2 g84 F108 X95 S100 (Ne.symm (Q99 _ (mG (i := 0) rfl)).2)) (wq V 147 rfl) (wq V 148 rfl) (wd34 V) (wq V 149 rfl) [.ref a2, .ref p2, .ref a91] [] 0 43 (lenOf (pd_50) rfl) D71_40 (allS (mG (i := 0) rfl) all0) (by decide) ?_
 rintro T109 h109_ _ _ H109 ⟨a113, k114, w115, rfl, rfl, K116, R117, R118, R119, R120⟩
 have le121 := R117.2.2.2.2.2.1
 simp only [qa, qc, qn] at le121
 have lb122 := own_encsl F107.2.2.2.2.2
 unfold Cap at R120
 show Go _ _ _ _ (T109.setTop (mkF m 43 _ []))
 refine G.iI H109 (v := 2) (L' := #[.val (.ref p0), .val (.ref a2), .val (.ref p0), .val (.int 3), .val (.int 2), .val (.ref p2)]) D71_43 (J := 46) rfl rfl rfl rfl ?_
 refine G.go H109 D71_46 (by decide) (J := 16) rfl ?_
 show Go _ _ _ _ (T109.setTop (mkF m 16 _ []))
 refine G.iL H109 D71_16 (J := 18) rfl rfl ?_
 refine G.iN H109 D71_18 (J := 19) rfl rfl ?_
 refine G.cN H109 D71_19 (J := 22) rfl (by decide) ?_
 refine G.aN H109 D71_22 (J := 23) rfl rfl rfl ?_
 refine G.iL H109 D71_23 (J := 25) rfl rfl ?_
 have K123 : Keep h59_ h109_ [a2, a63] := (Keep.trans (Keep.ext (Keep.trans (Keep.refl h59_ [a2, a63]) K83 (allS (Or.inl (mG (i := 0) rfl)) (allS (Or.inl (mG (i := 1) rfl)) all0))) E92) K116 (allS (Or.inl (mG (i := 0) rfl)) (allS (own_nw N85 (Or.inl (mG (i := 1) rfl)) (Nat.le_refl _)) all0)))
 have N124 : p0 ≠ b27 := (own_nef N34 (Nat.lt_of_lt_of_le f0.lt K22.1) N74)
 have N125 : p0 ≠ a63 := (own_nef R69 (Nat.lt_of_lt_of_le f0.lt K56.1) N124)
 have F126 := (Arv.keep F76 K123 (ninS N75 (ninS N125 nin0)))
 refine G.aaloadG H109 F126 rfl (j := 2) (v := (.ref p3)) (by decide) rfl D71_25 (J := 26) rfl ?_
 refine G.astore H109 (L' := #[.val (.ref p0), .val (.ref a2), .val (.ref p0), .val (.int 3), .val (.int 2), .val (.ref p3)]) D71_26 (J := 28) rfl rfl rfl ?_
 refine G.aN H109 D71_28 (J := 29) rfl rfl rfl ?_
 refine G.bP H109 D71_29 (J := 31) rfl (v := 47) rfl ?_
 refine own_appC V H109 (wd130 V) (k1 := k114) (w := w115) (X := ((((([] : List Int32) ++ [47]) ++ (encS cs0)) ++ [47]) ++ (encS cs1))) (x := 47) ⟨R117.1, R117.2.1, R117.2.2.1, R117.2.2.2.1, R117.2.2.2.2.1, (by simp only [qa, qc, qn] <;> omega), R117.2.2.2.2.2.2⟩ na2 R118 (mG (i := 0) rfl) (by decide) (by simp only [qa, qc, qn] <;> omega) (Bud.of (C := 22) (S := 788) (Cm := 24) (Sm := 928) R120 (by decide) (by decide)) (by decide) (by decide) (W := 0) (by decide) (by decide) (rest := []) rfl rfl D71_31 (J := 34) rfl ?_
 intro T127 h127_ b128 k129 w130 C131 S132 H127 K133 g134 N135 B136 hb137
 replace H127 := H127.mono (Bud.cc hb137) (Bud.ss hb137)
 have cp138 := Bud.cap hb137; unfold Cap at cp138; have le139 := B136.2.2.2.2.2.1
 simp only [qa, qc, qn] at le139
 show Go _ _ _ _ (T127.setTop (mkF m 34 _ [.ref a2]))
 refine G.pop H127 D71_34 (J := 35) rfl rfl ?_
 refine G.aN H127 D71_35 (J := 36) rfl rfl rfl ?_
 refine G.aL H127 D71_36 (J := 38) rfl rfl rfl ?_
 refine G.ldcS H127 trivial (wS V) (wq V 146 rfl) (by decide) (vs := []) (z := 0) (by decide) (by decide) rfl (n := 0) (by decide) (by decide) (by decide) (by decide) D71_38 (J := 40) rfl ?_
 intro T140 h140_ a141 b143 k144 H140 E142 X145 F146 F147 A148 Q149
 have S150 : Str Z h140_ a141 b143 k144 [] := ⟨X145, F146, F147, A148, by decide, by decide⟩
 have F151 := (Fld.ext E142 B136.2.1)
 have F152 := (Fld.ext E142 B136.2.2.2.1)
 have F153 := (Arv.ext B136.2.2.2.2.1 E142)
 have F154 := (Exa.ext E142 B136.1)
 have F155 := (Fld.ext E142 B136.2.2.1)
 have K156 : Keep h0 h59_ [] := (Keep.trans K56 K66 (allS (Or.inr (Nat.le_of_eq ga2.symm)) (allS (own_nw N34 (Or.inr (Nat.le_trans K55.1 g15)) K22.1) all0)))
 have K157 : Keep h0 h140_ [] := (Keep.ext (Keep.trans (Keep.trans K106 K116 (allS (Or.inr (Nat.le_of_eq ga2.symm)) (allS (own_nw N85 (own_nw R69 (own_nw N34 (Or.inr (Nat.le_trans K55.1 g15)) K22.1) K56.1) K156.1) all0))) K133 (allS (Or.inr (Nat.le_of_eq ga2.symm)) (allS (own_nw R119 (own_nw N85 (own_nw R69 (own_nw N34 (Or.inr (Nat.le_trans K55.1 g15)) K22.1) K56.1) K156.1) K106.1) all0))) E142)
 have F158 := (StrU.keep f3 K157 nin0 nin0)
 have F159 := (Exa.ext E142 B136.2.2.2.2.2.2)
 refine G.cS H140 (m134 V a2 p3 a141 b128 ((((((([] : List Int32) ++ [47]) ++ (encS cs0)) ++ [47]) ++ (encS cs1)) ++ [47]).length) k129 w130 (((((([] : List Int32) ++ [47]) ++ (encS cs0)) ++ [47]) ++ (encS cs1)) ++ [47]) p6 d3 cs2 b143 k144 h140_ H140.old F151 (by simp only [qa, qc, qn] <;> omega) F152 (by omega) cp138 (by simp only [qa, qc, qn] <;> omega) F153 F154 F155 (by simp only [qa, qc, qn] <;> omega) (by simp only [qa, qc, qn] <;> omega) (by simp only [qa, qc, qn] <;> omega) F158 na2 g134 F159 X145 S150 (Ne.symm (Q149 _ (mG (i := 0) rfl)).2)) (wq V 147 rfl) (wq V 148 rfl) (wd34 V) (wq V 149 rfl) [.ref a2, .ref p3, .ref a141] [] 0 43 (lenOf (pd_50) rfl) D71_40 (allS (mG (i := 0) rfl) all0) (by decide) ?_
 rintro T160 h160_ _ _ H160 ⟨a164, k165, w166, rfl, rfl, K167, R168, R169, R170, R171⟩
 have le172 := R168.2.2.2.2.2.1
 simp only [qa, qc, qn] at le172
 have lb173 := own_encsl F158.2.2.2.2.2
 unfold Cap at R171
 show Go _ _ _ _ (T160.setTop (mkF m 43 _ []))
 refine G.iI H160 (v := 3) (L' := #[.val (.ref p0), .val (.ref a2), .val (.ref p0), .val (.int 3), .val (.int 3), .val (.ref p3)]) D71_43 (J := 46) rfl rfl rfl rfl ?_
 refine G.go H160 D71_46 (by decide) (J := 16) rfl ?_
 show Go _ _ _ _ (T160.setTop (mkF m 16 _ []))
 refine G.iL H160 D71_16 (J := 18) rfl rfl ?_
 refine G.iN H160 D71_18 (J := 19) rfl rfl ?_
 refine G.cY H160 D71_19 (by decide) (by decide) (J := 49) rfl ?_
 refine G.aN H160 D71_49 (J := 50) rfl rfl rfl ?_
 refine G.cV H160 (m59 V a2 a164 (((((((([] : List Int32) ++ [47]) ++ (encS cs0)) ++ [47]) ++ (encS cs1)) ++ [47]) ++ (encS cs2)).length) k165 w166 ((((((([] : List Int32) ++ [47]) ++ (encS cs0)) ++ [47]) ++ (encS cs1)) ++ [47]) ++ (encS cs2)) h160_ H160.old R168.2.1 (by simp only [qa, qc, qn] <;> omega) R168.2.2.2.1 (by omega) R171 (by simp only [qa, qc, qn] <;> omega) R168.2.2.2.2.1 R168.1 (by simp only [qa, qc, qn] <;> omega) (by simp only [qa, qc, qn] <;> omega) (by simp only [qa, qc, qn] <;> omega) R168.2.2.1 R168.2.2.2.2.2.2 (own_rapp (own_rapp (own_rapp (own_rapp (own_rapp (own_rapp cb0 (cbS (by decide) cb0)) (own_encsr _)) (cbS (by decide) cb0)) (own_encsr _)) (cbS (by decide) cb0)) (own_encsr _))) (wq V 54 rfl) (wq V 55 rfl) (nf_sel (wq V 57 rfl)) (wq V 57 rfl) (wq V 56 rfl) (wd38 V) (wq V 58 rfl) R168.1 [] [] 0 53 (lenOf (pd_32) rfl) D71_50 all0 (by decide) ?_
 rintro T174 h174_ _ _ H174 ⟨a178, a179, k180, rfl, rfl, K181, g182, F183⟩
 have na178 := Nat.le_trans H160.le g182
 show Go _ _ _ _ (T174.setTop (mkF m 53 _ [.ref a178]))
 have K184 : Keep h0 h109_ [] := (Keep.trans K106 K116 (allS (Or.inr (Nat.le_of_eq ga2.symm)) (allS (own_nw N85 (own_nw R69 (own_nw N34 (Or.inr (Nat.le_trans K55.1 g15)) K22.1) K56.1) K156.1) all0)))
 have K185 : Keep h0 h174_ [] := (Keep.trans (Keep.trans K157 K167 (allS (Or.inr (Nat.le_of_eq ga2.symm)) (allS (own_nw N135 (own_nw R119 (own_nw N85 (own_nw R69 (own_nw N34 (Or.inr (Nat.le_trans K55.1 g15)) K22.1) K56.1) K156.1) K106.1) K184.1) all0))) K181 all0)
 have K186 : Keep h0 h160_ [] := (Keep.trans K157 K167 (allS (Or.inr (Nat.le_of_eq ga2.symm)) (allS (own_nw N135 (own_nw R119 (own_nw N85 (own_nw R69 (own_nw N34 (Or.inr (Nat.le_trans K55.1 g15)) K22.1) K56.1) K156.1) K106.1) K184.1) all0)))
 exact G.retA H174 (t := (.object "java/lang/String")) rfl rfl rfl D71_53 (so := []) all0 (by decide) (by decide) ⟨a178, a179, k180, rfl, rfl, K185, (Nat.le_trans K186.1 g182), F183⟩
theorem rmLaw (V : Env1 Z a0 n0 uu0 uu1 uu2 uu3 uu4) (x0 : Int32) (x1 : Int32) (x2 : Int32) (x3 : Int32) (h0 : Heap) (hO : Old Z n0 h0) :
  Met Z a0 ELs True n0 l x code maxLocals ret room_1 #[.int x0, .int x1, .int x2, .int x3] h0 [] (fun v h so => v = some (.int 1)) := by
 refine Met.of (EWl V) (by first | decide +kernel | rfl) hO (L0 := #[.val (.int x0), .val (.int x1), .val (.int x2), .val (.int x3), .unset, .unset, .unset, .unset, .unset, .unset, .unset, .unset, .unset, .unset, .unset, .unset, .unset, .unset, .unset]) rfl ?_
 intro p e s m below meth c T H
 show Go _ _ _ _ (T.setTop (mkF m 0 _ []))
 refine G.iN H at_0 (J := 1) rfl rfl ?_
 refine G.iC H at_1 (J := 2) rfl (v := 3) rfl ?_
 refine G.iand H at_2 (J := 3) rfl ?_
 refine G.sI H (L' := #[.val (.int x0), .val (.int x1), .val (.int x2), .val (.int x3), .val (.int (x0 &&& 3)), .unset, .unset, .unset, .unset, .unset, .unset, .unset, .unset, .unset, .unset, .unset, .unset, .unset, .unset]) at_3 (J := 5) rfl rfl ?_
 refine G.iN H at_5 (J := 6) rfl rfl ?_
 refine G.iC H at_6 (J := 7) rfl (v := 2) rfl ?_
 refine G.iushr H at_7 (J := 8) rfl ?_
 refine G.iC H at_8 (J := 9) rfl (v := 3) rfl ?_
 refine G.iand H at_9 (J := 10) rfl ?_
 refine G.iC H at_10 (J := 11) rfl (v := 3) rfl ?_
 refine G.irem H at_11 (J := 12) rfl (by decide) ?_
 refine G.sI H (L' := #[.val (.int x0), .val (.int x1), .val (.int x2), .val (.int x3), .val (.int (x0 &&& 3)), .val (.int (((XT.ushr x0 2) &&& 3) % 3)), .unset, .unset, .unset, .unset, .unset, .unset, .unset, .unset, .unset, .unset, .unset, .unset, .unset]) at_12 (J := 14) rfl rfl ?_
 refine G.iN H at_14 (J := 15) rfl rfl ?_
 refine G.iC H at_15 (J := 16) rfl (v := 4) rfl ?_
 refine G.iushr H at_16 (J := 17) rfl ?_
 refine G.iC H at_17 (J := 18) rfl (v := 3) rfl ?_
 refine G.iand H at_18 (J := 19) rfl ?_
 refine G.iC H at_19 (J := 20) rfl (v := 3) rfl ?_
 refine G.irem H at_20 (J := 21) rfl (by decide) ?_
 refine G.sI H (L' := #[.val (.int x0), .val (.int x1), .val (.int x2), .val (.int x3), .val (.int (x0 &&& 3)), .val (.int (((XT.ushr x0 2) &&& 3) % 3)), .val (.int (((XT.ushr x0 4) &&& 3) % 3)), .unset, .unset, .unset, .unset, .unset, .unset, .unset, .unset, .unset, .unset, .unset, .unset]) at_21 (J := 23) rfl rfl ?_
 refine G.iN H at_23 (J := 24) rfl rfl ?_
 refine G.bP H at_24 (J := 26) rfl (v := 6) rfl ?_
 refine G.iushr H at_26 (J := 27) rfl ?_
 refine G.iC H at_27 (J := 28) rfl (v := 3) rfl ?_
 refine G.iand H at_28 (J := 29) rfl ?_
 refine G.iC H at_29 (J := 30) rfl (v := 3) rfl ?_
 refine G.irem H at_30 (J := 31) rfl (by decide) ?_
 refine G.sI H (L' := #[.val (.int x0), .val (.int x1), .val (.int x2), .val (.int x3), .val (.int (x0 &&& 3)), .val (.int (((XT.ushr x0 2) &&& 3) % 3)), .val (.int (((XT.ushr x0 4) &&& 3) % 3)), .val (.int (((XT.ushr x0 6) &&& 3) % 3)), .unset, .unset, .unset, .unset, .unset, .unset, .unset, .unset, .unset, .unset, .unset]) at_31 (J := 33) rfl rfl ?_
 refine G.iN H at_33 (J := 34) rfl rfl ?_
 refine G.iN H at_34 (J := 35) rfl rfl ?_
 refine G.bP H at_35 (J := 37) rfl (v := 8) rfl ?_
 refine G.iushr H at_37 (J := 38) rfl ?_
 refine G.iC H at_38 (J := 39) rfl (v := 1) rfl ?_
 refine G.iand H at_39 (J := 40) rfl ?_
 refine G.cS H (m24 V x1 ((XT.ushr x0 8) &&& 1) h0 H.old) (wq V 0 rfl) (wq V 1 rfl) (wd2 V) (wq V 3 rfl) [.int x1, (.int ((XT.ushr x0 8) &&& 1))] [] 0 43 (lenOf (pd_13) rfl) at_40 all0 (by decide) ?_
 rintro T1 h1_ _ _ H1 ⟨u5, rfl, rfl, r6, rfl, R7⟩
 show Go _ _ _ _ (T1.setTop (mkF m 43 _ [.int u5]))
 refine G.sI H1 (L' := #[.val (.int x0), .val (.int x1), .val (.int x2), .val (.int x3), .val (.int (x0 &&& 3)), .val (.int (((XT.ushr x0 2) &&& 3) % 3)), .val (.int (((XT.ushr x0 4) &&& 3) % 3)), .val (.int (((XT.ushr x0 6) &&& 3) % 3)), .val (.int u5), .unset, .unset, .unset, .unset, .unset, .unset, .unset, .unset, .unset, .unset]) at_43 (J := 45) rfl rfl ?_
 refine G.iN H1 at_45 (J := 46) rfl rfl ?_
 refine G.bP H1 at_46 (J := 48) rfl (v := 16) rfl ?_
 refine G.iushr H1 at_48 (J := 49) rfl ?_
 refine G.iN H1 at_49 (J := 50) rfl rfl ?_
 refine G.bP H1 at_50 (J := 52) rfl (v := 9) rfl ?_
 refine G.iushr H1 at_52 (J := 53) rfl ?_
 refine G.iC H1 at_53 (J := 54) rfl (v := 1) rfl ?_
 refine G.iand H1 at_54 (J := 55) rfl ?_
 refine G.cS H1 (m24 V (XT.ushr x1 16) ((XT.ushr x0 9) &&& 1) h0 H1.old) (wq V 0 rfl) (wq V 1 rfl) (wd2 V) (wq V 3 rfl) [(.int (XT.ushr x1 16)), (.int ((XT.ushr x0 9) &&& 1))] [] 0 58 (lenOf (pd_13) rfl) at_55 all0 (by decide) ?_
 rintro T8 h8_ _ _ H8 ⟨u12, rfl, rfl, r13, rfl, R14⟩
 show Go _ _ _ _ (T8.setTop (mkF m 58 _ [.int u12]))
 refine G.sI H8 (L' := #[.val (.int x0), .val (.int x1), .val (.int x2), .val (.int x3), .val (.int (x0 &&& 3)), .val (.int (((XT.ushr x0 2) &&& 3) % 3)), .val (.int (((XT.ushr x0 4) &&& 3) % 3)), .val (.int (((XT.ushr x0 6) &&& 3) % 3)), .val (.int u5), .val (.int u12), .unset, .unset, .unset, .unset, .unset, .unset, .unset, .unset, .unset]) at_58 (J := 60) rfl rfl ?_
 refine G.iN H8 at_60 (J := 61) rfl rfl ?_
 refine G.iN H8 at_61 (J := 62) rfl rfl ?_
 refine G.bP H8 at_62 (J := 64) rfl (v := 10) rfl ?_
 refine G.iushr H8 at_64 (J := 65) rfl ?_
 refine G.iC H8 at_65 (J := 66) rfl (v := 1) rfl ?_
 refine G.iand H8 at_66 (J := 67) rfl ?_
 refine G.cS H8 (m24 V x2 ((XT.ushr x0 10) &&& 1) h0 H8.old) (wq V 0 rfl) (wq V 1 rfl) (wd2 V) (wq V 3 rfl) [.int x2, (.int ((XT.ushr x0 10) &&& 1))] [] 0 70 (lenOf (pd_13) rfl) at_67 all0 (by decide) ?_
 rintro T15 h15_ _ _ H15 ⟨u19, rfl, rfl, r20, rfl, R21⟩
 show Go _ _ _ _ (T15.setTop (mkF m 70 _ [.int u19]))
 refine G.sI H15 (L' := #[.val (.int x0), .val (.int x1), .val (.int x2), .val (.int x3), .val (.int (x0 &&& 3)), .val (.int (((XT.ushr x0 2) &&& 3) % 3)), .val (.int (((XT.ushr x0 4) &&& 3) % 3)), .val (.int (((XT.ushr x0 6) &&& 3) % 3)), .val (.int u5), .val (.int u12), .val (.int u19), .unset, .unset, .unset, .unset, .unset, .unset, .unset, .unset]) at_70 (J := 72) rfl rfl ?_
 refine G.iN H15 at_72 (J := 73) rfl rfl ?_
 refine G.bP H15 at_73 (J := 75) rfl (v := 16) rfl ?_
 refine G.iushr H15 at_75 (J := 76) rfl ?_
 refine G.iN H15 at_76 (J := 77) rfl rfl ?_
 refine G.bP H15 at_77 (J := 79) rfl (v := 11) rfl ?_
 refine G.iushr H15 at_79 (J := 80) rfl ?_
 refine G.iC H15 at_80 (J := 81) rfl (v := 1) rfl ?_
 refine G.iand H15 at_81 (J := 82) rfl ?_
 refine G.cS H15 (m24 V (XT.ushr x2 16) ((XT.ushr x0 11) &&& 1) h0 H15.old) (wq V 0 rfl) (wq V 1 rfl) (wd2 V) (wq V 3 rfl) [(.int (XT.ushr x2 16)), (.int ((XT.ushr x0 11) &&& 1))] [] 0 85 (lenOf (pd_13) rfl) at_82 all0 (by decide) ?_
 rintro T22 h22_ _ _ H22 ⟨u26, rfl, rfl, r27, rfl, R28⟩
 show Go _ _ _ _ (T22.setTop (mkF m 85 _ [.int u26]))
 refine G.sI H22 (L' := #[.val (.int x0), .val (.int x1), .val (.int x2), .val (.int x3), .val (.int (x0 &&& 3)), .val (.int (((XT.ushr x0 2) &&& 3) % 3)), .val (.int (((XT.ushr x0 4) &&& 3) % 3)), .val (.int (((XT.ushr x0 6) &&& 3) % 3)), .val (.int u5), .val (.int u12), .val (.int u19), .val (.int u26), .unset, .unset, .unset, .unset, .unset, .unset, .unset]) at_85 (J := 87) rfl rfl ?_
 refine G.iN H22 at_87 (J := 88) rfl rfl ?_
 refine G.iN H22 at_88 (J := 89) rfl rfl ?_
 refine G.bP H22 at_89 (J := 91) rfl (v := 12) rfl ?_
 refine G.iushr H22 at_91 (J := 92) rfl ?_
 refine G.iC H22 at_92 (J := 93) rfl (v := 1) rfl ?_
 refine G.iand H22 at_93 (J := 94) rfl ?_
 refine G.cS H22 (m24 V x3 ((XT.ushr x0 12) &&& 1) h0 H22.old) (wq V 0 rfl) (wq V 1 rfl) (wd2 V) (wq V 3 rfl) [.int x3, (.int ((XT.ushr x0 12) &&& 1))] [] 0 97 (lenOf (pd_13) rfl) at_94 all0 (by decide) ?_
 rintro T29 h29_ _ _ H29 ⟨u33, rfl, rfl, r34, rfl, R35⟩
 show Go _ _ _ _ (T29.setTop (mkF m 97 _ [.int u33]))
 refine G.sI H29 (L' := #[.val (.int x0), .val (.int x1), .val (.int x2), .val (.int x3), .val (.int (x0 &&& 3)), .val (.int (((XT.ushr x0 2) &&& 3) % 3)), .val (.int (((XT.ushr x0 4) &&& 3) % 3)), .val (.int (((XT.ushr x0 6) &&& 3) % 3)), .val (.int u5), .val (.int u12), .val (.int u19), .val (.int u26), .val (.int u33), .unset, .unset, .unset, .unset, .unset, .unset]) at_97 (J := 99) rfl rfl ?_
 refine G.iN H29 at_99 (J := 100) rfl rfl ?_
 refine G.bP H29 at_100 (J := 102) rfl (v := 16) rfl ?_
 refine G.iushr H29 at_102 (J := 103) rfl ?_
 refine G.iN H29 at_103 (J := 104) rfl rfl ?_
 refine G.bP H29 at_104 (J := 106) rfl (v := 13) rfl ?_
 refine G.iushr H29 at_106 (J := 107) rfl ?_
 refine G.iC H29 at_107 (J := 108) rfl (v := 1) rfl ?_
 refine G.iand H29 at_108 (J := 109) rfl ?_
 refine G.cS H29 (m24 V (XT.ushr x3 16) ((XT.ushr x0 13) &&& 1) h0 H29.old) (wq V 0 rfl) (wq V 1 rfl) (wd2 V) (wq V 3 rfl) [(.int (XT.ushr x3 16)), (.int ((XT.ushr x0 13) &&& 1))] [] 0 112 (lenOf (pd_13) rfl) at_109 all0 (by decide) ?_
 rintro T36 h36_ _ _ H36 ⟨u40, rfl, rfl, r41, rfl, R42⟩
 show Go _ _ _ _ (T36.setTop (mkF m 112 _ [.int u40]))
 refine G.sI H36 (L' := #[.val (.int x0), .val (.int x1), .val (.int x2), .val (.int x3), .val (.int (x0 &&& 3)), .val (.int (((XT.ushr x0 2) &&& 3) % 3)), .val (.int (((XT.ushr x0 4) &&& 3) % 3)), .val (.int (((XT.ushr x0 6) &&& 3) % 3)), .val (.int u5), .val (.int u12), .val (.int u19), .val (.int u26), .val (.int u33), .val (.int u40), .unset, .unset, .unset, .unset, .unset]) at_112 (J := 114) rfl rfl ?_
 refine G.iL H36 at_114 (J := 116) rfl rfl ?_
 refine G.iL H36 at_116 (J := 118) rfl rfl ?_
 refine G.iL H36 at_118 (J := 120) rfl rfl ?_
 refine G.cS H36 (m47 V (((XT.ushr x0 2) &&& 3) % 3) u5 u12 h0 H36.old r6 r13 R7 R14) (wq V 6 rfl) (wq V 7 rfl) (wd2 V) (wq V 8 rfl) [(.int (((XT.ushr x0 2) &&& 3) % 3)), .int u5, .int u12] [] 0 123 (lenOf (pd_25) rfl) at_120 all0 (by decide) ?_
 rintro T43 h43_ _ _ H43 ⟨a47, a48, k49, rfl, rfl, K50, g51, F52⟩
 have na47 := Nat.le_trans H36.le g51
 show Go _ _ _ _ (T43.setTop (mkF m 123 _ [.ref a47]))
 refine G.astore H43 (L' := #[.val (.int x0), .val (.int x1), .val (.int x2), .val (.int x3), .val (.int (x0 &&& 3)), .val (.int (((XT.ushr x0 2) &&& 3) % 3)), .val (.int (((XT.ushr x0 4) &&& 3) % 3)), .val (.int (((XT.ushr x0 6) &&& 3) % 3)), .val (.int u5), .val (.int u12), .val (.int u19), .val (.int u26), .val (.int u33), .val (.int u40), .val (.ref a47), .unset, .unset, .unset, .unset]) at_123 (J := 125) rfl rfl rfl ?_
 refine G.iL H43 at_125 (J := 127) rfl rfl ?_
 refine G.iL H43 at_127 (J := 129) rfl rfl ?_
 refine G.iL H43 at_129 (J := 131) rfl rfl ?_
 refine G.cS H43 (m47 V (((XT.ushr x0 4) &&& 3) % 3) u19 u26 h43_ H43.old r20 r27 R21 R28) (wq V 6 rfl) (wq V 7 rfl) (wd2 V) (wq V 8 rfl) [(.int (((XT.ushr x0 4) &&& 3) % 3)), .int u19, .int u26] [] 0 134 (lenOf (pd_25) rfl) at_131 all0 (by decide) ?_
 rintro T53 h53_ _ _ H53 ⟨a57, a58, k59, rfl, rfl, K60, g61, F62⟩
 have na57 := Nat.le_trans H43.le g61
 show Go _ _ _ _ (T53.setTop (mkF m 134 _ [.ref a57]))
 refine G.astore H53 (L' := #[.val (.int x0), .val (.int x1), .val (.int x2), .val (.int x3), .val (.int (x0 &&& 3)), .val (.int (((XT.ushr x0 2) &&& 3) % 3)), .val (.int (((XT.ushr x0 4) &&& 3) % 3)), .val (.int (((XT.ushr x0 6) &&& 3) % 3)), .val (.int u5), .val (.int u12), .val (.int u19), .val (.int u26), .val (.int u33), .val (.int u40), .val (.ref a47), .val (.ref a57), .unset, .unset, .unset]) at_134 (J := 136) rfl rfl rfl ?_
 refine G.iL H53 at_136 (J := 138) rfl rfl ?_
 refine G.iL H53 at_138 (J := 140) rfl rfl ?_
 refine G.iL H53 at_140 (J := 142) rfl rfl ?_
 refine G.cS H53 (m47 V (((XT.ushr x0 6) &&& 3) % 3) u33 u40 h53_ H53.old r34 r41 R35 R42) (wq V 6 rfl) (wq V 7 rfl) (wd2 V) (wq V 8 rfl) [(.int (((XT.ushr x0 6) &&& 3) % 3)), .int u33, .int u40] [] 0 145 (lenOf (pd_25) rfl) at_142 all0 (by decide) ?_
 rintro T63 h63_ _ _ H63 ⟨a67, a68, k69, rfl, rfl, K70, g71, F72⟩
 have na67 := Nat.le_trans H53.le g71
 show Go _ _ _ _ (T63.setTop (mkF m 145 _ [.ref a67]))
 refine G.astore H63 (L' := #[.val (.int x0), .val (.int x1), .val (.int x2), .val (.int x3), .val (.int (x0 &&& 3)), .val (.int (((XT.ushr x0 2) &&& 3) % 3)), .val (.int (((XT.ushr x0 4) &&& 3) % 3)), .val (.int (((XT.ushr x0 6) &&& 3) % 3)), .val (.int u5), .val (.int u12), .val (.int u19), .val (.int u26), .val (.int u33), .val (.int u40), .val (.ref a47), .val (.ref a57), .val (.ref a67), .unset, .unset]) at_145 (J := 147) rfl rfl rfl ?_
 have lb73 := own_encsg (((XT.ushr x0 2) &&& 3) % 3) u5 u12
 have lb74 := own_encsg (((XT.ushr x0 4) &&& 3) % 3) u19 u26
 have lb75 := own_encsg (((XT.ushr x0 6) &&& 3) % 3) u33 u40
 rcases own_and3 x0 with c76 | c76 | c76 | c76
 ·
  rw [c76]
  show Go _ _ _ _ (T63.setTop (mkF m 147 _ []))
  refine G.iL H63 at_147 (J := 149) rfl rfl ?_
  refine G.ifNo H63 at_149 (J := 152) rfl (by decide) ?_
  refine G.iC H63 at_152 (J := 153) rfl (v := 0) rfl ?_
  refine G.newR H63 (wq V 9 rfl) (wq V 31 rfl) at_153 (J := 156) rfl (by decide) (cap := 0) (by decide) (by decide) (by decide) (by decide) (vs := []) rfl (ad := "[Ljava/lang/String;") rfl ?_
  intro T77 h77_ a78 k81 ga78 H77 E79 A80 X82 O83
  have na78 := H63.nle ga78
  refine G.cS H77 (m60 V a78 k81 h77_ H77.old A80) (wq V 32 rfl) (wq V 33 rfl) (wd34 V) (wq V 35 rfl) [.ref a78] [] 0 159 (lenOf (pd_33) rfl) at_156 all0 (by decide) ?_
  rintro T84 h84_ _ _ H84 ⟨a88, a89, k90, rfl, rfl, K91, g92, F93⟩
  have na88 := Nat.le_trans H77.le g92
  show Go _ _ _ _ (T84.setTop (mkF m 159 _ [.ref a88]))
  refine G.astore H84 (L' := #[.val (.int x0), .val (.int x1), .val (.int x2), .val (.int x3), .val (.int 0), .val (.int (((XT.ushr x0 2) &&& 3) % 3)), .val (.int (((XT.ushr x0 4) &&& 3) % 3)), .val (.int (((XT.ushr x0 6) &&& 3) % 3)), .val (.int u5), .val (.int u12), .val (.int u19), .val (.int u26), .val (.int u33), .val (.int u40), .val (.ref a47), .val (.ref a57), .val (.ref a67), .val (.ref a88), .unset]) at_159 (J := 161) rfl rfl rfl ?_
  refine G.go H84 at_161 (by decide) (J := 239) rfl ?_
  refine G.iC H84 at_239 (J := 240) rfl (v := 0) rfl ?_
  refine G.sI H84 (L' := #[.val (.int x0), .val (.int x1), .val (.int x2), .val (.int x3), .val (.int 0), .val (.int (((XT.ushr x0 2) &&& 3) % 3)), .val (.int (((XT.ushr x0 4) &&& 3) % 3)), .val (.int (((XT.ushr x0 6) &&& 3) % 3)), .val (.int u5), .val (.int u12), .val (.int u19), .val (.int u26), .val (.int u33), .val (.int u40), .val (.ref a47), .val (.ref a57), .val (.ref a67), .val (.ref a88), .val (.int 0)]) at_240 (J := 242) rfl rfl ?_
  refine G.iL H84 at_242 (J := 244) rfl rfl ?_
  refine G.iC H84 at_244 (J := 245) rfl (v := 1) rfl ?_
  refine G.cY H84 at_245 (by decide) (by decide) (J := 263) rfl ?_
  refine G.iL H84 at_263 (J := 265) rfl rfl ?_
  refine G.iC H84 at_265 (J := 266) rfl (v := 2) rfl ?_
  refine G.cY H84 at_266 (by decide) (by decide) (J := 284) rfl ?_
  refine G.iL H84 at_284 (J := 286) rfl rfl ?_
  refine G.iC H84 at_286 (J := 287) rfl (v := 3) rfl ?_
  refine G.cY H84 at_287 (by decide) (by decide) (J := 305) rfl ?_
  refine G.iL H84 at_305 (J := 307) rfl rfl ?_
  refine G.aL H84 at_307 (J := 309) rfl rfl rfl ?_
  refine G.cV H84 (m62 V a88 a89 k90 ([] : List Int32) h84_ H84.old (by simp only [qa, qc, qn] <;> omega) F93) (wq V 105 rfl) (wd106 V) (nf_sel (wd108 V)) (wd108 V) (wd107 V) (wd11 V) (wd109 V) F93.1 [] [.int 0] 1 312 (lenOf (pd_11) rfl) at_309 all0 (by decide) ?_
  rintro T94 h94_ _ _ H94 ⟨rfl, rfl, rfl⟩
  show Go _ _ _ _ (T94.setTop (mkF m 312 _ [(.int (Int32.ofNat (([] : List Int32).length))), .int 0]))
  refine G.cN H94 at_312 (J := 315) rfl (XT.ii_ne_f (own_eqT (a := 0) (b := ([] : List Int32).length) (by simp only [qa, qc, qn] <;> omega))) ?_
  refine G.iC H94 at_315 (J := 316) rfl (v := 1) rfl ?_
  refine G.go H94 at_316 (by decide) (J := 320) rfl ?_
  exact G.retN H94 (t := .boolean) rfl (by decide) at_320 (so := []) all0 (by decide) (by decide) rfl
 ·
  rw [c76]
  show Go _ _ _ _ (T63.setTop (mkF m 147 _ []))
  refine G.iL H63 at_147 (J := 149) rfl rfl ?_
  refine G.ifYes H63 at_149 (by decide) (by decide) (J := 164) rfl ?_
  refine G.iL H63 at_164 (J := 166) rfl rfl ?_
  refine G.iC H63 at_166 (J := 167) rfl (v := 1) rfl ?_
  refine G.cN H63 at_167 (J := 170) rfl (by decide) ?_
  refine G.iC H63 at_170 (J := 171) rfl (v := 1) rfl ?_
  refine G.newR H63 (wq V 9 rfl) (wq V 31 rfl) at_171 (J := 174) rfl (by decide) (cap := 1) (by decide) (by decide) (by decide) (by decide) (vs := [.null]) rfl (ad := "[Ljava/lang/String;") rfl ?_
  intro T98 h98_ a99 k102 ga99 H98 E100 A101 X103 O104
  have na99 := H63.nle ga99
  refine G.dup H98 at_174 (J := 175) rfl rfl ?_
  refine G.iC H98 at_175 (J := 176) rfl (v := 0) rfl ?_
  refine G.aL H98 at_176 (J := 178) rfl rfl rfl ?_
  have K108 : Keep h43_ h98_ [] := (Keep.ext (Keep.trans (Keep.trans (Keep.refl h43_ []) K60 all0) K70 all0) E100)
  have F109 := (Exa.keep F52.1 K108)
  refine G.stR H98 A101 rfl (OwnKit.sto_of A101 O104 (Ins.self F109)) rfl (by decide) (i := 0) rfl lB na99 at_178 (J := 179) rfl ?_
  intro T105 h105_ H105 W106 A107
  replace A107 : Arv Z h105_ a99 k102 (.object "java/lang/String") 1 [.ref a47] .null := A107
  have K110 : Keep h43_ h63_ [] := (Keep.trans (Keep.trans (Keep.refl h43_ []) K60 all0) K70 all0)
  have K111 : Keep h43_ h105_ [] := (Keep.wr K108 W106 (Or.inr (Nat.le_trans K110.1 (Nat.le_of_eq ga99.symm))))
  have F112 := (StrU.keep F52 K111 nin0 nin0)
  refine G.cS H105 (m135 V a99 k102 a47 a48 k49 (segOf (((XT.ushr x0 2) &&& 3) % 3) u5 u12) h105_ H105.old A107 F112) (wq V 32 rfl) (wq V 33 rfl) (wd34 V) (wq V 35 rfl) [.ref a99] [] 0 182 (lenOf (pd_33) rfl) at_179 all0 (by decide) ?_
  rintro T113 h113_ _ _ H113 ⟨a117, a118, k119, rfl, rfl, K120, g121, F122⟩
  have na117 := Nat.le_trans H105.le g121
  show Go _ _ _ _ (T113.setTop (mkF m 182 _ [.ref a117]))
  refine G.astore H113 (L' := #[.val (.int x0), .val (.int x1), .val (.int x2), .val (.int x3), .val (.int 1), .val (.int (((XT.ushr x0 2) &&& 3) % 3)), .val (.int (((XT.ushr x0 4) &&& 3) % 3)), .val (.int (((XT.ushr x0 6) &&& 3) % 3)), .val (.int u5), .val (.int u12), .val (.int u19), .val (.int u26), .val (.int u33), .val (.int u40), .val (.ref a47), .val (.ref a57), .val (.ref a67), .val (.ref a117), .unset]) at_182 (J := 184) rfl rfl rfl ?_
  refine G.go H113 at_184 (by decide) (J := 239) rfl ?_
  refine G.iC H113 at_239 (J := 240) rfl (v := 0) rfl ?_
  refine G.sI H113 (L' := #[.val (.int x0), .val (.int x1), .val (.int x2), .val (.int x3), .val (.int 1), .val (.int (((XT.ushr x0 2) &&& 3) % 3)), .val (.int (((XT.ushr x0 4) &&& 3) % 3)), .val (.int (((XT.ushr x0 6) &&& 3) % 3)), .val (.int u5), .val (.int u12), .val (.int u19), .val (.int u26), .val (.int u33), .val (.int u40), .val (.ref a47), .val (.ref a57), .val (.ref a67), .val (.ref a117), .val (.int 0)]) at_240 (J := 242) rfl rfl ?_
  refine G.iL H113 at_242 (J := 244) rfl rfl ?_
  refine G.iC H113 at_244 (J := 245) rfl (v := 1) rfl ?_
  refine G.cN H113 at_245 (J := 248) rfl (by decide) ?_
  refine G.aL H113 at_248 (J := 250) rfl rfl rfl ?_
  refine G.iL H113 at_250 (J := 252) rfl rfl ?_
  refine G.iL H113 at_252 (J := 254) rfl rfl ?_
  refine G.iL H113 at_254 (J := 256) rfl rfl ?_
  refine G.iL H113 at_256 (J := 258) rfl rfl ?_
  have S123 : Str Z h113_ a117 a118 k119 (([] : List Int32) ++ ((([47] : List Int32) ++ (encS (segOf (((XT.ushr x0 2) &&& 3) % 3) u5 u12))) ++ ([] : List Int32))) := own_strl (by simp only [ra, rb, rz, rd]) F122
  refine G.cS H113 (m146 V a117 0 (((XT.ushr x0 2) &&& 3) % 3) u5 u12 ([] : List Int32) ([] : List Int32)  a118 k119 h113_ H113.old (by omega) (by simp only [qa, qc, qn] <;> omega) (by simp only [qa, qc, qn] <;> omega) S123 (by simp only [qa, qc, qn] <;> omega) (by simp only [qa, qc, qn] <;> omega) (own_t3 _)) (wq V 258 rfl) (wq V 259 rfl) (wd2 V) (wq V 260 rfl) [.ref a117, .int 0, (.int (((XT.ushr x0 2) &&& 3) % 3)), .int u5, .int u12] [] 0 261 (lenOf (pd_53) rfl) at_258 all0 (by decide) ?_
  rintro T124 h124_ _ _ H124 ⟨rfl, rfl, rfl⟩
  show Go _ _ _ _ (T124.setTop (mkF m 261 _ [(.int (Int32.ofNat (0 + (1 + (encS (segOf (((XT.ushr x0 2) &&& 3) % 3) u5 u12)).length))))]))
  refine G.sI H124 (L' := #[.val (.int x0), .val (.int x1), .val (.int x2), .val (.int x3), .val (.int 1), .val (.int (((XT.ushr x0 2) &&& 3) % 3)), .val (.int (((XT.ushr x0 4) &&& 3) % 3)), .val (.int (((XT.ushr x0 6) &&& 3) % 3)), .val (.int u5), .val (.int u12), .val (.int u19), .val (.int u26), .val (.int u33), .val (.int u40), .val (.ref a47), .val (.ref a57), .val (.ref a67), .val (.ref a117), .val (.int (Int32.ofNat (0 + (1 + (encS (segOf (((XT.ushr x0 2) &&& 3) % 3) u5 u12)).length))))]) at_261 (J := 263) rfl rfl ?_
  refine G.iL H124 at_263 (J := 265) rfl rfl ?_
  refine G.iC H124 at_265 (J := 266) rfl (v := 2) rfl ?_
  refine G.cY H124 at_266 (by decide) (by decide) (J := 284) rfl ?_
  refine G.iL H124 at_284 (J := 286) rfl rfl ?_
  refine G.iC H124 at_286 (J := 287) rfl (v := 3) rfl ?_
  refine G.cY H124 at_287 (by decide) (by decide) (J := 305) rfl ?_
  refine G.iL H124 at_305 (J := 307) rfl rfl ?_
  refine G.aL H124 at_307 (J := 309) rfl rfl rfl ?_
  refine G.cV H124 (m62 V a117 a118 k119 (([] : List Int32) ++ ((([47] : List Int32) ++ (encS (segOf (((XT.ushr x0 2) &&& 3) % 3) u5 u12))) ++ ([] : List Int32))) h113_ H124.old (by simp only [qa, qc, qn] <;> omega) S123) (wq V 105 rfl) (wd106 V) (nf_sel (wd108 V)) (wd108 V) (wd107 V) (wd11 V) (wd109 V) S123.1 [] [(.int (Int32.ofNat (0 + (1 + (encS (segOf (((XT.ushr x0 2) &&& 3) % 3) u5 u12)).length))))] 1 312 (lenOf (pd_11) rfl) at_309 all0 (by decide) ?_
  rintro T128 h128_ _ _ H128 ⟨rfl, rfl, rfl⟩
  show Go _ _ _ _ (T128.setTop (mkF m 312 _ [(.int (Int32.ofNat ((([] : List Int32) ++ ((([47] : List Int32) ++ (encS (segOf (((XT.ushr x0 2) &&& 3) % 3) u5 u12))) ++ ([] : List Int32))).length))), (.int (Int32.ofNat (0 + (1 + (encS (segOf (((XT.ushr x0 2) &&& 3) % 3) u5 u12)).length))))]))
  refine G.cN H128 at_312 (J := 315) rfl (XT.ii_ne_f (own_eqT (a := 0 + (1 + (encS (segOf (((XT.ushr x0 2) &&& 3) % 3) u5 u12)).length)) (b := (([] : List Int32) ++ ((([47] : List Int32) ++ (encS (segOf (((XT.ushr x0 2) &&& 3) % 3) u5 u12))) ++ ([] : List Int32))).length) (by simp only [qa, qc, qn] <;> omega))) ?_
  refine G.iC H128 at_315 (J := 316) rfl (v := 1) rfl ?_
  refine G.go H128 at_316 (by decide) (J := 320) rfl ?_
  exact G.retN H128 (t := .boolean) rfl (by decide) at_320 (so := []) all0 (by decide) (by decide) rfl
 ·
  rw [c76]
  show Go _ _ _ _ (T63.setTop (mkF m 147 _ []))
  refine G.iL H63 at_147 (J := 149) rfl rfl ?_
  refine G.ifYes H63 at_149 (by decide) (by decide) (J := 164) rfl ?_
  refine G.iL H63 at_164 (J := 166) rfl rfl ?_
  refine G.iC H63 at_166 (J := 167) rfl (v := 1) rfl ?_
  refine G.cY H63 at_167 (by decide) (by decide) (J := 187) rfl ?_
  refine G.iL H63 at_187 (J := 189) rfl rfl ?_
  refine G.iC H63 at_189 (J := 190) rfl (v := 2) rfl ?_
  refine G.cN H63 at_190 (J := 193) rfl (by decide) ?_
  refine G.iC H63 at_193 (J := 194) rfl (v := 2) rfl ?_
  refine G.newR H63 (wq V 9 rfl) (wq V 31 rfl) at_194 (J := 197) rfl (by decide) (cap := 2) (by decide) (by decide) (by decide) (by decide) (vs := [.null, .null]) rfl (ad := "[Ljava/lang/String;") rfl ?_
  intro T132 h132_ a133 k136 ga133 H132 E134 A135 X137 O138
  have na133 := H63.nle ga133
  refine G.dup H132 at_197 (J := 198) rfl rfl ?_
  refine G.iC H132 at_198 (J := 199) rfl (v := 0) rfl ?_
  refine G.aL H132 at_199 (J := 201) rfl rfl rfl ?_
  have K142 : Keep h43_ h132_ [] := (Keep.ext (Keep.trans (Keep.trans (Keep.refl h43_ []) K60 all0) K70 all0) E134)
  have F143 := (Exa.keep F52.1 K142)
  refine G.stR H132 A135 rfl (OwnKit.sto_of A135 O138 (Ins.self F143)) rfl (by decide) (i := 0) rfl lB na133 at_201 (J := 202) rfl ?_
  intro T139 h139_ H139 W140 A141
  replace A141 : Arv Z h139_ a133 k136 (.object "java/lang/String") 2 [.ref a47, .null] .null := A141
  refine G.dup H139 at_202 (J := 203) rfl rfl ?_
  refine G.iC H139 at_203 (J := 204) rfl (v := 1) rfl ?_
  refine G.aL H139 at_204 (J := 206) rfl rfl rfl ?_
  have K147 : Keep h53_ h63_ [] := (Keep.trans (Keep.refl h53_ []) K70 all0)
  have K148 : Keep h53_ h139_ [] := (Keep.wr (Keep.ext (Keep.trans (Keep.refl h53_ []) K70 all0) E134) W140 (Or.inr (Nat.le_trans K147.1 (Nat.le_of_eq ga133.symm))))
  have F149 := (Exa.keep F62.1 K148)
  refine G.stR H139 A141 rfl (OwnKit.sto_of A141 O138 (Ins.self F149)) rfl (by decide) (i := 1) rfl lB na133 at_206 (J := 207) rfl ?_
  intro T144 h144_ H144 W145 A146
  replace A146 : Arv Z h144_ a133 k136 (.object "java/lang/String") 2 [.ref a47, .ref a57] .null := A146
  have K150 : Keep h43_ h63_ [] := (Keep.trans (Keep.trans (Keep.refl h43_ []) K60 all0) K70 all0)
  have K151 : Keep h43_ h144_ [] := (Keep.wr (Keep.wr K142 W140 (Or.inr (Nat.le_trans K150.1 (Nat.le_of_eq ga133.symm)))) W145 (Or.inr (Nat.le_trans K150.1 (Nat.le_of_eq ga133.symm))))
  have F152 := (StrU.keep F52 K151 nin0 nin0)
  have K153 : Keep h53_ h144_ [] := (Keep.wr K148 W145 (Or.inr (Nat.le_trans K147.1 (Nat.le_of_eq ga133.symm))))
  have F154 := (StrU.keep F62 K153 nin0 nin0)
  refine G.cS H144 (m147 V a133 k136 a47 a57 a48 k49 (segOf (((XT.ushr x0 2) &&& 3) % 3) u5 u12) a58 k59 (segOf (((XT.ushr x0 4) &&& 3) % 3) u19 u26) h144_ H144.old A146 F152 F154) (wq V 32 rfl) (wq V 33 rfl) (wd34 V) (wq V 35 rfl) [.ref a133] [] 0 210 (lenOf (pd_33) rfl) at_207 all0 (by decide) ?_
  rintro T155 h155_ _ _ H155 ⟨a159, a160, k161, rfl, rfl, K162, g163, F164⟩
  have na159 := Nat.le_trans H144.le g163
  show Go _ _ _ _ (T155.setTop (mkF m 210 _ [.ref a159]))
  refine G.astore H155 (L' := #[.val (.int x0), .val (.int x1), .val (.int x2), .val (.int x3), .val (.int 2), .val (.int (((XT.ushr x0 2) &&& 3) % 3)), .val (.int (((XT.ushr x0 4) &&& 3) % 3)), .val (.int (((XT.ushr x0 6) &&& 3) % 3)), .val (.int u5), .val (.int u12), .val (.int u19), .val (.int u26), .val (.int u33), .val (.int u40), .val (.ref a47), .val (.ref a57), .val (.ref a67), .val (.ref a159), .unset]) at_210 (J := 212) rfl rfl rfl ?_
  refine G.go H155 at_212 (by decide) (J := 239) rfl ?_
  refine G.iC H155 at_239 (J := 240) rfl (v := 0) rfl ?_
  refine G.sI H155 (L' := #[.val (.int x0), .val (.int x1), .val (.int x2), .val (.int x3), .val (.int 2), .val (.int (((XT.ushr x0 2) &&& 3) % 3)), .val (.int (((XT.ushr x0 4) &&& 3) % 3)), .val (.int (((XT.ushr x0 6) &&& 3) % 3)), .val (.int u5), .val (.int u12), .val (.int u19), .val (.int u26), .val (.int u33), .val (.int u40), .val (.ref a47), .val (.ref a57), .val (.ref a67), .val (.ref a159), .val (.int 0)]) at_240 (J := 242) rfl rfl ?_
  refine G.iL H155 at_242 (J := 244) rfl rfl ?_
  refine G.iC H155 at_244 (J := 245) rfl (v := 1) rfl ?_
  refine G.cN H155 at_245 (J := 248) rfl (by decide) ?_
  refine G.aL H155 at_248 (J := 250) rfl rfl rfl ?_
  refine G.iL H155 at_250 (J := 252) rfl rfl ?_
  refine G.iL H155 at_252 (J := 254) rfl rfl ?_
  refine G.iL H155 at_254 (J := 256) rfl rfl ?_
  refine G.iL H155 at_256 (J := 258) rfl rfl ?_
  have S165 : Str Z h155_ a159 a160 k161 (([] : List Int32) ++ ((([47] : List Int32) ++ (encS (segOf (((XT.ushr x0 2) &&& 3) % 3) u5 u12))) ++ (([47] : List Int32) ++ (encS (segOf (((XT.ushr x0 4) &&& 3) % 3) u19 u26))))) := own_strl (by simp only [ra, rb, rz, rd]) F164
  refine G.cS H155 (m146 V a159 0 (((XT.ushr x0 2) &&& 3) % 3) u5 u12 ([] : List Int32) (([47] : List Int32) ++ (encS (segOf (((XT.ushr x0 4) &&& 3) % 3) u19 u26)))  a160 k161 h155_ H155.old (by omega) (by simp only [qa, qc, qn] <;> omega) (by simp only [qa, qc, qn] <;> omega) S165 (by simp only [qa, qc, qn] <;> omega) (by simp only [qa, qc, qn] <;> omega) (own_t3 _)) (wq V 258 rfl) (wq V 259 rfl) (wd2 V) (wq V 260 rfl) [.ref a159, .int 0, (.int (((XT.ushr x0 2) &&& 3) % 3)), .int u5, .int u12] [] 0 261 (lenOf (pd_53) rfl) at_258 all0 (by decide) ?_
  rintro T166 h166_ _ _ H166 ⟨rfl, rfl, rfl⟩
  show Go _ _ _ _ (T166.setTop (mkF m 261 _ [(.int (Int32.ofNat (0 + (1 + (encS (segOf (((XT.ushr x0 2) &&& 3) % 3) u5 u12)).length))))]))
  refine G.sI H166 (L' := #[.val (.int x0), .val (.int x1), .val (.int x2), .val (.int x3), .val (.int 2), .val (.int (((XT.ushr x0 2) &&& 3) % 3)), .val (.int (((XT.ushr x0 4) &&& 3) % 3)), .val (.int (((XT.ushr x0 6) &&& 3) % 3)), .val (.int u5), .val (.int u12), .val (.int u19), .val (.int u26), .val (.int u33), .val (.int u40), .val (.ref a47), .val (.ref a57), .val (.ref a67), .val (.ref a159), .val (.int (Int32.ofNat (0 + (1 + (encS (segOf (((XT.ushr x0 2) &&& 3) % 3) u5 u12)).length))))]) at_261 (J := 263) rfl rfl ?_
  refine G.iL H166 at_263 (J := 265) rfl rfl ?_
  refine G.iC H166 at_265 (J := 266) rfl (v := 2) rfl ?_
  refine G.cN H166 at_266 (J := 269) rfl (by decide) ?_
  refine G.aL H166 at_269 (J := 271) rfl rfl rfl ?_
  refine G.iL H166 at_271 (J := 273) rfl rfl ?_
  refine G.iL H166 at_273 (J := 275) rfl rfl ?_
  refine G.iL H166 at_275 (J := 277) rfl rfl ?_
  refine G.iL H166 at_277 (J := 279) rfl rfl ?_
  have S170 : Str Z h155_ a159 a160 k161 ((([47] : List Int32) ++ (encS (segOf (((XT.ushr x0 2) &&& 3) % 3) u5 u12))) ++ ((([47] : List Int32) ++ (encS (segOf (((XT.ushr x0 4) &&& 3) % 3) u19 u26))) ++ ([] : List Int32))) := own_strl (by simp only [ra, rb, rz, rd]) S165
  refine G.cS H166 (m146 V a159 (0 + (1 + (encS (segOf (((XT.ushr x0 2) &&& 3) % 3) u5 u12)).length)) (((XT.ushr x0 4) &&& 3) % 3) u19 u26 (([47] : List Int32) ++ (encS (segOf (((XT.ushr x0 2) &&& 3) % 3) u5 u12))) ([] : List Int32)  a160 k161 h155_ H166.old (by omega) (by simp only [qa, qc, qn] <;> omega) (by simp only [qa, qc, qn] <;> omega) S170 (by simp only [qa, qc, qn] <;> omega) (by simp only [qa, qc, qn] <;> omega) (own_t3 _)) (wq V 258 rfl) (wq V 259 rfl) (wd2 V) (wq V 260 rfl) [.ref a159, (.int (Int32.ofNat (0 + (1 + (encS (segOf (((XT.ushr x0 2) &&& 3) % 3) u5 u12)).length)))), (.int (((XT.ushr x0 4) &&& 3) % 3)), .int u19, .int u26] [] 0 282 (lenOf (pd_53) rfl) at_279 all0 (by decide) ?_
  rintro T171 h171_ _ _ H171 ⟨rfl, rfl, rfl⟩
  show Go _ _ _ _ (T171.setTop (mkF m 282 _ [(.int (Int32.ofNat ((0 + (1 + (encS (segOf (((XT.ushr x0 2) &&& 3) % 3) u5 u12)).length)) + (1 + (encS (segOf (((XT.ushr x0 4) &&& 3) % 3) u19 u26)).length))))]))
  refine G.sI H171 (L' := #[.val (.int x0), .val (.int x1), .val (.int x2), .val (.int x3), .val (.int 2), .val (.int (((XT.ushr x0 2) &&& 3) % 3)), .val (.int (((XT.ushr x0 4) &&& 3) % 3)), .val (.int (((XT.ushr x0 6) &&& 3) % 3)), .val (.int u5), .val (.int u12), .val (.int u19), .val (.int u26), .val (.int u33), .val (.int u40), .val (.ref a47), .val (.ref a57), .val (.ref a67), .val (.ref a159), .val (.int (Int32.ofNat ((0 + (1 + (encS (segOf (((XT.ushr x0 2) &&& 3) % 3) u5 u12)).length)) + (1 + (encS (segOf (((XT.ushr x0 4) &&& 3) % 3) u19 u26)).length))))]) at_282 (J := 284) rfl rfl ?_
  refine G.iL H171 at_284 (J := 286) rfl rfl ?_
  refine G.iC H171 at_286 (J := 287) rfl (v := 3) rfl ?_
  refine G.cY H171 at_287 (by decide) (by decide) (J := 305) rfl ?_
  refine G.iL H171 at_305 (J := 307) rfl rfl ?_
  refine G.aL H171 at_307 (J := 309) rfl rfl rfl ?_
  refine G.cV H171 (m62 V a159 a160 k161 ((([47] : List Int32) ++ (encS (segOf (((XT.ushr x0 2) &&& 3) % 3) u5 u12))) ++ ((([47] : List Int32) ++ (encS (segOf (((XT.ushr x0 4) &&& 3) % 3) u19 u26))) ++ ([] : List Int32))) h155_ H171.old (by simp only [qa, qc, qn] <;> omega) S170) (wq V 105 rfl) (wd106 V) (nf_sel (wd108 V)) (wd108 V) (wd107 V) (wd11 V) (wd109 V) S170.1 [] [(.int (Int32.ofNat ((0 + (1 + (encS (segOf (((XT.ushr x0 2) &&& 3) % 3) u5 u12)).length)) + (1 + (encS (segOf (((XT.ushr x0 4) &&& 3) % 3) u19 u26)).length))))] 1 312 (lenOf (pd_11) rfl) at_309 all0 (by decide) ?_
  rintro T175 h175_ _ _ H175 ⟨rfl, rfl, rfl⟩
  show Go _ _ _ _ (T175.setTop (mkF m 312 _ [(.int (Int32.ofNat (((([47] : List Int32) ++ (encS (segOf (((XT.ushr x0 2) &&& 3) % 3) u5 u12))) ++ ((([47] : List Int32) ++ (encS (segOf (((XT.ushr x0 4) &&& 3) % 3) u19 u26))) ++ ([] : List Int32))).length))), (.int (Int32.ofNat ((0 + (1 + (encS (segOf (((XT.ushr x0 2) &&& 3) % 3) u5 u12)).length)) + (1 + (encS (segOf (((XT.ushr x0 4) &&& 3) % 3) u19 u26)).length))))]))
  refine G.cN H175 at_312 (J := 315) rfl (XT.ii_ne_f (own_eqT (a := (0 + (1 + (encS (segOf (((XT.ushr x0 2) &&& 3) % 3) u5 u12)).length)) + (1 + (encS (segOf (((XT.ushr x0 4) &&& 3) % 3) u19 u26)).length)) (b := ((([47] : List Int32) ++ (encS (segOf (((XT.ushr x0 2) &&& 3) % 3) u5 u12))) ++ ((([47] : List Int32) ++ (encS (segOf (((XT.ushr x0 4) &&& 3) % 3) u19 u26))) ++ ([] : List Int32))).length) (by simp only [qa, qc, qn] <;> omega))) ?_
  refine G.iC H175 at_315 (J := 316) rfl (v := 1) rfl ?_
  refine G.go H175 at_316 (by decide) (J := 320) rfl ?_
  exact G.retN H175 (t := .boolean) rfl (by decide) at_320 (so := []) all0 (by decide) (by decide) rfl
 ·
  rw [c76]
  show Go _ _ _ _ (T63.setTop (mkF m 147 _ []))
  refine G.iL H63 at_147 (J := 149) rfl rfl ?_
  refine G.ifYes H63 at_149 (by decide) (by decide) (J := 164) rfl ?_
  refine G.iL H63 at_164 (J := 166) rfl rfl ?_
  refine G.iC H63 at_166 (J := 167) rfl (v := 1) rfl ?_
  refine G.cY H63 at_167 (by decide) (by decide) (J := 187) rfl ?_
  refine G.iL H63 at_187 (J := 189) rfl rfl ?_
  refine G.iC H63 at_189 (J := 190) rfl (v := 2) rfl ?_
  refine G.cY H63 at_190 (by decide) (by decide) (J := 215) rfl ?_
  refine G.iC H63 at_215 (J := 216) rfl (v := 3) rfl ?_
  refine G.newR H63 (wq V 9 rfl) (wq V 31 rfl) at_216 (J := 219) rfl (by decide) (cap := 3) (by decide) (by decide) (by decide) (by decide) (vs := [.null, .null, .null]) rfl (ad := "[Ljava/lang/String;") rfl ?_
  intro T179 h179_ a180 k183 ga180 H179 E181 A182 X184 O185
  have na180 := H63.nle ga180
  refine G.dup H179 at_219 (J := 220) rfl rfl ?_
  refine G.iC H179 at_220 (J := 221) rfl (v := 0) rfl ?_
  refine G.aL H179 at_221 (J := 223) rfl rfl rfl ?_
  have K189 : Keep h43_ h179_ [] := (Keep.ext (Keep.trans (Keep.trans (Keep.refl h43_ []) K60 all0) K70 all0) E181)
  have F190 := (Exa.keep F52.1 K189)
  refine G.stR H179 A182 rfl (OwnKit.sto_of A182 O185 (Ins.self F190)) rfl (by decide) (i := 0) rfl lB na180 at_223 (J := 224) rfl ?_
  intro T186 h186_ H186 W187 A188
  replace A188 : Arv Z h186_ a180 k183 (.object "java/lang/String") 3 [.ref a47, .null, .null] .null := A188
  refine G.dup H186 at_224 (J := 225) rfl rfl ?_
  refine G.iC H186 at_225 (J := 226) rfl (v := 1) rfl ?_
  refine G.aL H186 at_226 (J := 228) rfl rfl rfl ?_
  have K194 : Keep h53_ h63_ [] := (Keep.trans (Keep.refl h53_ []) K70 all0)
  have K195 : Keep h53_ h186_ [] := (Keep.wr (Keep.ext (Keep.trans (Keep.refl h53_ []) K70 all0) E181) W187 (Or.inr (Nat.le_trans K194.1 (Nat.le_of_eq ga180.symm))))
  have F196 := (Exa.keep F62.1 K195)
  refine G.stR H186 A188 rfl (OwnKit.sto_of A188 O185 (Ins.self F196)) rfl (by decide) (i := 1) rfl lB na180 at_228 (J := 229) rfl ?_
  intro T191 h191_ H191 W192 A193
  replace A193 : Arv Z h191_ a180 k183 (.object "java/lang/String") 3 [.ref a47, .ref a57, .null] .null := A193
  refine G.dup H191 at_229 (J := 230) rfl rfl ?_
  refine G.iC H191 at_230 (J := 231) rfl (v := 2) rfl ?_
  refine G.aL H191 at_231 (J := 233) rfl rfl rfl ?_
  have K200 : Keep h63_ h191_ [] := (Keep.wr (Keep.wr (Keep.ext (Keep.refl h63_ []) E181) W187 (Or.inr (Nat.le_of_eq ga180.symm))) W192 (Or.inr (Nat.le_of_eq ga180.symm)))
  have F201 := (Exa.keep F72.1 K200)
  refine G.stR H191 A193 rfl (OwnKit.sto_of A193 O185 (Ins.self F201)) rfl (by decide) (i := 2) rfl lB na180 at_233 (J := 234) rfl ?_
  intro T197 h197_ H197 W198 A199
  replace A199 : Arv Z h197_ a180 k183 (.object "java/lang/String") 3 [.ref a47, .ref a57, .ref a67] .null := A199
  have K202 : Keep h43_ h63_ [] := (Keep.trans (Keep.trans (Keep.refl h43_ []) K60 all0) K70 all0)
  have K203 : Keep h43_ h197_ [] := (Keep.wr (Keep.wr (Keep.wr K189 W187 (Or.inr (Nat.le_trans K202.1 (Nat.le_of_eq ga180.symm)))) W192 (Or.inr (Nat.le_trans K202.1 (Nat.le_of_eq ga180.symm)))) W198 (Or.inr (Nat.le_trans K202.1 (Nat.le_of_eq ga180.symm))))
  have F204 := (StrU.keep F52 K203 nin0 nin0)
  have K205 : Keep h53_ h197_ [] := (Keep.wr (Keep.wr K195 W192 (Or.inr (Nat.le_trans K194.1 (Nat.le_of_eq ga180.symm)))) W198 (Or.inr (Nat.le_trans K194.1 (Nat.le_of_eq ga180.symm))))
  have F206 := (StrU.keep F62 K205 nin0 nin0)
  have K207 : Keep h63_ h197_ [] := (Keep.wr K200 W198 (Or.inr (Nat.le_of_eq ga180.symm)))
  have F208 := (StrU.keep F72 K207 nin0 nin0)
  refine G.cS H197 (m148 V a180 k183 a47 a57 a67 a48 k49 (segOf (((XT.ushr x0 2) &&& 3) % 3) u5 u12) a58 k59 (segOf (((XT.ushr x0 4) &&& 3) % 3) u19 u26) a68 k69 (segOf (((XT.ushr x0 6) &&& 3) % 3) u33 u40) h197_ H197.old A199 F204 F206 F208) (wq V 32 rfl) (wq V 33 rfl) (wd34 V) (wq V 35 rfl) [.ref a180] [] 0 237 (lenOf (pd_33) rfl) at_234 all0 (by decide) ?_
  rintro T209 h209_ _ _ H209 ⟨a213, a214, k215, rfl, rfl, K216, g217, F218⟩
  have na213 := Nat.le_trans H197.le g217
  show Go _ _ _ _ (T209.setTop (mkF m 237 _ [.ref a213]))
  refine G.astore H209 (L' := #[.val (.int x0), .val (.int x1), .val (.int x2), .val (.int x3), .val (.int 3), .val (.int (((XT.ushr x0 2) &&& 3) % 3)), .val (.int (((XT.ushr x0 4) &&& 3) % 3)), .val (.int (((XT.ushr x0 6) &&& 3) % 3)), .val (.int u5), .val (.int u12), .val (.int u19), .val (.int u26), .val (.int u33), .val (.int u40), .val (.ref a47), .val (.ref a57), .val (.ref a67), .val (.ref a213), .unset]) at_237 (J := 239) rfl rfl rfl ?_
  refine G.iC H209 at_239 (J := 240) rfl (v := 0) rfl ?_
  refine G.sI H209 (L' := #[.val (.int x0), .val (.int x1), .val (.int x2), .val (.int x3), .val (.int 3), .val (.int (((XT.ushr x0 2) &&& 3) % 3)), .val (.int (((XT.ushr x0 4) &&& 3) % 3)), .val (.int (((XT.ushr x0 6) &&& 3) % 3)), .val (.int u5), .val (.int u12), .val (.int u19), .val (.int u26), .val (.int u33), .val (.int u40), .val (.ref a47), .val (.ref a57), .val (.ref a67), .val (.ref a213), .val (.int 0)]) at_240 (J := 242) rfl rfl ?_
  refine G.iL H209 at_242 (J := 244) rfl rfl ?_
  refine G.iC H209 at_244 (J := 245) rfl (v := 1) rfl ?_
  refine G.cN H209 at_245 (J := 248) rfl (by decide) ?_
  refine G.aL H209 at_248 (J := 250) rfl rfl rfl ?_
  refine G.iL H209 at_250 (J := 252) rfl rfl ?_
  refine G.iL H209 at_252 (J := 254) rfl rfl ?_
  refine G.iL H209 at_254 (J := 256) rfl rfl ?_
  refine G.iL H209 at_256 (J := 258) rfl rfl ?_
  have S219 : Str Z h209_ a213 a214 k215 (([] : List Int32) ++ ((([47] : List Int32) ++ (encS (segOf (((XT.ushr x0 2) &&& 3) % 3) u5 u12))) ++ (((([47] : List Int32) ++ (encS (segOf (((XT.ushr x0 4) &&& 3) % 3) u19 u26))) ++ ([47] : List Int32)) ++ (encS (segOf (((XT.ushr x0 6) &&& 3) % 3) u33 u40))))) := own_strl (by simp only [ra, rb, rz, rd]) F218
  refine G.cS H209 (m146 V a213 0 (((XT.ushr x0 2) &&& 3) % 3) u5 u12 ([] : List Int32) (((([47] : List Int32) ++ (encS (segOf (((XT.ushr x0 4) &&& 3) % 3) u19 u26))) ++ ([47] : List Int32)) ++ (encS (segOf (((XT.ushr x0 6) &&& 3) % 3) u33 u40)))  a214 k215 h209_ H209.old (by omega) (by simp only [qa, qc, qn] <;> omega) (by simp only [qa, qc, qn] <;> omega) S219 (by simp only [qa, qc, qn] <;> omega) (by simp only [qa, qc, qn] <;> omega) (own_t3 _)) (wq V 258 rfl) (wq V 259 rfl) (wd2 V) (wq V 260 rfl) [.ref a213, .int 0, (.int (((XT.ushr x0 2) &&& 3) % 3)), .int u5, .int u12] [] 0 261 (lenOf (pd_53) rfl) at_258 all0 (by decide) ?_
  rintro T220 h220_ _ _ H220 ⟨rfl, rfl, rfl⟩
  show Go _ _ _ _ (T220.setTop (mkF m 261 _ [(.int (Int32.ofNat (0 + (1 + (encS (segOf (((XT.ushr x0 2) &&& 3) % 3) u5 u12)).length))))]))
  refine G.sI H220 (L' := #[.val (.int x0), .val (.int x1), .val (.int x2), .val (.int x3), .val (.int 3), .val (.int (((XT.ushr x0 2) &&& 3) % 3)), .val (.int (((XT.ushr x0 4) &&& 3) % 3)), .val (.int (((XT.ushr x0 6) &&& 3) % 3)), .val (.int u5), .val (.int u12), .val (.int u19), .val (.int u26), .val (.int u33), .val (.int u40), .val (.ref a47), .val (.ref a57), .val (.ref a67), .val (.ref a213), .val (.int (Int32.ofNat (0 + (1 + (encS (segOf (((XT.ushr x0 2) &&& 3) % 3) u5 u12)).length))))]) at_261 (J := 263) rfl rfl ?_
  refine G.iL H220 at_263 (J := 265) rfl rfl ?_
  refine G.iC H220 at_265 (J := 266) rfl (v := 2) rfl ?_
  refine G.cN H220 at_266 (J := 269) rfl (by decide) ?_
  refine G.aL H220 at_269 (J := 271) rfl rfl rfl ?_
  refine G.iL H220 at_271 (J := 273) rfl rfl ?_
  refine G.iL H220 at_273 (J := 275) rfl rfl ?_
  refine G.iL H220 at_275 (J := 277) rfl rfl ?_
  refine G.iL H220 at_277 (J := 279) rfl rfl ?_
  have S224 : Str Z h209_ a213 a214 k215 ((([47] : List Int32) ++ (encS (segOf (((XT.ushr x0 2) &&& 3) % 3) u5 u12))) ++ ((([47] : List Int32) ++ (encS (segOf (((XT.ushr x0 4) &&& 3) % 3) u19 u26))) ++ (([47] : List Int32) ++ (encS (segOf (((XT.ushr x0 6) &&& 3) % 3) u33 u40))))) := own_strl (by simp only [ra, rb, rz, rd]) S219
  refine G.cS H220 (m146 V a213 (0 + (1 + (encS (segOf (((XT.ushr x0 2) &&& 3) % 3) u5 u12)).length)) (((XT.ushr x0 4) &&& 3) % 3) u19 u26 (([47] : List Int32) ++ (encS (segOf (((XT.ushr x0 2) &&& 3) % 3) u5 u12))) (([47] : List Int32) ++ (encS (segOf (((XT.ushr x0 6) &&& 3) % 3) u33 u40)))  a214 k215 h209_ H220.old (by omega) (by simp only [qa, qc, qn] <;> omega) (by simp only [qa, qc, qn] <;> omega) S224 (by simp only [qa, qc, qn] <;> omega) (by simp only [qa, qc, qn] <;> omega) (own_t3 _)) (wq V 258 rfl) (wq V 259 rfl) (wd2 V) (wq V 260 rfl) [.ref a213, (.int (Int32.ofNat (0 + (1 + (encS (segOf (((XT.ushr x0 2) &&& 3) % 3) u5 u12)).length)))), (.int (((XT.ushr x0 4) &&& 3) % 3)), .int u19, .int u26] [] 0 282 (lenOf (pd_53) rfl) at_279 all0 (by decide) ?_
  rintro T225 h225_ _ _ H225 ⟨rfl, rfl, rfl⟩
  show Go _ _ _ _ (T225.setTop (mkF m 282 _ [(.int (Int32.ofNat ((0 + (1 + (encS (segOf (((XT.ushr x0 2) &&& 3) % 3) u5 u12)).length)) + (1 + (encS (segOf (((XT.ushr x0 4) &&& 3) % 3) u19 u26)).length))))]))
  refine G.sI H225 (L' := #[.val (.int x0), .val (.int x1), .val (.int x2), .val (.int x3), .val (.int 3), .val (.int (((XT.ushr x0 2) &&& 3) % 3)), .val (.int (((XT.ushr x0 4) &&& 3) % 3)), .val (.int (((XT.ushr x0 6) &&& 3) % 3)), .val (.int u5), .val (.int u12), .val (.int u19), .val (.int u26), .val (.int u33), .val (.int u40), .val (.ref a47), .val (.ref a57), .val (.ref a67), .val (.ref a213), .val (.int (Int32.ofNat ((0 + (1 + (encS (segOf (((XT.ushr x0 2) &&& 3) % 3) u5 u12)).length)) + (1 + (encS (segOf (((XT.ushr x0 4) &&& 3) % 3) u19 u26)).length))))]) at_282 (J := 284) rfl rfl ?_
  refine G.iL H225 at_284 (J := 286) rfl rfl ?_
  refine G.iC H225 at_286 (J := 287) rfl (v := 3) rfl ?_
  refine G.cN H225 at_287 (J := 290) rfl (by decide) ?_
  refine G.aL H225 at_290 (J := 292) rfl rfl rfl ?_
  refine G.iL H225 at_292 (J := 294) rfl rfl ?_
  refine G.iL H225 at_294 (J := 296) rfl rfl ?_
  refine G.iL H225 at_296 (J := 298) rfl rfl ?_
  refine G.iL H225 at_298 (J := 300) rfl rfl ?_
  have S229 : Str Z h209_ a213 a214 k215 ((((([47] : List Int32) ++ (encS (segOf (((XT.ushr x0 2) &&& 3) % 3) u5 u12))) ++ ([47] : List Int32)) ++ (encS (segOf (((XT.ushr x0 4) &&& 3) % 3) u19 u26))) ++ ((([47] : List Int32) ++ (encS (segOf (((XT.ushr x0 6) &&& 3) % 3) u33 u40))) ++ ([] : List Int32))) := own_strl (by simp only [ra, rb, rz, rd]) S224
  refine G.cS H225 (m146 V a213 ((0 + (1 + (encS (segOf (((XT.ushr x0 2) &&& 3) % 3) u5 u12)).length)) + (1 + (encS (segOf (((XT.ushr x0 4) &&& 3) % 3) u19 u26)).length)) (((XT.ushr x0 6) &&& 3) % 3) u33 u40 (((([47] : List Int32) ++ (encS (segOf (((XT.ushr x0 2) &&& 3) % 3) u5 u12))) ++ ([47] : List Int32)) ++ (encS (segOf (((XT.ushr x0 4) &&& 3) % 3) u19 u26))) ([] : List Int32)  a214 k215 h209_ H225.old (by omega) (by simp only [qa, qc, qn] <;> omega) (by simp only [qa, qc, qn] <;> omega) S229 (by simp only [qa, qc, qn] <;> omega) (by simp only [qa, qc, qn] <;> omega) (own_t3 _)) (wq V 258 rfl) (wq V 259 rfl) (wd2 V) (wq V 260 rfl) [.ref a213, (.int (Int32.ofNat ((0 + (1 + (encS (segOf (((XT.ushr x0 2) &&& 3) % 3) u5 u12)).length)) + (1 + (encS (segOf (((XT.ushr x0 4) &&& 3) % 3) u19 u26)).length)))), (.int (((XT.ushr x0 6) &&& 3) % 3)), .int u33, .int u40] [] 0 303 (lenOf (pd_53) rfl) at_300 all0 (by decide) ?_
  rintro T230 h230_ _ _ H230 ⟨rfl, rfl, rfl⟩
  show Go _ _ _ _ (T230.setTop (mkF m 303 _ [(.int (Int32.ofNat (((0 + (1 + (encS (segOf (((XT.ushr x0 2) &&& 3) % 3) u5 u12)).length)) + (1 + (encS (segOf (((XT.ushr x0 4) &&& 3) % 3) u19 u26)).length)) + (1 + (encS (segOf (((XT.ushr x0 6) &&& 3) % 3) u33 u40)).length))))]))
  refine G.sI H230 (L' := #[.val (.int x0), .val (.int x1), .val (.int x2), .val (.int x3), .val (.int 3), .val (.int (((XT.ushr x0 2) &&& 3) % 3)), .val (.int (((XT.ushr x0 4) &&& 3) % 3)), .val (.int (((XT.ushr x0 6) &&& 3) % 3)), .val (.int u5), .val (.int u12), .val (.int u19), .val (.int u26), .val (.int u33), .val (.int u40), .val (.ref a47), .val (.ref a57), .val (.ref a67), .val (.ref a213), .val (.int (Int32.ofNat (((0 + (1 + (encS (segOf (((XT.ushr x0 2) &&& 3) % 3) u5 u12)).length)) + (1 + (encS (segOf (((XT.ushr x0 4) &&& 3) % 3) u19 u26)).length)) + (1 + (encS (segOf (((XT.ushr x0 6) &&& 3) % 3) u33 u40)).length))))]) at_303 (J := 305) rfl rfl ?_
  refine G.iL H230 at_305 (J := 307) rfl rfl ?_
  refine G.aL H230 at_307 (J := 309) rfl rfl rfl ?_
  refine G.cV H230 (m62 V a213 a214 k215 ((((([47] : List Int32) ++ (encS (segOf (((XT.ushr x0 2) &&& 3) % 3) u5 u12))) ++ ([47] : List Int32)) ++ (encS (segOf (((XT.ushr x0 4) &&& 3) % 3) u19 u26))) ++ ((([47] : List Int32) ++ (encS (segOf (((XT.ushr x0 6) &&& 3) % 3) u33 u40))) ++ ([] : List Int32))) h209_ H230.old (by simp only [qa, qc, qn] <;> omega) S229) (wq V 105 rfl) (wd106 V) (nf_sel (wd108 V)) (wd108 V) (wd107 V) (wd11 V) (wd109 V) S229.1 [] [(.int (Int32.ofNat (((0 + (1 + (encS (segOf (((XT.ushr x0 2) &&& 3) % 3) u5 u12)).length)) + (1 + (encS (segOf (((XT.ushr x0 4) &&& 3) % 3) u19 u26)).length)) + (1 + (encS (segOf (((XT.ushr x0 6) &&& 3) % 3) u33 u40)).length))))] 1 312 (lenOf (pd_11) rfl) at_309 all0 (by decide) ?_
  rintro T234 h234_ _ _ H234 ⟨rfl, rfl, rfl⟩
  show Go _ _ _ _ (T234.setTop (mkF m 312 _ [(.int (Int32.ofNat (((((([47] : List Int32) ++ (encS (segOf (((XT.ushr x0 2) &&& 3) % 3) u5 u12))) ++ ([47] : List Int32)) ++ (encS (segOf (((XT.ushr x0 4) &&& 3) % 3) u19 u26))) ++ ((([47] : List Int32) ++ (encS (segOf (((XT.ushr x0 6) &&& 3) % 3) u33 u40))) ++ ([] : List Int32))).length))), (.int (Int32.ofNat (((0 + (1 + (encS (segOf (((XT.ushr x0 2) &&& 3) % 3) u5 u12)).length)) + (1 + (encS (segOf (((XT.ushr x0 4) &&& 3) % 3) u19 u26)).length)) + (1 + (encS (segOf (((XT.ushr x0 6) &&& 3) % 3) u33 u40)).length))))]))
  refine G.cN H234 at_312 (J := 315) rfl (XT.ii_ne_f (own_eqT (a := ((0 + (1 + (encS (segOf (((XT.ushr x0 2) &&& 3) % 3) u5 u12)).length)) + (1 + (encS (segOf (((XT.ushr x0 4) &&& 3) % 3) u19 u26)).length)) + (1 + (encS (segOf (((XT.ushr x0 6) &&& 3) % 3) u33 u40)).length)) (b := ((((([47] : List Int32) ++ (encS (segOf (((XT.ushr x0 2) &&& 3) % 3) u5 u12))) ++ ([47] : List Int32)) ++ (encS (segOf (((XT.ushr x0 4) &&& 3) % 3) u19 u26))) ++ ((([47] : List Int32) ++ (encS (segOf (((XT.ushr x0 6) &&& 3) % 3) u33 u40))) ++ ([] : List Int32))).length) (by simp only [qa, qc, qn] <;> omega))) ?_
  refine G.iC H234 at_315 (J := 316) rfl (v := 1) rfl ?_
  refine G.go H234 at_316 (by decide) (J := 320) rfl ?_
  exact G.retN H234 (t := .boolean) rfl (by decide) at_320 (so := []) all0 (by decide) (by decide) rfl

theorem comes_1 {Post : Tables → Env → Array Value → State → Outcome → State → Prop} (hpost : ∀ tb e args s v u, (limb_1_1.after args s (.returned v) u = true ∧ limb_1_2.after args s (.returned v) u = true ∧ True) → ReturnedEndW s (.returned v) u (Jvm.fieldLocs frame_1_writes args s ++ Jvm.arrayLocs frame_1_arrays args s ++ Jvm.staticLocs frame_1_statics s) 64 2624 → Post tb e args s (.returned v) u) :
    ArmFor flags0 classFile x code maxLocals ret World_1 tables_1 room_1 Calls_1 rest_1 Pre_1 Post := by
  intro l hfl _ _ p e ha hc hk s m args below hf hA hF happ hP
  obtain ⟨hcalls, hrest, hpre⟩ := hP
  obtain ⟨-, -, -, hnamed, -, -, -, hat⟩ := (Spec.applies_iff hf).mp happ
  obtain ⟨hg, hn⟩ := and_e (Cond.before_iff.mp (show (Cond.and given_1 narrow_1).before args s = true from hpre))
  obtain ⟨hg0, hg1⟩ := and_e hg
  obtain ⟨ha0, hg2⟩ := and_e hg1
  obtain ⟨ha1, hg3⟩ := and_e hg2
  obtain ⟨ha2, hg4⟩ := and_e hg3
  have ha3 := hg4
  obtain ⟨w0, w1, w2, w3, rfl⟩ : ∃ w0 w1 w2 w3 : Value, args = #[w0, w1, w2, w3] := by
    have hs : args.size = 4 := by simpa [Cond.value, given_1] using hg0
    obtain ⟨L⟩ := args
    match L, hs with
    | [w0, w1, w2, w3], _ => exact ⟨w0, w1, w2, w3, rfl⟩
  have hw := fun d (hd : d ∈ tables_1) => atoms_spec (ws := Jvm.Cond.code x code maxLocals ret :: tables_1) hat d (List.mem_cons_of_mem _ hd)
  obtain ⟨hsets, hown0⟩ := atoms_of _ (rest_1_c_eq ▸ (show rest_1_c.before _ s = true from hrest))
  have hr0 := Cond.before_iff.mp hown0
  have hfit : Fit s := fun {y c} hc i hi => by
    obtain ⟨ha, rfl⟩ := Array.getElem?_eq_some_iff.mp hc
    have q := List.all_eq_true.mp ((Array.all_eq_true_iff_forall_mem.mp hF) _ (Array.getElem_mem ha)) i (List.mem_range.mpr hi)
    simpa [Array.getElem?_eq_getElem hi] using q
  obtain ⟨i0, e0⟩ := is_v ha0
  obtain rfl : w0 = (.int i0) := Option.some.inj e0
  obtain ⟨i1, e1⟩ := is_v ha1
  obtain rfl : w1 = (.int i1) := Option.some.inj e1
  obtain ⟨i2, e2⟩ := is_v ha2
  obtain rfl : w2 = (.int i2) := Option.some.inj e2
  obtain ⟨i3, e3⟩ := is_v ha3
  obtain rfl : w3 = (.int i3) := Option.some.inj e3
  obtain ⟨nr0, hn0⟩ := and_e hn
  obtain ⟨nr1, hn1⟩ := and_e hn0
  obtain ⟨nr2, hn2⟩ := and_e hn1
  have nr3 := hn2
  obtain ⟨uu0, e_HEX⟩ := arr_v nr0
  have hv0 := Sta.start e_HEX (Or.inr ⟨hw _ (List.mem_of_getElem? (i := 34) rfl), hw _ (List.mem_of_getElem? (i := 257) rfl)⟩)
  obtain ⟨uu1, e_INSTANCE⟩ := exa_v (Cond.before_iff.mp (hsets _ (List.mem_of_getElem? (i := 17) rfl)))
  have hv1 := Sta.start e_INSTANCE (Or.inl (hsets _ (List.mem_of_getElem? (i := 12) rfl)))
  have hv2 := Exa.start e_INSTANCE (Cond.before_iff.mp (hsets _ (List.mem_of_getElem? (i := 17) rfl)))
  have e_UTF_8 := own_evR e_INSTANCE (Cond.before_iff.mp (hsets _ (List.mem_of_getElem? (i := 13) rfl)))
  have hv3 := Sta.start e_UTF_8 (Or.inl (hsets _ (List.mem_of_getElem? (i := 10) rfl)))
  have hv4 := Exa.start e_UTF_8 (Cond.before_iff.mp (hsets _ (List.mem_of_getElem? (i := 14) rfl)))
  have hv5 := Sta.start (own_evI (Cond.before_iff.mp (hsets _ (List.mem_of_getElem? (i := 21) rfl)))) (Or.inl (hsets _ (List.mem_of_getElem? (i := 20) rfl)))
  have hv6 := Sta.start (own_evI (Cond.before_iff.mp (hsets _ (List.mem_of_getElem? (i := 24) rfl)))) (Or.inl (hsets _ (List.mem_of_getElem? (i := 23) rfl)))
  have hv7 := Sta.start (own_evI (Cond.before_iff.mp (hsets _ (List.mem_of_getElem? (i := 27) rfl)))) (Or.inl (hsets _ (List.mem_of_getElem? (i := 26) rfl)))
  obtain ⟨uu2, ez_COMPACT_STRINGS⟩ := is_v (Cond.before_iff.mp (hsets _ (List.mem_of_getElem? (i := 1) rfl)))
  have hv8 := Sta.start ez_COMPACT_STRINGS (Or.inl (hsets _ (List.mem_of_getElem? (i := 0) rfl)))
  have hv9 : ¬ (uu2 = (0 : Int32)) := gotF (Cond.eq_ints ez_COMPACT_STRINGS (Term.int_eval (0))) (not_v (Cond.before_iff.mp (hsets _ (List.mem_of_getElem? (i := 2) rfl))))
  obtain ⟨uu3, ez_SIOOBE_FORMATTER, hv11⟩ := isR_v (Cond.before_iff.mp (hsets _ (List.mem_of_getElem? (i := 8) rfl)))
  have hv10 := Sta.start ez_SIOOBE_FORMATTER (Or.inl (hsets _ (List.mem_of_getElem? (i := 7) rfl)))
  obtain ⟨cl_HEX, Ar_HEX⟩ := Arr.start e_HEX nr0
  obtain ⟨sz_HEX, ln_HEX⟩ := own_len e_HEX Ar_HEX nr1
  have hv12 : Arv s s.heap uu0 cl_HEX.cls .char 16 [.int 48, .int 49, .int 50, .int 51, .int 52, .int 53, .int 54, .int 55, .int 56, .int 57, .int 65, .int 66, .int 67, .int 68, .int 69, .int 70] (.int 0) := Arv.start hfit Ar_HEX sz_HEX ln_HEX (by decide) rfl ⟨own_hexel e_HEX Ar_HEX sz_HEX ln_HEX nr2 nr3 (j := 0) (by decide), own_hexel e_HEX Ar_HEX sz_HEX ln_HEX nr2 nr3 (j := 1) (by decide), own_hexel e_HEX Ar_HEX sz_HEX ln_HEX nr2 nr3 (j := 2) (by decide), own_hexel e_HEX Ar_HEX sz_HEX ln_HEX nr2 nr3 (j := 3) (by decide), own_hexel e_HEX Ar_HEX sz_HEX ln_HEX nr2 nr3 (j := 4) (by decide), own_hexel e_HEX Ar_HEX sz_HEX ln_HEX nr2 nr3 (j := 5) (by decide), own_hexel e_HEX Ar_HEX sz_HEX ln_HEX nr2 nr3 (j := 6) (by decide), own_hexel e_HEX Ar_HEX sz_HEX ln_HEX nr2 nr3 (j := 7) (by decide), own_hexel e_HEX Ar_HEX sz_HEX ln_HEX nr2 nr3 (j := 8) (by decide), own_hexel e_HEX Ar_HEX sz_HEX ln_HEX nr2 nr3 (j := 9) (by decide), own_hexel e_HEX Ar_HEX sz_HEX ln_HEX nr2 nr3 (j := 10) (by decide), own_hexel e_HEX Ar_HEX sz_HEX ln_HEX nr2 nr3 (j := 11) (by decide), own_hexel e_HEX Ar_HEX sz_HEX ln_HEX nr2 nr3 (j := 12) (by decide), own_hexel e_HEX Ar_HEX sz_HEX ln_HEX nr2 nr3 (j := 13) (by decide), own_hexel e_HEX Ar_HEX sz_HEX ln_HEX nr2 nr3 (j := 14) (by decide), own_hexel e_HEX Ar_HEX sz_HEX ln_HEX nr2 nr3 (j := 15) (by decide), trivial⟩
  have V : Env1 s _ s.heap.size uu0 uu1 uu2 uu3 cl_HEX.cls := ⟨hw, (EW.cons (hw _ (List.mem_of_getElem? (i := 146) rfl)) (by decide) (EW.cons (hw _ (List.mem_of_getElem? (i := 23) rfl)) (by decide) EW.nil)), hv0, hv1, hv2, hv3, hv4, hv5, hv6, hv7, hv8, hv9, hv10, hv11, hv12, trivial⟩
  have hCH : CHv s ELs s.vm s.heap := CHv.start (EWl V) (fun q hq => hcalls.1 q hq) (hsets _ (List.mem_of_getElem? (i := 2) rfl)) (hw _ (List.mem_of_getElem? (i := 24) rfl)) (hw _ (List.mem_of_getElem? (i := 10) rfl))
  obtain ⟨n, o, g1, g2, g3, v, L, so, rfl, rfl, -, N, -, -, hq, hq2⟩ := rmLaw (l := l) V i0 i1 i2 i3 s.heap (Old.start s) tables_1 p e ha hc hk s m _ below hf ((Spec.applies_iff_loose hf).mp happ).1 ⟨rfl, State.Warmed39.refl s, rfl, hCH, fun _ q => nomatch q⟩ trivial
  refine ⟨n, _, g1, g2, g3, hpost _ _ _ _ _ _ ⟨Cond.after_iff.mpr rfl, Cond.after_iff.mpr (eq_i res_at (Term.int_eval (1)) rfl), trivial⟩ ⟨hq.1, hq.2.1, hq.2.2.1, (hq.2.2.2.sift fun y hy => Or.inr (N y hy)).mono (by decide) (by decide)⟩⟩
theorem main_1_1 : Claimed_1_1 := comes_1 fun _ _ _ _ _ _ h hF => ⟨h.1, hF⟩
theorem main_1_2 : Claimed_1_2 := comes_1 fun _ _ _ _ _ _ h hF => ⟨h.2.1, hF⟩
end Jvm.Pilot.@@N@@
namespace Jvm.Pilot.@@N@@
open Jvm Jvm.ClassFile Sem Op Lib Jvm.Free Jvm.Stand Jvm.Pilot.@@N@@.Jvm.D
/-! MADE BY PROGRAM (witnessworld.py) out of the Statement's table words and the real class files: 34 classes; the members and pool entries that the words name. The judged class is class 1, her method 1. -/
namespace start1
set_option maxRecDepth 65536
open Jvm.ClassFile
def u (s : String) : CpInfo := .utf8 (stringToUtf16 s)
def gap : Nat → List CpInfo → List CpInfo
  | 0, r => r
  | n + 1, r => .unusable :: gap n r
def poolList (es : List (Nat × CpInfo)) (last : Nat) : List CpInfo := es.foldr (fun e r => gap e.1 (e.2 :: r)) (gap last [])
def pool (es : List (Nat × CpInfo)) (last : Nat) : Array CpInfo := ⟨poolList es last⟩
def fileOf (pool : Array CpInfo) (this : Nat) (attrs : Array Attribute := #[]) (ms : Array MethodInfo := #[]) (fl : Nat := 33) (sup : Nat := 0) (ifs : Array Nat := #[]) (fds : Array FieldInfo := #[]) : ClassFile where
  minorVersion := 0
  majorVersion := 65
  constantPool := pool
  accessFlags := fl
  thisClass := this
  superClass := sup
  interfaces := ifs
  fields := fds
  methods := ms
  attributes := attrs
def plain (name : String) (sup : Option ClassId) : Class where
  name := name
  kind := .ordinary
  loader := none
  accessFlags := 33
  super := sup
  interfaces := #[]
  cf := none
  fields := #[]
  methods := #[]
  instanceTypes := #[]
  staticTypes := #[]
  resolved := #[]
  callSites := []
  init := .initialized
  statics := none
  mirror := none

def pool0 : Array CpInfo := pool [(5, u "<init>"), (0, u "()V"), (1, .class_ 10), (1, u "java/lang/Object"), (85, u "clone"), (0, u "()Ljava/lang/Object;")] 26

def k0c0 : Code := { maxStack := 0, maxLocals := 1, code := object_method_1_code, exceptionTable := #[], attributes := #[] }
def k0m0 : Method := { name := "<init>", desc := "()V", sig := { parameters := [], returnType := none }, accessFlags := 1, code := some k0c0 }
def k0m1 : Method := { name := "clone", desc := "()Ljava/lang/Object;", sig := { parameters := [], returnType := some (.object "java/lang/Object") }, accessFlags := 260, code := none }
def k0 : Class := { plain "java/lang/Object" none with
  accessFlags := 33
  interfaces := #[]
  cf := some (fileOf pool0 8 #[] #[⟨1, 5, 6, #[]⟩, ⟨260, 96, 97, #[]⟩] 33 0 #[] #[])
  fields := #[]
  methods := #[k0m0, k0m1]
  instanceTypes := #[]
  staticTypes := #[]
  resolved := Array.replicate 124 none
  statics := none }

def pool1 : Array CpInfo := pool [(2, .class_ 4), (1, u "java/lang/Object"), (0, u "<init>"), (0, u "()V"), (0, .methodref 8 9), (0, .class_ 10), (0, .nameAndType 11 12), (0, u "com/example/schema_to_form/schematoform/server/PathSegmentsPathPinLaw"), (0, u "unit"), (0, u "(II)C"), (0, .methodref 8 14), (0, .nameAndType 15 16), (0, u "seg"), (0, u "(ICC)Ljava/lang/String;"), (0, .class_ 18), (0, u "java/lang/String"), (0, .methodref 20 21), (0, .class_ 22), (0, .nameAndType 23 24), (0, u "com/example/schema_to_form/schematoform/server/PathSegments"), (0, u "path"), (0, u "([Ljava/lang/String;)Ljava/lang/String;"), (0, .methodref 8 26), (0, .nameAndType 27 28), (0, u "expectSeg"), (0, u "(Ljava/lang/String;IICC)I"), (0, .methodref 17 30), (0, .nameAndType 31 32), (0, u "length"), (0, u "()I"), (0, .integer 65535), (0, .integer 55296), (0, .integer 57343), (0, .methodref 17 37), (0, .nameAndType 5 38), (0, u "([C)V"), (0, .methodref 17 40), (0, .nameAndType 41 42), (0, u "valueOf"), (0, u "(C)Ljava/lang/String;"), (0, .methodref 17 44), (0, .nameAndType 45 46), (0, u "charAt"), (0, u "(I)C"), (0, .methodref 8 48), (0, .nameAndType 49 50), (0, u "expectChar"), (0, u "(Ljava/lang/String;IC)I"), (0, .methodref 8 52), (0, .nameAndType 53 46), (0, u "hexDigit"), (0, .methodref 8 55), (0, .nameAndType 56 57), (0, u "unreserved"), (0, u "(I)Z"), (0, .methodref 8 59), (0, .nameAndType 60 61), (0, u "expectByte"), (0, u "(Ljava/lang/String;II)I"), (0, .methodref 8 63), (0, .nameAndType 64 50), (0, u "expectUnit"), (2, u "law"), (0, u "(IIII)Z")] 3

def k1m0 : Method := { name := "<init>", desc := "()V", sig := { parameters := [], returnType := none }, accessFlags := 2, code := none }
def k1c1 : Code := { maxStack := 5, maxLocals := 19, code := code, exceptionTable := #[], attributes := #[] }
def k1m1 : Method := { name := "law", desc := "(IIII)Z", sig := { parameters := [.int, .int, .int, .int], returnType := some .boolean }, accessFlags := 9, code := some k1c1 }
def k1c2 : Code := { maxStack := 2, maxLocals := 3, code := method_3_code, exceptionTable := #[], attributes := #[] }
def k1m2 : Method := { name := "unit", desc := "(II)C", sig := { parameters := [.int, .int], returnType := some .char }, accessFlags := 10, code := some k1c2 }
def k1c3 : Code := { maxStack := 6, maxLocals := 3, code := method_4_code, exceptionTable := #[], attributes := #[] }
def k1m3 : Method := { name := "seg", desc := "(ICC)Ljava/lang/String;", sig := { parameters := [.int, .char, .char], returnType := some (.object "java/lang/String") }, accessFlags := 10, code := some k1c3 }
def k1c4 : Code := { maxStack := 2, maxLocals := 1, code := method_5_code, exceptionTable := #[], attributes := #[] }
def k1m4 : Method := { name := "unreserved", desc := "(I)Z", sig := { parameters := [.int], returnType := some .boolean }, accessFlags := 10, code := some k1c4 }
def k1c5 : Code := { maxStack := 3, maxLocals := 1, code := method_6_code, exceptionTable := #[], attributes := #[] }
def k1m5 : Method := { name := "hexDigit", desc := "(I)C", sig := { parameters := [.int], returnType := some .char }, accessFlags := 10, code := some k1c5 }
def k1c6 : Code := { maxStack := 2, maxLocals := 3, code := method_7_code, exceptionTable := #[], attributes := #[] }
def k1m6 : Method := { name := "expectChar", desc := "(Ljava/lang/String;IC)I", sig := { parameters := [(.object "java/lang/String"), .int, .char], returnType := some .int }, accessFlags := 10, code := some k1c6 }
def k1c7 : Code := { maxStack := 4, maxLocals := 4, code := method_8_code, exceptionTable := #[], attributes := #[] }
def k1m7 : Method := { name := "expectByte", desc := "(Ljava/lang/String;II)I", sig := { parameters := [(.object "java/lang/String"), .int, .int], returnType := some .int }, accessFlags := 10, code := some k1c7 }
def k1c8 : Code := { maxStack := 5, maxLocals := 5, code := method_9_code, exceptionTable := #[], attributes := #[] }
def k1m8 : Method := { name := "expectUnit", desc := "(Ljava/lang/String;IC)I", sig := { parameters := [(.object "java/lang/String"), .int, .char], returnType := some .int }, accessFlags := 10, code := some k1c8 }
def k1c9 : Code := { maxStack := 3, maxLocals := 6, code := method_10_code, exceptionTable := #[], attributes := #[] }
def k1m9 : Method := { name := "expectSeg", desc := "(Ljava/lang/String;IICC)I", sig := { parameters := [(.object "java/lang/String"), .int, .int, .char, .char], returnType := some .int }, accessFlags := 10, code := some k1c9 }
def k1 : Class := { plain "com/example/schema_to_form/schematoform/server/PathSegmentsPathPinLaw" (some 0) with
  accessFlags := 49
  interfaces := #[]
  cf := some (fileOf pool1 8 #[] #[⟨2, 5, 6, #[]⟩, ⟨9, 67, 68, #[]⟩, ⟨10, 11, 12, #[]⟩, ⟨10, 15, 16, #[]⟩, ⟨10, 56, 57, #[]⟩, ⟨10, 53, 46, #[]⟩, ⟨10, 49, 50, #[]⟩, ⟨10, 60, 61, #[]⟩, ⟨10, 64, 50, #[]⟩, ⟨10, 27, 28, #[]⟩] 49 2 #[] #[])
  fields := #[]
  methods := #[k1m0, k1m1, k1m2, k1m3, k1m4, k1m5, k1m6, k1m7, k1m8, k1m9]
  instanceTypes := #[]
  staticTypes := #[]
  resolved := Array.replicate 72 none
  statics := none }

def pool2 : Array CpInfo := pool [(1, .class_ 2), (0, u "java/io/Serializable"), (0, .class_ 4), (0, u "java/lang/Object")] 2

def k2 : Class := { plain "java/io/Serializable" (some 0) with
  accessFlags := 1537
  interfaces := #[]
  cf := some (fileOf pool2 1 #[] #[] 1537 3 #[] #[])
  fields := #[]
  methods := #[]
  instanceTypes := #[]
  staticTypes := #[]
  resolved := Array.replicate 7 none
  statics := none }

def pool3 : Array CpInfo := pool [(1, .class_ 2), (0, u "java/lang/Comparable"), (0, .class_ 4), (0, u "java/lang/Object")] 7

def k3 : Class := { plain "java/lang/Comparable" (some 0) with
  accessFlags := 1537
  interfaces := #[]
  cf := some (fileOf pool3 1 #[] #[] 1537 3 #[] #[])
  fields := #[]
  methods := #[]
  instanceTypes := #[]
  staticTypes := #[]
  resolved := Array.replicate 12 none
  statics := none }

def pool4 : Array CpInfo := pool [(2, .class_ 4), (1, u "java/lang/CharSequence"), (42, .class_ 48), (0, u "java/lang/CharSequence$1CodePointIterator"), (10, .class_ 60), (0, u "java/lang/CharSequence$1CharIterator"), (5, .class_ 67), (0, u "java/lang/Object")] 63

def k4 : Class := { plain "java/lang/CharSequence" (some 0) with
  accessFlags := 1537
  interfaces := #[]
  cf := some (fileOf pool4 2 #[.nestMembers #[47, 59]] #[] 1537 66 #[] #[])
  fields := #[]
  methods := #[]
  instanceTypes := #[]
  staticTypes := #[]
  resolved := Array.replicate 131 none
  statics := none }

def pool5 : Array CpInfo := pool [(1, .class_ 2), (0, u "java/lang/constant/Constable"), (0, .class_ 4), (0, u "java/lang/Object")] 6

def k5 : Class := { plain "java/lang/constant/Constable" (some 0) with
  accessFlags := 1537
  interfaces := #[]
  cf := some (fileOf pool5 1 #[] #[] 1537 3 #[] #[])
  fields := #[]
  methods := #[]
  instanceTypes := #[]
  staticTypes := #[]
  resolved := Array.replicate 11 none
  statics := none }

def pool6 : Array CpInfo := pool [(1, .class_ 2), (0, u "java/lang/constant/ConstantDesc"), (0, .class_ 4), (0, u "java/lang/Object")] 32

def k6 : Class := { plain "java/lang/constant/ConstantDesc" (some 0) with
  accessFlags := 1537
  interfaces := #[]
  cf := some (fileOf pool6 1 #[] #[] 1537 3 #[] #[])
  fields := #[]
  methods := #[]
  instanceTypes := #[]
  staticTypes := #[]
  resolved := Array.replicate 37 none
  statics := none }

def pool7 : Array CpInfo := pool [(1, .methodref 2 3), (0, .class_ 4), (0, .nameAndType 5 6), (0, u "java/lang/Object"), (0, u "<init>"), (0, u "()V"), (0, .string 8), (0, u ""), (0, .fieldref 10 11), (0, .class_ 12), (0, .nameAndType 13 14), (0, u "java/lang/String"), (0, u "value"), (0, u "[B"), (0, .fieldref 10 16), (0, .nameAndType 17 18), (0, u "coder"), (0, u "B"), (2, u "hash"), (0, u "I"), (2, u "hashIsZero"), (0, u "Z"), (0, .methodref 10 28), (0, .nameAndType 5 29), (0, u "([CIILjava/lang/Void;)V"), (8, .fieldref 10 39), (0, .nameAndType 40 26), (0, u "COMPACT_STRINGS"), (1, .class_ 44), (1, u "java/lang/StringUTF16"), (0, u "compress"), (1, .methodref 42 48), (0, .nameAndType 49 50), (0, u "coderFromArrayLen"), (0, u "([BI)B"), (2, u "toBytes"), (0, .methodref 55 56), (0, .class_ 57), (0, .nameAndType 58 59), (0, u "java/util/Arrays"), (0, u "copyOfRange"), (0, u "([BII)[B"), (0, .methodref 42 61), (0, .nameAndType 62 63), (0, u "newBytesFor"), (0, u "(I)[B"), (22, .fieldref 87 88), (0, .class_ 89), (0, .nameAndType 90 91), (0, u "sun/nio/cs/UTF_8"), (0, u "INSTANCE"), (0, u "Lsun/nio/cs/UTF_8;"), (1, .class_ 95), (1, u "java/lang/StringCoding"), (6, .methodref 55 103), (0, .nameAndType 104 105), (0, u "copyOf"), (0, u "([BI)[B"), (1, .class_ 109), (1, u "java/lang/StringLatin1"), (18, .methodref 93 129), (0, .nameAndType 130 131), (0, u "hasNegatives"), (0, u "([BII)Z"), (10, u "()Z"), (34, .methodref 42 178), (0, .nameAndType 45 179), (0, u "([CII)[B"), (13, .class_ 195), (1, u "java/lang/System"), (13, .methodref 10 210), (0, .nameAndType 5 211), (0, u "([BB)V"), (0, .methodref 193 213), (0, .nameAndType 214 215), (0, u "arraycopy"), (0, u "(Ljava/lang/Object;ILjava/lang/Object;II)V"), (36, .methodref 10 253), (0, .nameAndType 254 255), (0, u "encodeUTF8"), (0, u "(B[BZ)[B"), (23, .methodref 280 281), (0, .class_ 14), (0, .nameAndType 282 283), (0, u "clone"), (0, u "()Ljava/lang/Object;"), (33, u "encode"), (16, u "()I"), (0, .methodref 10 336), (0, .nameAndType 17 337), (0, u "()B"), (2, u "()[B"), (19, .methodref 42 361), (0, .nameAndType 362 363), (0, u "getChar"), (0, u "([BI)C"), (1, .class_ 367), (1, u "java/lang/Character"), (1, u "(C)Z"), (21, u "(II)V"), (12, .methodref 365 405), (0, .nameAndType 406 369), (0, u "isSurrogate"), (20, u "(I)C"), (45, .methodref 10 474), (0, .nameAndType 475 476), (0, u "encodeUTF8_UTF16"), (0, u "([BZ)[B"), (12, .methodref 10 490), (0, .nameAndType 5 491), (0, u "(Ljava/lang/AbstractStringBuilder;Ljava/lang/Void;)V"), (0, .methodref 10 493), (0, .nameAndType 494 142), (0, u "isLatin1"), (0, .methodref 107 496), (0, .nameAndType 497 363), (0, u "charAt"), (0, .methodref 42 496), (2, u "checkIndex"), (3, .methodref 10 506), (0, .nameAndType 507 334), (0, u "length"), (24, u "getBytes"), (2, .methodref 10 536), (0, .nameAndType 317 537), (0, u "(Ljava/nio/charset/Charset;B[B)[B"), (11, .methodref 550 506), (0, .class_ 551), (0, u "java/lang/AbstractStringBuilder"), (0, .methodref 550 553), (0, .nameAndType 554 340), (0, u "getValue"), (20, .class_ 576), (0, u "java/lang/CharSequence"), (22, u "CASE_INSENSITIVE_ORDER"), (0, u "Ljava/util/Comparator;"), (32, .methodref 10 634), (0, .nameAndType 635 636), (0, u "indexOf"), (0, u "(II)I"), (0, .methodref 107 638), (0, .nameAndType 635 639), (0, u "([BIII)I"), (125, u "(I)I"), (16, u "valueOf"), (0, u "(C)Ljava/lang/String;"), (37, u "([BIB)V"), (188, u "([C)V"), (4, .methodref 107 1016), (0, .nameAndType 1017 369), (0, u "canEncode"), (0, .methodref 107 1019), (0, .nameAndType 53 1020), (0, u "(C)[B"), (0, .methodref 42 1019), (25, .methodref 550 493), (5, .fieldref 1054 1055), (0, .class_ 1056), (0, .nameAndType 1057 1058), (0, u "jdk/internal/util/Preconditions"), (0, u "SIOOBE_FORMATTER"), (0, u "Ljava/util/function/BiFunction;"), (0, .methodref 1054 1060), (0, .nameAndType 501 1061), (0, u "(IILjava/util/function/BiFunction;)I"), (39, u "serialPersistentFields"), (0, u "[Ljava/io/ObjectStreamField;"), (0, .class_ 1104), (0, u "java/lang/String$CaseInsensitiveComparator"), (1, .class_ 1107), (0, u "java/io/Serializable"), (0, .class_ 1109), (0, u "java/lang/Comparable"), (0, .class_ 1111), (0, u "java/lang/constant/Constable"), (0, .class_ 1113), (0, u "java/lang/constant/ConstantDesc"), (2, u "serialVersionUID"), (0, u "J"), (3, u "REPL"), (0, u "C"), (2, u "LATIN1"), (1, u "UTF16"), (105, u "(Ljava/lang/StringBuilder;)V"), (11, u "(Ljava/nio/charset/Charset;)[B")] 205

def k7m0 : Method := { name := "<init>", desc := "()V", sig := { parameters := [], returnType := none }, accessFlags := 1, code := none }
def k7c1 : Code := { maxStack := 5, maxLocals := 2, code := jdk_42_method_3_code, exceptionTable := #[], attributes := #[] }
def k7m1 : Method := { name := "<init>", desc := "([C)V", sig := { parameters := [(.array .char)], returnType := none }, accessFlags := 1, code := some k7c1 }
def k7c2 : Code := { maxStack := 4, maxLocals := 3, code := jdk_42_method_18_code, exceptionTable := #[], attributes := #[] }
def k7m2 : Method := { name := "encode", desc := "(Ljava/nio/charset/Charset;B[B)[B", sig := { parameters := [(.object "java/nio/charset/Charset"), .byte, (.array .byte)], returnType := some (.array .byte) }, accessFlags := 10, code := some k7c2 }
def k7c3 : Code := { maxStack := 5, maxLocals := 9, code := jdk_42_method_46_code, exceptionTable := #[], attributes := #[] }
def k7m3 : Method := { name := "encodeUTF8", desc := "(B[BZ)[B", sig := { parameters := [.byte, (.array .byte), .boolean], returnType := some (.array .byte) }, accessFlags := 10, code := some k7c3 }
def k7c4 : Code := { maxStack := 5, maxLocals := 9, code := jdk_42_method_47_code, exceptionTable := #[], attributes := #[] }
def k7m4 : Method := { name := "encodeUTF8_UTF16", desc := "([BZ)[B", sig := { parameters := [(.array .byte), .boolean], returnType := some (.array .byte) }, accessFlags := 10, code := some k7c4 }
def k7c5 : Code := { maxStack := 3, maxLocals := 2, code := jdk_42_method_53_code, exceptionTable := #[], attributes := #[] }
def k7m5 : Method := { name := "<init>", desc := "(Ljava/lang/StringBuilder;)V", sig := { parameters := [(.object "java/lang/StringBuilder")], returnType := none }, accessFlags := 1, code := some k7c5 }
def k7c6 : Code := { maxStack := 2, maxLocals := 1, code := jdk_42_method_54_code, exceptionTable := #[], attributes := #[] }
def k7m6 : Method := { name := "length", desc := "()I", sig := { parameters := [], returnType := some .int }, accessFlags := 1, code := some k7c6 }
def k7c7 : Code := { maxStack := 2, maxLocals := 2, code := jdk_42_method_56_code, exceptionTable := #[], attributes := #[] }
def k7m7 : Method := { name := "charAt", desc := "(I)C", sig := { parameters := [.int], returnType := some .char }, accessFlags := 1, code := some k7c7 }
def k7c8 : Code := { maxStack := 3, maxLocals := 2, code := jdk_42_method_64_code, exceptionTable := #[], attributes := #[] }
def k7m8 : Method := { name := "getBytes", desc := "(Ljava/nio/charset/Charset;)[B", sig := { parameters := [(.object "java/nio/charset/Charset")], returnType := some (.array .byte) }, accessFlags := 1, code := some k7c8 }
def k7c9 : Code := { maxStack := 3, maxLocals := 2, code := jdk_42_method_79_code, exceptionTable := #[], attributes := #[] }
def k7m9 : Method := { name := "indexOf", desc := "(I)I", sig := { parameters := [.int], returnType := some .int }, accessFlags := 1, code := some k7c9 }
def k7c10 : Code := { maxStack := 4, maxLocals := 3, code := jdk_42_method_80_code, exceptionTable := #[], attributes := #[] }
def k7m10 : Method := { name := "indexOf", desc := "(II)I", sig := { parameters := [.int, .int], returnType := some .int }, accessFlags := 1, code := some k7c10 }
def k7c11 : Code := { maxStack := 4, maxLocals := 1, code := jdk_42_method_139_code, exceptionTable := #[], attributes := #[] }
def k7m11 : Method := { name := "valueOf", desc := "(C)Ljava/lang/String;", sig := { parameters := [.char], returnType := some (.object "java/lang/String") }, accessFlags := 9, code := some k7c11 }
def k7c12 : Code := { maxStack := 5, maxLocals := 4, code := jdk_42_method_147_code, exceptionTable := #[], attributes := #[] }
def k7m12 : Method := { name := "getBytes", desc := "([BIB)V", sig := { parameters := [(.array .byte), .int, .byte], returnType := none }, accessFlags := 0, code := some k7c12 }
def k7c13 : Code := { maxStack := 4, maxLocals := 6, code := jdk_42_method_149_code, exceptionTable := #[], attributes := #[] }
def k7m13 : Method := { name := "<init>", desc := "([CIILjava/lang/Void;)V", sig := { parameters := [(.array .char), .int, .int, (.object "java/lang/Void")], returnType := none }, accessFlags := 2, code := some k7c13 }
def k7c14 : Code := { maxStack := 5, maxLocals := 5, code := jdk_42_method_150_code, exceptionTable := #[], attributes := #[] }
def k7m14 : Method := { name := "<init>", desc := "(Ljava/lang/AbstractStringBuilder;Ljava/lang/Void;)V", sig := { parameters := [(.object "java/lang/AbstractStringBuilder"), (.object "java/lang/Void")], returnType := none }, accessFlags := 0, code := some k7c14 }
def k7c15 : Code := { maxStack := 2, maxLocals := 3, code := jdk_42_method_151_code, exceptionTable := #[], attributes := #[] }
def k7m15 : Method := { name := "<init>", desc := "([BB)V", sig := { parameters := [(.array .byte), .byte], returnType := none }, accessFlags := 0, code := some k7c15 }
def k7c16 : Code := { maxStack := 1, maxLocals := 1, code := jdk_42_method_152_code, exceptionTable := #[], attributes := #[] }
def k7m16 : Method := { name := "coder", desc := "()B", sig := { parameters := [], returnType := some .byte }, accessFlags := 0, code := some k7c16 }
def k7c17 : Code := { maxStack := 1, maxLocals := 1, code := jdk_42_method_154_code, exceptionTable := #[], attributes := #[] }
def k7m17 : Method := { name := "isLatin1", desc := "()Z", sig := { parameters := [], returnType := some .boolean }, accessFlags := 0, code := some k7c17 }
def k7c18 : Code := { maxStack := 3, maxLocals := 2, code := jdk_42_method_155_code, exceptionTable := #[], attributes := #[] }
def k7m18 : Method := { name := "checkIndex", desc := "(II)V", sig := { parameters := [.int, .int], returnType := none }, accessFlags := 8, code := some k7c18 }
def k7 : Class := { plain "java/lang/String" (some 0) with
  accessFlags := 49
  interfaces := #[2, 3, 4, 5, 6]
  cf := some (fileOf pool7 10 #[.nestMembers #[1103]] #[⟨1, 5, 6, #[]⟩, ⟨1, 5, 1010, #[]⟩, ⟨10, 317, 537, #[]⟩, ⟨10, 254, 255, #[]⟩, ⟨10, 475, 476, #[]⟩, ⟨1, 5, 1233, #[]⟩, ⟨1, 507, 334, #[]⟩, ⟨1, 497, 427, #[]⟩, ⟨1, 532, 1245, #[]⟩, ⟨1, 635, 765, #[]⟩, ⟨1, 635, 636, #[]⟩, ⟨9, 782, 783, #[]⟩, ⟨0, 532, 821, #[]⟩, ⟨2, 5, 29, #[]⟩, ⟨0, 5, 491, #[]⟩, ⟨0, 5, 211, #[]⟩, ⟨0, 17, 337, #[]⟩, ⟨0, 494, 142, #[]⟩, ⟨8, 501, 391, #[]⟩] 49 2 #[1106, 1108, 575, 1110, 1112] #[⟨18, 13, 14, #[]⟩, ⟨18, 17, 18, #[]⟩, ⟨2, 21, 22, #[]⟩, ⟨2, 25, 26, #[]⟩, ⟨26, 1116, 1117, #[]⟩, ⟨24, 40, 26, #[]⟩, ⟨26, 1101, 1102, #[]⟩, ⟨26, 1121, 1122, #[]⟩, ⟨25, 599, 600, #[]⟩, ⟨24, 1125, 18, #[]⟩, ⟨24, 1127, 18, #[]⟩])
  fields := #[⟨"value", (.array .byte), 18, 0, 0⟩, ⟨"coder", .byte, 18, 1, 0⟩, ⟨"hash", .int, 2, 2, 0⟩, ⟨"hashIsZero", .boolean, 2, 3, 0⟩, ⟨"serialVersionUID", .long, 26, 0, 0⟩, ⟨"COMPACT_STRINGS", .boolean, 24, 1, 0⟩, ⟨"serialPersistentFields", (.array (.object "java/io/ObjectStreamField")), 26, 2, 0⟩, ⟨"REPL", .char, 26, 3, 0⟩, ⟨"CASE_INSENSITIVE_ORDER", (.object "java/util/Comparator"), 25, 4, 0⟩, ⟨"LATIN1", .byte, 24, 5, 0⟩, ⟨"UTF16", .byte, 24, 6, 0⟩]
  methods := #[k7m0, k7m1, k7m2, k7m3, k7m4, k7m5, k7m6, k7m7, k7m8, k7m9, k7m10, k7m11, k7m12, k7m13, k7m14, k7m15, k7m16, k7m17, k7m18]
  instanceTypes := #[(.array .byte), .byte, .int, .boolean]
  staticTypes := #[.long, .boolean, (.array (.object "java/io/ObjectStreamField")), .char, (.object "java/util/Comparator"), .byte, .byte]
  resolved := Array.replicate 1451 none
  statics := some 0 }

def pool8 : Array CpInfo := pool [(1, .class_ 2), (0, u "com/example/schema_to_form/schematoform/server/PathSegments"), (1, .class_ 6), (0, .nameAndType 7 8), (0, u "java/lang/Object"), (0, u "<init>"), (0, u "()V"), (2, u "segments"), (0, u "Ljava/util/List;"), (2, u "readable"), (0, u "Z"), (13, .methodref 31 32), (0, .class_ 33), (0, .nameAndType 34 35), (0, u "java/lang/String"), (0, u "indexOf"), (0, u "(I)I"), (0, .string 37), (0, u ""), (9, u "(Ljava/lang/String;Ljava/lang/String;)Z"), (5, .methodref 31 54), (0, .nameAndType 55 56), (0, u "length"), (0, u "()I"), (34, .class_ 92), (0, u "java/lang/StringBuilder"), (0, .methodref 91 5), (0, .methodref 91 95), (0, .nameAndType 96 97), (0, u "append"), (0, u "(C)Ljava/lang/StringBuilder;"), (0, .methodref 1 99), (0, .nameAndType 100 101), (0, u "appendEncoded"), (0, u "(Ljava/lang/StringBuilder;Ljava/lang/String;Ljava/lang/String;)V"), (0, .methodref 91 103), (0, .nameAndType 104 105), (0, u "toString"), (0, u "()Ljava/lang/String;"), (2, .methodref 1 109), (0, .nameAndType 110 47), (0, u "isUnreserved"), (0, .methodref 91 112), (0, .nameAndType 96 113), (0, u "(Ljava/lang/String;)Ljava/lang/StringBuilder;"), (0, .fieldref 115 116), (0, .class_ 117), (0, .nameAndType 118 119), (0, u "java/nio/charset/StandardCharsets"), (0, u "UTF_8"), (0, u "Ljava/nio/charset/Charset;"), (0, .methodref 31 121), (0, .nameAndType 122 123), (0, u "getBytes"), (0, u "(Ljava/nio/charset/Charset;)[B"), (0, .methodref 1 125), (0, .nameAndType 110 126), (0, u "(I)Z"), (0, .fieldref 1 128), (0, .nameAndType 129 130), (0, u "HEX"), (0, u "[C"), (11, .methodref 31 143), (0, .nameAndType 144 145), (0, u "charAt"), (0, u "(I)C"), (29, u "ANY"), (0, u "Ljava/lang/String;"), (1, u "API"), (2, u "RECORDS"), (2, u "SCHEMAS"), (2, u "SHEETS"), (2, u "METASCHEMA"), (2, u "FORM"), (2, u "SCHEMA"), (2, u "NEW"), (2, u "PATH_MARKS"), (0, u "QUERY_MARKS"), (11, u "path"), (0, u "([Ljava/lang/String;)Ljava/lang/String;")] 8

def k8c0 : Code := { maxStack := 3, maxLocals := 6, code := prog_8_method_7_code, exceptionTable := #[], attributes := #[] }
def k8m0 : Method := { name := "path", desc := "([Ljava/lang/String;)Ljava/lang/String;", sig := { parameters := [(.array (.object "java/lang/String"))], returnType := some (.object "java/lang/String") }, accessFlags := 136, code := some k8c0 }
def k8c1 : Code := { maxStack := 4, maxLocals := 7, code := prog_8_method_9_code, exceptionTable := #[], attributes := #[] }
def k8m1 : Method := { name := "appendEncoded", desc := "(Ljava/lang/StringBuilder;Ljava/lang/String;Ljava/lang/String;)V", sig := { parameters := [(.object "java/lang/StringBuilder"), (.object "java/lang/String"), (.object "java/lang/String")], returnType := none }, accessFlags := 10, code := some k8c1 }
def k8c2 : Code := { maxStack := 2, maxLocals := 4, code := prog_8_method_14_code, exceptionTable := #[], attributes := #[] }
def k8m2 : Method := { name := "isUnreserved", desc := "(Ljava/lang/String;Ljava/lang/String;)Z", sig := { parameters := [(.object "java/lang/String"), (.object "java/lang/String")], returnType := some .boolean }, accessFlags := 10, code := some k8c2 }
def k8c3 : Code := { maxStack := 2, maxLocals := 1, code := prog_8_method_15_code, exceptionTable := #[], attributes := #[] }
def k8m3 : Method := { name := "isUnreserved", desc := "(I)Z", sig := { parameters := [.int], returnType := some .boolean }, accessFlags := 10, code := some k8c3 }
def k8 : Class := { plain "com/example/schema_to_form/schematoform/server/PathSegments" (some 0) with
  accessFlags := 48
  interfaces := #[]
  cf := some (fileOf pool8 1 #[] #[⟨136, 215, 216, #[]⟩, ⟨10, 100, 101, #[]⟩, ⟨10, 110, 47, #[]⟩, ⟨10, 110, 126, #[]⟩] 48 4 #[] #[⟨24, 175, 176, #[]⟩, ⟨24, 178, 176, #[]⟩, ⟨24, 181, 176, #[]⟩, ⟨24, 184, 176, #[]⟩, ⟨24, 187, 176, #[]⟩, ⟨24, 190, 176, #[]⟩, ⟨24, 193, 176, #[]⟩, ⟨24, 196, 176, #[]⟩, ⟨24, 199, 176, #[]⟩, ⟨26, 129, 130, #[]⟩, ⟨26, 202, 176, #[]⟩, ⟨26, 203, 176, #[]⟩, ⟨18, 11, 12, #[]⟩, ⟨18, 15, 16, #[]⟩])
  fields := #[⟨"ANY", (.object "java/lang/String"), 24, 0, 0⟩, ⟨"API", (.object "java/lang/String"), 24, 1, 0⟩, ⟨"RECORDS", (.object "java/lang/String"), 24, 2, 0⟩, ⟨"SCHEMAS", (.object "java/lang/String"), 24, 3, 0⟩, ⟨"SHEETS", (.object "java/lang/String"), 24, 4, 0⟩, ⟨"METASCHEMA", (.object "java/lang/String"), 24, 5, 0⟩, ⟨"FORM", (.object "java/lang/String"), 24, 6, 0⟩, ⟨"SCHEMA", (.object "java/lang/String"), 24, 7, 0⟩, ⟨"NEW", (.object "java/lang/String"), 24, 8, 0⟩, ⟨"HEX", (.array .char), 26, 9, 0⟩, ⟨"PATH_MARKS", (.object "java/lang/String"), 26, 10, 0⟩, ⟨"QUERY_MARKS", (.object "java/lang/String"), 26, 11, 0⟩, ⟨"segments", (.object "java/util/List"), 18, 0, 0⟩, ⟨"readable", .boolean, 18, 1, 0⟩]
  methods := #[k8m0, k8m1, k8m2, k8m3]
  instanceTypes := #[(.object "java/util/List"), .boolean]
  staticTypes := #[(.object "java/lang/String"), (.object "java/lang/String"), (.object "java/lang/String"), (.object "java/lang/String"), (.object "java/lang/String"), (.object "java/lang/String"), (.object "java/lang/String"), (.object "java/lang/String"), (.object "java/lang/String"), (.array .char), (.object "java/lang/String"), (.object "java/lang/String")]
  resolved := Array.replicate 225 none
  statics := some 1 }

def pool9 : Array CpInfo := pool [(1, .class_ 2), (0, u "java/lang/Appendable"), (0, .class_ 4), (0, u "java/lang/Object")] 9

def k9 : Class := { plain "java/lang/Appendable" (some 0) with
  accessFlags := 1537
  interfaces := #[]
  cf := some (fileOf pool9 1 #[] #[] 1537 3 #[] #[])
  fields := #[]
  methods := #[]
  instanceTypes := #[]
  staticTypes := #[]
  resolved := Array.replicate 14 none
  statics := none }

def pool10 : Array CpInfo := pool [(1, .class_ 2), (0, u "java/lang/String"), (0, .methodref 4 5), (0, .class_ 6), (0, .nameAndType 7 8), (0, u "java/lang/Object"), (0, u "<init>"), (0, u "()V"), (1, .class_ 12), (1, u "java/lang/AbstractStringBuilder"), (0, u "EMPTYVALUE"), (0, u "[B"), (0, .fieldref 10 16), (0, .nameAndType 17 14), (0, u "value"), (0, .fieldref 1 19), (0, .nameAndType 20 21), (0, u "COMPACT_STRINGS"), (0, u "Z"), (0, .fieldref 10 23), (0, .nameAndType 24 25), (0, u "coder"), (0, u "B"), (6, .methodref 1 33), (0, .nameAndType 34 35), (0, u "length"), (0, u "()I"), (3, .integer 2147483647), (0, .methodref 1 41), (0, .nameAndType 24 42), (0, u "()B"), (2, u "append"), (0, u "(Ljava/lang/String;)Ljava/lang/AbstractStringBuilder;"), (1, .class_ 49), (0, u "java/lang/CharSequence"), (19, u "(Ljava/lang/String;)V"), (5, u "maybeLatin1"), (3, .fieldref 10 80), (0, .nameAndType 81 82), (0, u "count"), (0, u "I"), (0, .methodref 10 84), (0, .nameAndType 85 86), (0, u "isLatin1"), (0, u "()Z"), (1, .class_ 90), (1, u "java/lang/StringLatin1"), (9, .methodref 10 101), (0, .nameAndType 102 103), (0, u "ensureCapacityInternal"), (0, u "(I)V"), (0, .methodref 10 105), (0, .nameAndType 106 107), (0, u "newCapacity"), (0, u "(I)I"), (0, .methodref 109 110), (0, .class_ 111), (0, .nameAndType 112 113), (0, u "java/util/Arrays"), (0, u "copyOf"), (0, u "([BI)[B"), (0, .methodref 115 116), (0, .class_ 117), (0, .nameAndType 118 119), (0, u "jdk/internal/util/ArraysSupport"), (0, u "newLength"), (0, u "(III)I"), (71, .methodref 88 192), (0, .nameAndType 193 194), (0, u "canEncode"), (0, u "(C)Z"), (13, .methodref 10 209), (0, .nameAndType 210 211), (0, u "putStringAt"), (0, u "(ILjava/lang/String;)V"), (5, u "inflateIfNeededFor"), (2, .nameAndType 221 222), (0, u "getBytes"), (0, u "([BIB)V"), (69, u "(C)Ljava/lang/AbstractStringBuilder;"), (104, .methodref 10 398), (0, .nameAndType 217 69), (0, .methodref 1 220), (3, u "()[B"), (40, .class_ 445), (0, u "java/lang/Appendable"), (106, u "getValue")] 56

def k10m0 : Method := { name := "<init>", desc := "()V", sig := { parameters := [], returnType := none }, accessFlags := 0, code := none }
def k10c1 : Code := { maxStack := 2, maxLocals := 2, code := jdk_68_method_2_code, exceptionTable := #[], attributes := #[] }
def k10m1 : Method := { name := "<init>", desc := "(I)V", sig := { parameters := [.int], returnType := none }, accessFlags := 0, code := some k10c1 }
def k10c2 : Code := { maxStack := 1, maxLocals := 1, code := jdk_68_method_6_code, exceptionTable := #[], attributes := #[] }
def k10m2 : Method := { name := "length", desc := "()I", sig := { parameters := [], returnType := some .int }, accessFlags := 1, code := some k10c2 }
def k10c3 : Code := { maxStack := 4, maxLocals := 3, code := jdk_68_method_9_code, exceptionTable := #[], attributes := #[] }
def k10m3 : Method := { name := "ensureCapacityInternal", desc := "(I)V", sig := { parameters := [.int], returnType := none }, accessFlags := 2, code := some k10c3 }
def k10c4 : Code := { maxStack := 5, maxLocals := 6, code := jdk_68_method_10_code, exceptionTable := #[], attributes := #[] }
def k10m4 : Method := { name := "newCapacity", desc := "(I)I", sig := { parameters := [.int], returnType := some .int }, accessFlags := 2, code := some k10c4 }
def k10c5 : Code := { maxStack := 3, maxLocals := 3, code := jdk_68_method_22_code, exceptionTable := #[], attributes := #[] }
def k10m5 : Method := { name := "append", desc := "(Ljava/lang/String;)Ljava/lang/AbstractStringBuilder;", sig := { parameters := [(.object "java/lang/String")], returnType := some (.object "java/lang/AbstractStringBuilder") }, accessFlags := 1, code := some k10c5 }
def k10c6 : Code := { maxStack := 5, maxLocals := 2, code := jdk_68_method_31_code, exceptionTable := #[], attributes := #[] }
def k10m6 : Method := { name := "append", desc := "(C)Ljava/lang/AbstractStringBuilder;", sig := { parameters := [.char], returnType := some (.object "java/lang/AbstractStringBuilder") }, accessFlags := 1, code := some k10c6 }
def k10c7 : Code := { maxStack := 1, maxLocals := 1, code := jdk_68_method_64_code, exceptionTable := #[], attributes := #[] }
def k10m7 : Method := { name := "getValue", desc := "()[B", sig := { parameters := [], returnType := some (.array .byte) }, accessFlags := 16, code := some k10c7 }
def k10c8 : Code := { maxStack := 1, maxLocals := 1, code := jdk_68_method_68_code, exceptionTable := #[], attributes := #[] }
def k10m8 : Method := { name := "isLatin1", desc := "()Z", sig := { parameters := [], returnType := some .boolean }, accessFlags := 16, code := some k10c8 }
def k10c9 : Code := { maxStack := 2, maxLocals := 2, code := jdk_68_method_71_code, exceptionTable := #[], attributes := #[] }
def k10m9 : Method := { name := "inflateIfNeededFor", desc := "(Ljava/lang/String;)V", sig := { parameters := [(.object "java/lang/String")], returnType := none }, accessFlags := 2, code := some k10c9 }
def k10c10 : Code := { maxStack := 4, maxLocals := 3, code := jdk_68_method_73_code, exceptionTable := #[], attributes := #[] }
def k10m10 : Method := { name := "putStringAt", desc := "(ILjava/lang/String;)V", sig := { parameters := [.int, (.object "java/lang/String")], returnType := none }, accessFlags := 2, code := some k10c10 }
def k10 : Class := { plain "java/lang/AbstractStringBuilder" (some 0) with
  accessFlags := 1056
  interfaces := #[9, 4]
  cf := some (fileOf pool10 10 #[] #[⟨0, 7, 8, #[]⟩, ⟨0, 7, 103, #[]⟩, ⟨1, 34, 35, #[]⟩, ⟨2, 102, 103, #[]⟩, ⟨2, 106, 107, #[]⟩, ⟨1, 45, 46, #[]⟩, ⟨1, 45, 292, #[]⟩, ⟨16, 552, 403, #[]⟩, ⟨16, 85, 86, #[]⟩, ⟨2, 217, 69, #[]⟩, ⟨2, 210, 211, #[]⟩] 1056 4 #[444, 48] #[⟨0, 17, 14, #[]⟩, ⟨0, 24, 25, #[]⟩, ⟨0, 75, 21, #[]⟩, ⟨0, 81, 82, #[]⟩, ⟨26, 13, 14, #[]⟩])
  fields := #[⟨"value", (.array .byte), 0, 0, 0⟩, ⟨"coder", .byte, 0, 1, 0⟩, ⟨"maybeLatin1", .boolean, 0, 2, 0⟩, ⟨"count", .int, 0, 3, 0⟩, ⟨"EMPTYVALUE", (.array .byte), 26, 0, 0⟩]
  methods := #[k10m0, k10m1, k10m2, k10m3, k10m4, k10m5, k10m6, k10m7, k10m8, k10m9, k10m10]
  instanceTypes := #[(.array .byte), .byte, .boolean, .int]
  staticTypes := #[(.array .byte)]
  resolved := Array.replicate 609 none
  statics := none }

def pool11 : Array CpInfo := pool [(1, .methodref 2 3), (0, .class_ 4), (0, .nameAndType 5 6), (0, u "java/lang/AbstractStringBuilder"), (0, u "<init>"), (0, u "(I)V"), (11, .class_ 20), (1, u "java/lang/String"), (3, .class_ 26), (1, u "java/lang/StringBuilder"), (0, u "append"), (0, u "(Ljava/lang/String;)Ljava/lang/StringBuilder;"), (0, .methodref 2 30), (0, .nameAndType 27 31), (0, u "(Ljava/lang/String;)Ljava/lang/AbstractStringBuilder;"), (18, .methodref 2 51), (0, .nameAndType 27 52), (0, u "(C)Ljava/lang/AbstractStringBuilder;"), (84, .methodref 18 138), (0, .nameAndType 5 139), (0, u "(Ljava/lang/StringBuilder;)V"), (5, u "()V"), (10, u "()I"), (129, u "(C)Ljava/lang/StringBuilder;"), (56, .methodref 2 344), (0, .nameAndType 345 156), (0, u "length"), (3, .class_ 350), (0, u "java/lang/Appendable"), (0, .class_ 352), (0, u "java/io/Serializable"), (0, .class_ 354), (0, u "java/lang/Comparable"), (0, .class_ 356), (0, u "java/lang/CharSequence"), (0, u "serialVersionUID"), (0, u "J"), (40, u "toString"), (0, u "()Ljava/lang/String;")] 21

def k11c0 : Code := { maxStack := 2, maxLocals := 1, code := jdk_67_method_1_code, exceptionTable := #[], attributes := #[] }
def k11m0 : Method := { name := "<init>", desc := "()V", sig := { parameters := [], returnType := none }, accessFlags := 1, code := some k11c0 }
def k11c1 : Code := { maxStack := 2, maxLocals := 2, code := jdk_67_method_7_code, exceptionTable := #[], attributes := #[] }
def k11m1 : Method := { name := "append", desc := "(Ljava/lang/String;)Ljava/lang/StringBuilder;", sig := { parameters := [(.object "java/lang/String")], returnType := some (.object "java/lang/StringBuilder") }, accessFlags := 1, code := some k11c1 }
def k11c2 : Code := { maxStack := 2, maxLocals := 2, code := jdk_67_method_14_code, exceptionTable := #[], attributes := #[] }
def k11m2 : Method := { name := "append", desc := "(C)Ljava/lang/StringBuilder;", sig := { parameters := [.char], returnType := some (.object "java/lang/StringBuilder") }, accessFlags := 1, code := some k11c2 }
def k11c3 : Code := { maxStack := 3, maxLocals := 1, code := jdk_67_method_42_code, exceptionTable := #[], attributes := #[] }
def k11m3 : Method := { name := "toString", desc := "()Ljava/lang/String;", sig := { parameters := [], returnType := some (.object "java/lang/String") }, accessFlags := 1, code := some k11c3 }
def k11c4 : Code := { maxStack := 1, maxLocals := 1, code := jdk_67_method_93_code, exceptionTable := #[], attributes := #[] }
def k11m4 : Method := { name := "length", desc := "()I", sig := { parameters := [], returnType := some .int }, accessFlags := 4161, code := some k11c4 }
def k11 : Class := { plain "java/lang/StringBuilder" (some 10) with
  accessFlags := 49
  interfaces := #[9, 2, 3, 4]
  cf := some (fileOf pool11 24 #[] #[⟨1, 5, 145, #[]⟩, ⟨1, 27, 28, #[]⟩, ⟨1, 27, 286, #[]⟩, ⟨1, 399, 400, #[]⟩, ⟨4161, 345, 156, #[]⟩] 49 2 #[349, 351, 353, 355] #[⟨24, 357, 358, #[]⟩])
  fields := #[⟨"serialVersionUID", .long, 24, 0, 0⟩]
  methods := #[k11m0, k11m1, k11m2, k11m3, k11m4]
  instanceTypes := #[(.array .byte), .byte, .boolean, .int]
  staticTypes := #[.long]
  resolved := Array.replicate 422 none
  statics := none }

def pool12 : Array CpInfo := pool [(2, .class_ 4), (1, u "java/lang/Object"), (0, u "<init>"), (0, u "()V"), (7, .class_ 16), (1, u "java/util/Arrays"), (57, .class_ 76), (1, u "java/util/Arrays$NaturalOrder"), (32, u "()Ljava/lang/Object;"), (3, .class_ 115), (1, u "java/util/Arrays$LegacyMergeSort"), (1, u "Z"), (10, .nameAndType 129 109), (0, u "clone"), (9, u "copyOfRange"), (10, .methodref 151 152), (0, .class_ 153), (0, .nameAndType 154 155), (0, u "java/lang/System"), (0, u "arraycopy"), (0, u "(Ljava/lang/Object;ILjava/lang/Object;II)V"), (146, u "copyOf"), (1, .methodref 305 306), (0, .class_ 307), (0, .nameAndType 308 309), (0, u "java/lang/Math"), (0, u "min"), (0, u "(II)I"), (0, .methodref 311 128), (0, .class_ 312), (0, u "[B"), (26, .methodref 14 340), (0, .nameAndType 341 342), (0, u "copyOfRangeByte"), (0, u "([BII)[B"), (0, .methodref 14 344), (0, .nameAndType 345 346), (0, u "checkLength"), (0, u "(II)V"), (28, .class_ 376), (0, u "java/util/Arrays$ArrayList"), (68, u "$assertionsDisabled"), (269, u "MIN_ARRAY_SORT_GRAN"), (0, u "I"), (2, u "INSERTIONSORT_THRESHOLD"), (149, u "([BI)[B"), (105, .class_ 976), (0, u "java/util/Arrays$ArrayItr")] 52

def k12m0 : Method := { name := "<init>", desc := "()V", sig := { parameters := [], returnType := none }, accessFlags := 2, code := none }
def k12c1 : Code := { maxStack := 6, maxLocals := 3, code := jdk_65_method_121_code, exceptionTable := #[], attributes := #[] }
def k12m1 : Method := { name := "copyOf", desc := "([BI)[B", sig := { parameters := [(.array .byte), .int], returnType := some (.array .byte) }, accessFlags := 9, code := some k12c1 }
def k12c2 : Code := { maxStack := 4, maxLocals := 2, code := jdk_65_method_131_code, exceptionTable := #[], attributes := #[] }
def k12m2 : Method := { name := "checkLength", desc := "(II)V", sig := { parameters := [.int, .int], returnType := none }, accessFlags := 10, code := some k12c2 }
def k12c3 : Code := { maxStack := 3, maxLocals := 3, code := jdk_65_method_132_code, exceptionTable := #[], attributes := #[] }
def k12m3 : Method := { name := "copyOfRange", desc := "([BII)[B", sig := { parameters := [(.array .byte), .int, .int], returnType := some (.array .byte) }, accessFlags := 9, code := some k12c3 }
def k12c4 : Code := { maxStack := 6, maxLocals := 5, code := jdk_65_method_133_code, exceptionTable := #[], attributes := #[] }
def k12m4 : Method := { name := "copyOfRangeByte", desc := "([BII)[B", sig := { parameters := [(.array .byte), .int, .int], returnType := some (.array .byte) }, accessFlags := 10, code := some k12c4 }
def k12 : Class := { plain "java/util/Arrays" (some 0) with
  accessFlags := 49
  interfaces := #[]
  cf := some (fileOf pool12 14 #[.nestMembers #[975, 375, 113, 74]] #[⟨2, 5, 6, #[]⟩, ⟨9, 302, 869, #[]⟩, ⟨10, 345, 346, #[]⟩, ⟨9, 139, 342, #[]⟩, ⟨10, 341, 342, #[]⟩] 49 2 #[] #[⟨26, 715, 716, #[]⟩, ⟨26, 719, 716, #[]⟩, ⟨4120, 445, 117, #[]⟩])
  fields := #[⟨"MIN_ARRAY_SORT_GRAN", .int, 26, 0, 0⟩, ⟨"INSERTIONSORT_THRESHOLD", .int, 26, 1, 0⟩, ⟨"$assertionsDisabled", .boolean, 4120, 2, 0⟩]
  methods := #[k12m0, k12m1, k12m2, k12m3, k12m4]
  instanceTypes := #[]
  staticTypes := #[.int, .int, .boolean]
  resolved := Array.replicate 1029 none
  statics := none }

def pool13 : Array CpInfo := pool [(1, .class_ 2), (0, u "java/lang/Math"), (1, .class_ 6), (1, u "java/lang/Object"), (0, u "<init>"), (0, u "()V"), (89, .class_ 100), (1, u "java/lang/Math$RandomNumberGeneratorHolder"), (71, u "negativeZeroFloatBits"), (0, u "J"), (2, u "negativeZeroDoubleBits"), (21, u "max"), (2, u "min"), (43, u "$assertionsDisabled"), (0, u "Z"), (88, u "(II)I"), (2, u "twoToTheDoubleScaleDown"), (0, u "D"), (4, u "twoToTheDoubleScaleUp"), (9, u "E"), (3, u "PI"), (2, u "TAU"), (2, u "DEGREES_TO_RADIANS"), (0, u "RADIANS_TO_DEGREES")] 94

def k13m0 : Method := { name := "<init>", desc := "()V", sig := { parameters := [], returnType := none }, accessFlags := 2, code := none }
def k13c1 : Code := { maxStack := 2, maxLocals := 2, code := jdk_29_method_65_code, exceptionTable := #[], attributes := #[] }
def k13m1 : Method := { name := "max", desc := "(II)I", sig := { parameters := [.int, .int], returnType := some .int }, accessFlags := 9, code := some k13c1 }
def k13c2 : Code := { maxStack := 2, maxLocals := 2, code := jdk_29_method_69_code, exceptionTable := #[], attributes := #[] }
def k13m2 : Method := { name := "min", desc := "(II)I", sig := { parameters := [.int, .int], returnType := some .int }, accessFlags := 9, code := some k13c2 }
def k13 : Class := { plain "java/lang/Math" (some 0) with
  accessFlags := 49
  interfaces := #[]
  cf := some (fileOf pool13 1 #[.nestMembers #[98]] #[⟨2, 7, 8, #[]⟩, ⟨9, 198, 335, #[]⟩, ⟨9, 201, 335, #[]⟩] 49 4 #[] #[⟨25, 354, 339, #[]⟩, ⟨25, 358, 339, #[]⟩, ⟨25, 361, 339, #[]⟩, ⟨26, 364, 339, #[]⟩, ⟨26, 365, 339, #[]⟩, ⟨26, 172, 173, #[]⟩, ⟨26, 176, 173, #[]⟩, ⟨8, 344, 339, #[]⟩, ⟨8, 338, 339, #[]⟩, ⟨4120, 245, 246, #[]⟩])
  fields := #[⟨"E", .double, 25, 0, 0⟩, ⟨"PI", .double, 25, 1, 0⟩, ⟨"TAU", .double, 25, 2, 0⟩, ⟨"DEGREES_TO_RADIANS", .double, 26, 3, 0⟩, ⟨"RADIANS_TO_DEGREES", .double, 26, 4, 0⟩, ⟨"negativeZeroFloatBits", .long, 26, 5, 0⟩, ⟨"negativeZeroDoubleBits", .long, 26, 6, 0⟩, ⟨"twoToTheDoubleScaleUp", .double, 8, 7, 0⟩, ⟨"twoToTheDoubleScaleDown", .double, 8, 8, 0⟩, ⟨"$assertionsDisabled", .boolean, 4120, 9, 0⟩]
  methods := #[k13m0, k13m1, k13m2]
  instanceTypes := #[]
  staticTypes := #[.double, .double, .double, .double, .double, .long, .long, .double, .double, .boolean]
  resolved := Array.replicate 460 none
  statics := none }

def pool14 : Array CpInfo := pool [(2, .class_ 4), (1, u "java/lang/Object"), (0, u "<init>"), (0, u "()V"), (1, .class_ 10), (1, u "java/lang/System"), (0, u "allowSecurityManager"), (0, u "I"), (16, u "cons"), (0, u "Ljava/io/Console;"), (77, .class_ 110), (1, u "java/lang/System$CallersHolder"), (43, u "initialErrStream"), (0, u "Ljava/io/PrintStream;"), (19, u "security"), (0, u "Ljava/lang/SecurityManager;"), (31, .class_ 209), (0, u "java/lang/System$1"), (7, u "props"), (0, u "Ljava/util/Properties;"), (2, u "lineSeparator"), (0, u "Ljava/lang/String;"), (96, .class_ 321), (1, u "java/lang/System$LoggerFinder"), (5, .class_ 328), (0, u "java/lang/System$Logger"), (67, u "err"), (2, u "out"), (91, u "notSupportedJnuEncoding"), (15, u "in"), (17, u "initialIn"), (0, u "Ljava/io/InputStream;"), (35, u "bootLayer"), (0, u "Ljava/lang/ModuleLayer;"), (99, .class_ 664), (0, u "java/lang/System$2"), (9, u "NEVER"), (2, u "MAYBE"), (49, u "arraycopy"), (0, u "(Ljava/lang/Object;ILjava/lang/Object;II)V"), (72, .class_ 802), (0, u "java/lang/System$Logger$Level")] 31

def k14m0 : Method := { name := "<init>", desc := "()V", sig := { parameters := [], returnType := none }, accessFlags := 2, code := none }
def k14m1 : Method := { name := "arraycopy", desc := "(Ljava/lang/Object;ILjava/lang/Object;II)V", sig := { parameters := [(.object "java/lang/Object"), .int, (.object "java/lang/Object"), .int, .int], returnType := none }, accessFlags := 265, code := none }
def k14 : Class := { plain "java/lang/System" (some 0) with
  accessFlags := 49
  interfaces := #[]
  cf := some (fileOf pool14 8 #[.nestMembers #[319, 327, 801, 108, 663, 208]] #[⟨2, 5, 6, #[]⟩, ⟨265, 727, 728, #[]⟩] 49 2 #[] #[⟨25, 507, 526, #[]⟩, ⟨25, 399, 155, #[]⟩, ⟨25, 396, 155, #[]⟩, ⟨10, 525, 526, #[]⟩, ⟨26, 674, 12, #[]⟩, ⟨26, 677, 12, #[]⟩, ⟨10, 11, 12, #[]⟩, ⟨74, 175, 176, #[]⟩, ⟨10, 491, 222, #[]⟩, ⟨74, 29, 30, #[]⟩, ⟨74, 154, 155, #[]⟩, ⟨10, 217, 218, #[]⟩, ⟨10, 221, 222, #[]⟩, ⟨8, 562, 563, #[]⟩])
  fields := #[⟨"in", (.object "java/io/InputStream"), 25, 0, 0⟩, ⟨"out", (.object "java/io/PrintStream"), 25, 1, 0⟩, ⟨"err", (.object "java/io/PrintStream"), 25, 2, 0⟩, ⟨"initialIn", (.object "java/io/InputStream"), 10, 3, 0⟩, ⟨"NEVER", .int, 26, 4, 0⟩, ⟨"MAYBE", .int, 26, 5, 0⟩, ⟨"allowSecurityManager", .int, 10, 6, 0⟩, ⟨"security", (.object "java/lang/SecurityManager"), 74, 7, 0⟩, ⟨"notSupportedJnuEncoding", (.object "java/lang/String"), 10, 8, 0⟩, ⟨"cons", (.object "java/io/Console"), 74, 9, 0⟩, ⟨"initialErrStream", (.object "java/io/PrintStream"), 74, 10, 0⟩, ⟨"props", (.object "java/util/Properties"), 10, 11, 0⟩, ⟨"lineSeparator", (.object "java/lang/String"), 10, 12, 0⟩, ⟨"bootLayer", (.object "java/lang/ModuleLayer"), 8, 13, 0⟩]
  methods := #[k14m0, k14m1]
  instanceTypes := #[]
  staticTypes := #[(.object "java/io/InputStream"), (.object "java/io/PrintStream"), (.object "java/io/PrintStream"), (.object "java/io/InputStream"), .int, .int, .int, (.object "java/lang/SecurityManager"), (.object "java/lang/String"), (.object "java/io/Console"), (.object "java/io/PrintStream"), (.object "java/util/Properties"), (.object "java/lang/String"), (.object "java/lang/ModuleLayer")]
  resolved := Array.replicate 834 none
  statics := none }

def pool15 : Array CpInfo := pool [(1, .class_ 2), (0, u "java/lang/String"), (1, .class_ 6), (1, u "java/lang/Object"), (0, u "<init>"), (0, u "()V"), (0, .methodref 1 10), (0, .nameAndType 11 12), (0, u "checkIndex"), (0, u "(II)V"), (1, .class_ 16), (1, u "java/lang/StringLatin1"), (21, .methodref 39 40), (0, .class_ 41), (0, .nameAndType 42 43), (0, u "java/lang/Math"), (0, u "min"), (0, u "(II)I"), (9, u "([BI)C"), (34, .methodref 14 89), (0, .nameAndType 90 91), (0, u "canEncode"), (0, u "(I)Z"), (0, .methodref 39 93), (0, .nameAndType 94 43), (0, u "max"), (3, u "([BIII)I"), (2, u "indexOf"), (3, u "(C)Z"), (15, u "$assertionsDisabled"), (0, u "Z"), (98, .class_ 223), (1, u "java/lang/StringLatin1$LinesSpliterator"), (28, u "charAt"), (127, u "toBytes"), (1, u "(C)[B"), (7, .class_ 391), (0, u "java/lang/StringLatin1$CharsSpliterator")] 3

def k15m0 : Method := { name := "<init>", desc := "()V", sig := { parameters := [], returnType := none }, accessFlags := 0, code := none }
def k15c1 : Code := { maxStack := 2, maxLocals := 2, code := jdk_43_method_2_code, exceptionTable := #[], attributes := #[] }
def k15m1 : Method := { name := "charAt", desc := "([BI)C", sig := { parameters := [(.array .byte), .int], returnType := some .char }, accessFlags := 9, code := some k15c1 }
def k15c2 : Code := { maxStack := 2, maxLocals := 1, code := jdk_43_method_3_code, exceptionTable := #[], attributes := #[] }
def k15m2 : Method := { name := "canEncode", desc := "(C)Z", sig := { parameters := [.char], returnType := some .boolean }, accessFlags := 9, code := some k15c2 }
def k15c3 : Code := { maxStack := 2, maxLocals := 1, code := jdk_43_method_4_code, exceptionTable := #[], attributes := #[] }
def k15m3 : Method := { name := "canEncode", desc := "(I)Z", sig := { parameters := [.int], returnType := some .boolean }, accessFlags := 9, code := some k15c3 }
def k15c4 : Code := { maxStack := 4, maxLocals := 4, code := jdk_43_method_22_code, exceptionTable := #[], attributes := #[] }
def k15m4 : Method := { name := "indexOf", desc := "([BIII)I", sig := { parameters := [(.array .byte), .int, .int, .int], returnType := some .int }, accessFlags := 9, code := some k15c4 }
def k15c5 : Code := { maxStack := 4, maxLocals := 1, code := jdk_43_method_46_code, exceptionTable := #[], attributes := #[] }
def k15m5 : Method := { name := "toBytes", desc := "(C)[B", sig := { parameters := [.char], returnType := some (.array .byte) }, accessFlags := 9, code := some k15c5 }
def k15 : Class := { plain "java/lang/StringLatin1" (some 0) with
  accessFlags := 48
  interfaces := #[]
  cf := some (fileOf pool15 14 #[.nestMembers #[390, 221]] #[⟨0, 7, 8, #[]⟩, ⟨9, 252, 53, #[]⟩, ⟨9, 90, 105, #[]⟩, ⟨9, 90, 91, #[]⟩, ⟨9, 101, 98, #[]⟩, ⟨9, 380, 382, #[]⟩] 48 4 #[] #[⟨4120, 121, 122, #[]⟩])
  fields := #[⟨"$assertionsDisabled", .boolean, 4120, 0, 0⟩]
  methods := #[k15m0, k15m1, k15m2, k15m3, k15m4, k15m5]
  instanceTypes := #[]
  staticTypes := #[.boolean]
  resolved := Array.replicate 395 none
  statics := none }

def pool16 : Array CpInfo := pool [(2, .class_ 4), (1, u "java/lang/Object"), (0, u "<init>"), (0, u "()V"), (17, .class_ 26), (1, u "jdk/internal/util/Preconditions"), (6, u "checkIndex"), (21, .class_ 56), (0, u "jdk/internal/util/Preconditions$4"), (57, .class_ 115), (0, u "jdk/internal/util/Preconditions$1"), (7, u "SIOOBE_FORMATTER"), (0, u "Ljava/util/function/BiFunction;"), (0, .class_ 126), (0, u "jdk/internal/util/Preconditions$2"), (3, u "AIOOBE_FORMATTER"), (0, .class_ 132), (0, u "jdk/internal/util/Preconditions$3"), (3, u "IOOBE_FORMATTER"), (41, u "(IILjava/util/function/BiFunction;)I")] 15

def k16m0 : Method := { name := "<init>", desc := "()V", sig := { parameters := [], returnType := none }, accessFlags := 1, code := none }
def k16c1 : Code := { maxStack := 3, maxLocals := 3, code := jdk_41_method_11_code, exceptionTable := #[], attributes := #[] }
def k16m1 : Method := { name := "checkIndex", desc := "(IILjava/util/function/BiFunction;)I", sig := { parameters := [.int, .int, (.object "java/util/function/BiFunction")], returnType := some .int }, accessFlags := 9, code := some k16c1 }
def k16 : Class := { plain "jdk/internal/util/Preconditions" (some 0) with
  accessFlags := 33
  interfaces := #[]
  cf := some (fileOf pool16 24 #[.nestMembers #[55, 131, 125, 114]] #[⟨1, 5, 6, #[]⟩, ⟨9, 33, 178, #[]⟩] 33 2 #[] #[⟨25, 123, 124, #[]⟩, ⟨25, 130, 124, #[]⟩, ⟨25, 136, 124, #[]⟩])
  fields := #[⟨"SIOOBE_FORMATTER", (.object "java/util/function/BiFunction"), 25, 0, 0⟩, ⟨"AIOOBE_FORMATTER", (.object "java/util/function/BiFunction"), 25, 1, 0⟩, ⟨"IOOBE_FORMATTER", (.object "java/util/function/BiFunction"), 25, 2, 0⟩]
  methods := #[k16m0, k16m1]
  instanceTypes := #[]
  staticTypes := #[(.object "java/util/function/BiFunction"), (.object "java/util/function/BiFunction"), (.object "java/util/function/BiFunction")]
  resolved := Array.replicate 194 none
  statics := some 2 }

def pool17 : Array CpInfo := pool [(2, .class_ 4), (1, u "java/lang/Object"), (0, u "<init>"), (0, u "()V"), (14, .class_ 23), (1, u "java/nio/charset/StandardCharsets"), (0, u "US_ASCII"), (0, u "Ljava/nio/charset/Charset;"), (7, u "ISO_8859_1"), (7, u "UTF_8"), (5, u "UTF_16BE"), (5, u "UTF_16LE"), (5, u "UTF_16")] 8

def k17m0 : Method := { name := "<init>", desc := "()V", sig := { parameters := [], returnType := none }, accessFlags := 2, code := none }
def k17 : Class := { plain "java/nio/charset/StandardCharsets" (some 0) with
  accessFlags := 49
  interfaces := #[]
  cf := some (fileOf pool17 21 #[] #[⟨2, 5, 6, #[]⟩] 49 2 #[] #[⟨25, 24, 25, #[]⟩, ⟨25, 33, 25, #[]⟩, ⟨25, 41, 25, #[]⟩, ⟨25, 47, 25, #[]⟩, ⟨25, 53, 25, #[]⟩, ⟨25, 59, 25, #[]⟩])
  fields := #[⟨"US_ASCII", (.object "java/nio/charset/Charset"), 25, 0, 0⟩, ⟨"ISO_8859_1", (.object "java/nio/charset/Charset"), 25, 1, 0⟩, ⟨"UTF_8", (.object "java/nio/charset/Charset"), 25, 2, 0⟩, ⟨"UTF_16BE", (.object "java/nio/charset/Charset"), 25, 3, 0⟩, ⟨"UTF_16LE", (.object "java/nio/charset/Charset"), 25, 4, 0⟩, ⟨"UTF_16", (.object "java/nio/charset/Charset"), 25, 5, 0⟩]
  methods := #[k17m0]
  instanceTypes := #[]
  staticTypes := #[(.object "java/nio/charset/Charset"), (.object "java/nio/charset/Charset"), (.object "java/nio/charset/Charset"), (.object "java/nio/charset/Charset"), (.object "java/nio/charset/Charset"), (.object "java/nio/charset/Charset")]
  resolved := Array.replicate 68 none
  statics := some 3 }

def pool18 : Array CpInfo := pool [(18, .class_ 20), (1, u "java/nio/charset/Charset"), (0, u "cache1"), (0, u "[Ljava/lang/Object;"), (2, u "cache2"), (0, .class_ 27), (0, u "java/lang/Object"), (0, .class_ 29), (0, u "java/nio/charset/Charset$1"), (4, .class_ 36), (1, u "java/nio/charset/Charset$ThreadTrackHolder"), (21, .class_ 59), (0, u "java/nio/charset/Charset$2"), (11, .class_ 73), (1, u "java/nio/charset/Charset$ExtendedProviderHolder"), (22, u "standardProvider"), (0, u "Ljava/nio/charset/spi/CharsetProvider;"), (29, u "name"), (7, .class_ 136), (0, u "java/nio/charset/Charset$3"), (5, u "defaultCharset"), (0, u "Ljava/nio/charset/Charset;"), (14, u "zeroAliases"), (0, u "[Ljava/lang/String;"), (29, u "Ljava/lang/String;"), (2, u "aliases"), (2, u "aliasSet"), (0, u "Ljava/util/Set;"), (82, .class_ 280), (0, u "java/lang/Comparable"), (84, .class_ 366), (0, u "java/nio/charset/Charset$ExtendedProviderHolder$1")] 3

def k18 : Class := { plain "java/nio/charset/Charset" (some 0) with
  accessFlags := 1057
  interfaces := #[3]
  cf := some (fileOf pool18 18 #[.nestMembers #[71, 365, 34, 135, 58, 28]] #[] 1057 26 #[279] #[⟨26, 96, 97, #[]⟩, ⟨26, 158, 159, #[]⟩, ⟨74, 21, 22, #[]⟩, ⟨74, 25, 22, #[]⟩, ⟨10, 142, 143, #[]⟩, ⟨18, 127, 189, #[]⟩, ⟨18, 192, 159, #[]⟩, ⟨2, 195, 196, #[]⟩])
  fields := #[⟨"standardProvider", (.object "java/nio/charset/spi/CharsetProvider"), 26, 0, 0⟩, ⟨"zeroAliases", (.array (.object "java/lang/String")), 26, 1, 0⟩, ⟨"cache1", (.array (.object "java/lang/Object")), 74, 2, 0⟩, ⟨"cache2", (.array (.object "java/lang/Object")), 74, 3, 0⟩, ⟨"defaultCharset", (.object "java/nio/charset/Charset"), 10, 4, 0⟩, ⟨"name", (.object "java/lang/String"), 18, 0, 0⟩, ⟨"aliases", (.array (.object "java/lang/String")), 18, 1, 0⟩, ⟨"aliasSet", (.object "java/util/Set"), 2, 2, 0⟩]
  methods := #[]
  instanceTypes := #[(.object "java/lang/String"), (.array (.object "java/lang/String")), (.object "java/util/Set")]
  staticTypes := #[(.object "java/nio/charset/spi/CharsetProvider"), (.array (.object "java/lang/String")), (.array (.object "java/lang/Object")), (.array (.object "java/lang/Object")), (.object "java/nio/charset/Charset")]
  resolved := Array.replicate 370 none
  statics := none }

def pool19 : Array CpInfo := pool [(1, .class_ 2), (0, u "sun/nio/cs/HistoricallyNamedCharset"), (0, .class_ 4), (0, u "java/lang/Object")] 4

def k19 : Class := { plain "sun/nio/cs/HistoricallyNamedCharset" (some 0) with
  accessFlags := 1537
  interfaces := #[]
  cf := some (fileOf pool19 1 #[] #[] 1537 3 #[] #[])
  fields := #[]
  methods := #[]
  instanceTypes := #[]
  staticTypes := #[]
  resolved := Array.replicate 9 none
  statics := none }

def pool20 : Array CpInfo := pool [(2, .class_ 4), (1, u "java/nio/charset/Charset"), (130, .class_ 136), (0, u "sun/nio/cs/Unicode"), (0, .class_ 138), (0, u "sun/nio/cs/HistoricallyNamedCharset")] 15

def k20 : Class := { plain "sun/nio/cs/Unicode" (some 18) with
  accessFlags := 1056
  interfaces := #[19]
  cf := some (fileOf pool20 135 #[] #[] 1056 2 #[137] #[])
  fields := #[]
  methods := #[]
  instanceTypes := #[(.object "java/lang/String"), (.array (.object "java/lang/String")), (.object "java/util/Set")]
  staticTypes := #[]
  resolved := Array.replicate 154 none
  statics := none }

def pool21 : Array CpInfo := pool [(10, .class_ 12), (1, u "sun/nio/cs/Unicode"), (0, u "<init>"), (3, .class_ 18), (0, u "sun/nio/cs/UTF_8$Decoder"), (3, .class_ 23), (0, u "sun/nio/cs/UTF_8$Encoder"), (15, .class_ 40), (0, u "sun/nio/cs/UTF_8"), (2, u "()V"), (2, u "INSTANCE"), (0, u "Lsun/nio/cs/UTF_8;"), (8, u "JLA"), (0, u "Ljdk/internal/access/JavaLangAccess;")] 26

def k21m0 : Method := { name := "<init>", desc := "()V", sig := { parameters := [], returnType := none }, accessFlags := 1, code := none }
def k21 : Class := { plain "sun/nio/cs/UTF_8" (some 20) with
  accessFlags := 49
  interfaces := #[]
  cf := some (fileOf pool21 39 #[.nestMembers #[22, 17]] #[⟨1, 13, 43, #[]⟩] 49 10 #[] #[⟨25, 46, 47, #[]⟩, ⟨26, 56, 57, #[]⟩])
  fields := #[⟨"INSTANCE", (.object "sun/nio/cs/UTF_8"), 25, 0, 0⟩, ⟨"JLA", (.object "jdk/internal/access/JavaLangAccess"), 26, 1, 0⟩]
  methods := #[k21m0]
  instanceTypes := #[(.object "java/lang/String"), (.array (.object "java/lang/String")), (.object "java/util/Set")]
  staticTypes := #[(.object "sun/nio/cs/UTF_8"), (.object "jdk/internal/access/JavaLangAccess")]
  resolved := Array.replicate 84 none
  statics := some 4 }

def pool22 : Array CpInfo := pool [(2, .class_ 4), (1, u "java/lang/Object"), (0, u "<init>"), (0, u "()V"), (0, .methodref 8 9), (0, .class_ 10), (0, .nameAndType 11 12), (0, u "java/lang/StringCoding"), (0, u "countPositives"), (0, u "([BII)I"), (11, u "hasNegatives"), (0, u "([BII)Z")] 23

def k22m0 : Method := { name := "<init>", desc := "()V", sig := { parameters := [], returnType := none }, accessFlags := 2, code := none }
def k22c1 : Code := { maxStack := 3, maxLocals := 3, code := jdk_123_method_2_code, exceptionTable := #[], attributes := #[] }
def k22m1 : Method := { name := "hasNegatives", desc := "([BII)Z", sig := { parameters := [(.array .byte), .int, .int], returnType := some .boolean }, accessFlags := 9, code := some k22c1 }
def k22c2 : Code := { maxStack := 2, maxLocals := 5, code := jdk_123_method_3_code, exceptionTable := #[], attributes := #[] }
def k22m2 : Method := { name := "countPositives", desc := "([BII)I", sig := { parameters := [(.array .byte), .int, .int], returnType := some .int }, accessFlags := 9, code := some k22c2 }
def k22 : Class := { plain "java/lang/StringCoding" (some 0) with
  accessFlags := 32
  interfaces := #[]
  cf := some (fileOf pool22 8 #[] #[⟨2, 5, 6, #[]⟩, ⟨9, 24, 25, #[]⟩, ⟨9, 11, 12, #[]⟩] 32 2 #[] #[])
  fields := #[]
  methods := #[k22m0, k22m1, k22m2]
  instanceTypes := #[]
  staticTypes := #[]
  resolved := Array.replicate 49 none
  statics := none }

def pool23 : Array CpInfo := pool [(3, .class_ 4), (0, u "java/lang/String"), (1, .class_ 8), (1, u "java/lang/Object"), (0, u "<init>"), (0, u "()V"), (0, .methodref 12 13), (0, .class_ 14), (0, .nameAndType 15 16), (0, u "java/lang/StringUTF16"), (0, u "newBytesLength"), (0, u "(I)I"), (3, .integer 1073741823), (23, .fieldref 12 45), (0, .nameAndType 46 47), (0, u "$assertionsDisabled"), (0, u "Z"), (0, .methodref 12 49), (0, .nameAndType 50 51), (0, u "length"), (0, u "([B)I"), (7, .fieldref 12 60), (0, .nameAndType 61 62), (0, u "HI_BYTE_SHIFT"), (0, u "I"), (0, .fieldref 12 64), (0, .nameAndType 65 62), (0, u "LO_BYTE_SHIFT"), (1, .methodref 12 68), (0, .nameAndType 69 70), (0, u "checkIndex"), (0, u "(I[B)V"), (0, .methodref 12 72), (0, .nameAndType 73 74), (0, u "getChar"), (0, u "([BI)C"), (32, .methodref 12 108), (0, .nameAndType 109 110), (0, u "newBytesFor"), (0, u "(I)[B"), (0, .methodref 12 112), (0, .nameAndType 113 114), (0, u "putChar"), (0, u "([BII)V"), (0, .methodref 12 116), (0, .nameAndType 117 118), (0, u "compress"), (0, u "([CI[BII)I"), (0, .methodref 12 120), (0, .nameAndType 121 122), (0, u "toBytes"), (0, u "([CII)[B"), (138, u "coderFromArrayLen"), (0, u "([BI)B"), (106, .class_ 371), (1, u "java/lang/StringUTF16$LinesSpliterator"), (20, u "charAt"), (21, .methodref 3 415), (0, .nameAndType 69 416), (0, u "(II)V"), (13, u "MAX_LENGTH"), (44, u "(C)[B"), (151, .class_ 628), (0, u "java/lang/StringUTF16$CodePointsSpliterator"), (0, .class_ 630), (0, u "java/lang/StringUTF16$CharsSpliterator")] 4

def k23m0 : Method := { name := "<init>", desc := "()V", sig := { parameters := [], returnType := none }, accessFlags := 0, code := none }
def k23c1 : Code := { maxStack := 1, maxLocals := 1, code := jdk_52_method_2_code, exceptionTable := #[], attributes := #[] }
def k23m1 : Method := { name := "newBytesFor", desc := "(I)[B", sig := { parameters := [.int], returnType := some (.array .byte) }, accessFlags := 9, code := some k23c1 }
def k23c2 : Code := { maxStack := 4, maxLocals := 1, code := jdk_52_method_3_code, exceptionTable := #[], attributes := #[] }
def k23m2 : Method := { name := "newBytesLength", desc := "(I)I", sig := { parameters := [.int], returnType := some .int }, accessFlags := 9, code := some k23c2 }
def k23c3 : Code := { maxStack := 4, maxLocals := 3, code := jdk_52_method_4_code, exceptionTable := #[], attributes := #[] }
def k23m3 : Method := { name := "putChar", desc := "([BII)V", sig := { parameters := [(.array .byte), .int, .int], returnType := none }, accessFlags := 8, code := some k23c3 }
def k23c4 : Code := { maxStack := 3, maxLocals := 2, code := jdk_52_method_5_code, exceptionTable := #[], attributes := #[] }
def k23m4 : Method := { name := "getChar", desc := "([BI)C", sig := { parameters := [(.array .byte), .int], returnType := some .char }, accessFlags := 8, code := some k23c4 }
def k23c5 : Code := { maxStack := 2, maxLocals := 1, code := jdk_52_method_6_code, exceptionTable := #[], attributes := #[] }
def k23m5 : Method := { name := "length", desc := "([B)I", sig := { parameters := [(.array .byte)], returnType := some .int }, accessFlags := 9, code := some k23c5 }
def k23c6 : Code := { maxStack := 4, maxLocals := 5, code := jdk_52_method_14_code, exceptionTable := #[], attributes := #[] }
def k23m6 : Method := { name := "toBytes", desc := "([CII)[B", sig := { parameters := [(.array .char), .int, .int], returnType := some (.array .byte) }, accessFlags := 9, code := some k23c6 }
def k23c7 : Code := { maxStack := 2, maxLocals := 2, code := jdk_52_method_15_code, exceptionTable := #[], attributes := #[] }
def k23m7 : Method := { name := "coderFromArrayLen", desc := "([BI)B", sig := { parameters := [(.array .byte), .int], returnType := some .byte }, accessFlags := 8, code := some k23c7 }
def k23c8 : Code := { maxStack := 5, maxLocals := 6, code := jdk_52_method_16_code, exceptionTable := #[], attributes := #[] }
def k23m8 : Method := { name := "compress", desc := "([CII)[B", sig := { parameters := [(.array .char), .int, .int], returnType := some (.array .byte) }, accessFlags := 9, code := some k23c8 }
def k23c9 : Code := { maxStack := 3, maxLocals := 7, code := jdk_52_method_21_code, exceptionTable := #[], attributes := #[] }
def k23m9 : Method := { name := "compress", desc := "([CI[BII)I", sig := { parameters := [(.array .char), .int, (.array .byte), .int, .int], returnType := some .int }, accessFlags := 9, code := some k23c9 }
def k23c10 : Code := { maxStack := 3, maxLocals := 2, code := jdk_52_method_24_code, exceptionTable := #[], attributes := #[] }
def k23m10 : Method := { name := "toBytes", desc := "(C)[B", sig := { parameters := [.char], returnType := some (.array .byte) }, accessFlags := 9, code := some k23c10 }
def k23c11 : Code := { maxStack := 2, maxLocals := 2, code := jdk_52_method_83_code, exceptionTable := #[], attributes := #[] }
def k23m11 : Method := { name := "charAt", desc := "([BI)C", sig := { parameters := [(.array .byte), .int], returnType := some .char }, accessFlags := 9, code := some k23c11 }
def k23c12 : Code := { maxStack := 2, maxLocals := 2, code := jdk_52_method_91_code, exceptionTable := #[], attributes := #[] }
def k23m12 : Method := { name := "checkIndex", desc := "(I[B)V", sig := { parameters := [.int, (.array .byte)], returnType := none }, accessFlags := 9, code := some k23c12 }
def k23 : Class := { plain "java/lang/StringUTF16" (some 0) with
  accessFlags := 48
  interfaces := #[]
  cf := some (fileOf pool23 12 #[.nestMembers #[627, 629, 369]] #[⟨0, 9, 10, #[]⟩, ⟨9, 109, 110, #[]⟩, ⟨9, 15, 16, #[]⟩, ⟨8, 113, 114, #[]⟩, ⟨8, 73, 74, #[]⟩, ⟨9, 50, 51, #[]⟩, ⟨9, 121, 122, #[]⟩, ⟨8, 261, 262, #[]⟩, ⟨9, 117, 122, #[]⟩, ⟨9, 117, 118, #[]⟩, ⟨9, 121, 475, #[]⟩, ⟨9, 392, 74, #[]⟩, ⟨9, 69, 70, #[]⟩] 48 6 #[] #[⟨26, 61, 62, #[]⟩, ⟨26, 65, 62, #[]⟩, ⟨24, 430, 62, #[]⟩, ⟨4120, 46, 47, #[]⟩])
  fields := #[⟨"HI_BYTE_SHIFT", .int, 26, 0, 0⟩, ⟨"LO_BYTE_SHIFT", .int, 26, 1, 0⟩, ⟨"MAX_LENGTH", .int, 24, 2, 0⟩, ⟨"$assertionsDisabled", .boolean, 4120, 3, 0⟩]
  methods := #[k23m0, k23m1, k23m2, k23m3, k23m4, k23m5, k23m6, k23m7, k23m8, k23m9, k23m10, k23m11, k23m12]
  instanceTypes := #[]
  staticTypes := #[.int, .int, .int, .boolean]
  resolved := Array.replicate 635 none
  statics := some 5 }

def pool24 : Array CpInfo := pool [(1, .class_ 2), (0, u "java/lang/Character"), (18, u "value"), (0, u "C"), (19, .class_ 44), (1, u "java/lang/Object"), (3, .class_ 50), (1, u "java/lang/Character$CharacterCache"), (24, .integer 55296), (1, .integer 57344), (3, u "(C)Z"), (202, u "$assertionsDisabled"), (0, u "Z"), (21, .class_ 309), (1, u "java/lang/Character$UnicodeBlock"), (73, u "TYPE"), (0, u "Ljava/lang/Class;"), (0, .class_ 386), (0, u "java/io/Serializable"), (0, .class_ 388), (0, u "java/lang/Comparable"), (0, .class_ 390), (0, u "java/lang/constant/Constable"), (0, u "MIN_RADIX"), (0, u "I"), (2, u "MAX_RADIX"), (1, u "MIN_VALUE"), (1, u "MAX_VALUE"), (3, u "UNASSIGNED"), (0, u "B"), (0, u "UPPERCASE_LETTER"), (1, u "LOWERCASE_LETTER"), (0, u "TITLECASE_LETTER"), (1, u "MODIFIER_LETTER"), (1, u "OTHER_LETTER"), (1, u "NON_SPACING_MARK"), (1, u "ENCLOSING_MARK"), (1, u "COMBINING_SPACING_MARK"), (1, u "DECIMAL_DIGIT_NUMBER"), (1, u "LETTER_NUMBER"), (1, u "OTHER_NUMBER"), (1, u "SPACE_SEPARATOR"), (1, u "LINE_SEPARATOR"), (1, u "PARAGRAPH_SEPARATOR"), (1, u "CONTROL"), (1, u "FORMAT"), (1, u "PRIVATE_USE"), (1, u "SURROGATE"), (1, u "DASH_PUNCTUATION"), (1, u "START_PUNCTUATION"), (1, u "END_PUNCTUATION"), (1, u "CONNECTOR_PUNCTUATION"), (1, u "OTHER_PUNCTUATION"), (1, u "MATH_SYMBOL"), (1, u "CURRENCY_SYMBOL"), (1, u "MODIFIER_SYMBOL"), (1, u "OTHER_SYMBOL"), (1, u "INITIAL_QUOTE_PUNCTUATION"), (1, u "FINAL_QUOTE_PUNCTUATION"), (1, u "ERROR"), (1, u "DIRECTIONALITY_UNDEFINED"), (0, u "DIRECTIONALITY_LEFT_TO_RIGHT"), (0, u "DIRECTIONALITY_RIGHT_TO_LEFT"), (0, u "DIRECTIONALITY_RIGHT_TO_LEFT_ARABIC"), (0, u "DIRECTIONALITY_EUROPEAN_NUMBER"), (0, u "DIRECTIONALITY_EUROPEAN_NUMBER_SEPARATOR"), (0, u "DIRECTIONALITY_EUROPEAN_NUMBER_TERMINATOR"), (0, u "DIRECTIONALITY_ARABIC_NUMBER"), (0, u "DIRECTIONALITY_COMMON_NUMBER_SEPARATOR"), (0, u "DIRECTIONALITY_NONSPACING_MARK"), (0, u "DIRECTIONALITY_BOUNDARY_NEUTRAL"), (0, u "DIRECTIONALITY_PARAGRAPH_SEPARATOR"), (0, u "DIRECTIONALITY_SEGMENT_SEPARATOR"), (0, u "DIRECTIONALITY_WHITESPACE"), (0, u "DIRECTIONALITY_OTHER_NEUTRALS"), (0, u "DIRECTIONALITY_LEFT_TO_RIGHT_EMBEDDING"), (0, u "DIRECTIONALITY_LEFT_TO_RIGHT_OVERRIDE"), (0, u "DIRECTIONALITY_RIGHT_TO_LEFT_EMBEDDING"), (0, u "DIRECTIONALITY_RIGHT_TO_LEFT_OVERRIDE"), (1, u "DIRECTIONALITY_POP_DIRECTIONAL_FORMAT"), (0, u "DIRECTIONALITY_LEFT_TO_RIGHT_ISOLATE"), (0, u "DIRECTIONALITY_RIGHT_TO_LEFT_ISOLATE"), (0, u "DIRECTIONALITY_FIRST_STRONG_ISOLATE"), (0, u "DIRECTIONALITY_POP_DIRECTIONAL_ISOLATE"), (0, u "MIN_HIGH_SURROGATE"), (0, u "MAX_HIGH_SURROGATE"), (1, u "MIN_LOW_SURROGATE"), (0, u "MAX_LOW_SURROGATE"), (1, u "MIN_SURROGATE"), (0, u "MAX_SURROGATE"), (0, u "MIN_SUPPLEMENTARY_CODE_POINT"), (0, u "MIN_CODE_POINT"), (0, u "MAX_CODE_POINT"), (1, u "serialVersionUID"), (0, u "J"), (2, u "SIZE"), (0, u "BYTES"), (24, u "isSurrogate"), (63, .class_ 596), (0, u "java/lang/Character$UnicodeScript"), (0, .class_ 598), (0, u "java/lang/Character$Subset")] 5

def k24c0 : Code := { maxStack := 2, maxLocals := 1, code := jdk_89_method_16_code, exceptionTable := #[], attributes := #[] }
def k24m0 : Method := { name := "isSurrogate", desc := "(C)Z", sig := { parameters := [.char], returnType := some .boolean }, accessFlags := 9, code := some k24c0 }
def k24 : Class := { plain "java/lang/Character" (some 0) with
  accessFlags := 49
  interfaces := #[2, 3, 5]
  cf := some (fileOf pool24 1 #[.nestMembers #[48, 595, 307, 597]] #[⟨9, 531, 81, #[]⟩] 49 42 #[385, 387, 389] #[⟨25, 391, 392, #[]⟩, ⟨25, 395, 392, #[]⟩, ⟨25, 397, 22, #[]⟩, ⟨25, 399, 22, #[]⟩, ⟨25, 383, 384, #[]⟩, ⟨25, 403, 404, #[]⟩, ⟨25, 405, 404, #[]⟩, ⟨25, 407, 404, #[]⟩, ⟨25, 408, 404, #[]⟩, ⟨25, 410, 404, #[]⟩, ⟨25, 412, 404, #[]⟩, ⟨25, 414, 404, #[]⟩, ⟨25, 416, 404, #[]⟩, ⟨25, 418, 404, #[]⟩, ⟨25, 420, 404, #[]⟩, ⟨25, 422, 404, #[]⟩, ⟨25, 424, 404, #[]⟩, ⟨25, 426, 404, #[]⟩, ⟨25, 428, 404, #[]⟩, ⟨25, 430, 404, #[]⟩, ⟨25, 432, 404, #[]⟩, ⟨25, 434, 404, #[]⟩, ⟨25, 436, 404, #[]⟩, ⟨25, 438, 404, #[]⟩, ⟨25, 440, 404, #[]⟩, ⟨25, 442, 404, #[]⟩, ⟨25, 444, 404, #[]⟩, ⟨25, 446, 404, #[]⟩, ⟨25, 448, 404, #[]⟩, ⟨25, 450, 404, #[]⟩, ⟨25, 452, 404, #[]⟩, ⟨25, 454, 404, #[]⟩, ⟨25, 456, 404, #[]⟩, ⟨25, 458, 404, #[]⟩, ⟨25, 460, 404, #[]⟩, ⟨24, 462, 392, #[]⟩, ⟨25, 464, 404, #[]⟩, ⟨25, 465, 404, #[]⟩, ⟨25, 466, 404, #[]⟩, ⟨25, 467, 404, #[]⟩, ⟨25, 468, 404, #[]⟩, ⟨25, 469, 404, #[]⟩, ⟨25, 470, 404, #[]⟩, ⟨25, 471, 404, #[]⟩, ⟨25, 472, 404, #[]⟩, ⟨25, 473, 404, #[]⟩, ⟨25, 474, 404, #[]⟩, ⟨25, 475, 404, #[]⟩, ⟨25, 476, 404, #[]⟩, ⟨25, 477, 404, #[]⟩, ⟨25, 478, 404, #[]⟩, ⟨25, 479, 404, #[]⟩, ⟨25, 480, 404, #[]⟩, ⟨25, 481, 404, #[]⟩, ⟨25, 482, 404, #[]⟩, ⟨25, 484, 404, #[]⟩, ⟨25, 485, 404, #[]⟩, ⟨25, 486, 404, #[]⟩, ⟨25, 487, 404, #[]⟩, ⟨25, 488, 404, #[]⟩, ⟨25, 489, 22, #[]⟩, ⟨25, 490, 22, #[]⟩, ⟨25, 492, 22, #[]⟩, ⟨25, 493, 22, #[]⟩, ⟨25, 495, 22, #[]⟩, ⟨25, 496, 22, #[]⟩, ⟨25, 497, 392, #[]⟩, ⟨25, 498, 392, #[]⟩, ⟨25, 499, 392, #[]⟩, ⟨18, 21, 22, #[]⟩, ⟨26, 501, 502, #[]⟩, ⟨25, 505, 392, #[]⟩, ⟨25, 506, 392, #[]⟩, ⟨4120, 284, 285, #[]⟩])
  fields := #[⟨"MIN_RADIX", .int, 25, 0, 0⟩, ⟨"MAX_RADIX", .int, 25, 1, 0⟩, ⟨"MIN_VALUE", .char, 25, 2, 0⟩, ⟨"MAX_VALUE", .char, 25, 3, 0⟩, ⟨"TYPE", (.object "java/lang/Class"), 25, 4, 0⟩, ⟨"UNASSIGNED", .byte, 25, 5, 0⟩, ⟨"UPPERCASE_LETTER", .byte, 25, 6, 0⟩, ⟨"LOWERCASE_LETTER", .byte, 25, 7, 0⟩, ⟨"TITLECASE_LETTER", .byte, 25, 8, 0⟩, ⟨"MODIFIER_LETTER", .byte, 25, 9, 0⟩, ⟨"OTHER_LETTER", .byte, 25, 10, 0⟩, ⟨"NON_SPACING_MARK", .byte, 25, 11, 0⟩, ⟨"ENCLOSING_MARK", .byte, 25, 12, 0⟩, ⟨"COMBINING_SPACING_MARK", .byte, 25, 13, 0⟩, ⟨"DECIMAL_DIGIT_NUMBER", .byte, 25, 14, 0⟩, ⟨"LETTER_NUMBER", .byte, 25, 15, 0⟩, ⟨"OTHER_NUMBER", .byte, 25, 16, 0⟩, ⟨"SPACE_SEPARATOR", .byte, 25, 17, 0⟩, ⟨"LINE_SEPARATOR", .byte, 25, 18, 0⟩, ⟨"PARAGRAPH_SEPARATOR", .byte, 25, 19, 0⟩, ⟨"CONTROL", .byte, 25, 20, 0⟩, ⟨"FORMAT", .byte, 25, 21, 0⟩, ⟨"PRIVATE_USE", .byte, 25, 22, 0⟩, ⟨"SURROGATE", .byte, 25, 23, 0⟩, ⟨"DASH_PUNCTUATION", .byte, 25, 24, 0⟩, ⟨"START_PUNCTUATION", .byte, 25, 25, 0⟩, ⟨"END_PUNCTUATION", .byte, 25, 26, 0⟩, ⟨"CONNECTOR_PUNCTUATION", .byte, 25, 27, 0⟩, ⟨"OTHER_PUNCTUATION", .byte, 25, 28, 0⟩, ⟨"MATH_SYMBOL", .byte, 25, 29, 0⟩, ⟨"CURRENCY_SYMBOL", .byte, 25, 30, 0⟩, ⟨"MODIFIER_SYMBOL", .byte, 25, 31, 0⟩, ⟨"OTHER_SYMBOL", .byte, 25, 32, 0⟩, ⟨"INITIAL_QUOTE_PUNCTUATION", .byte, 25, 33, 0⟩, ⟨"FINAL_QUOTE_PUNCTUATION", .byte, 25, 34, 0⟩, ⟨"ERROR", .int, 24, 35, 0⟩, ⟨"DIRECTIONALITY_UNDEFINED", .byte, 25, 36, 0⟩, ⟨"DIRECTIONALITY_LEFT_TO_RIGHT", .byte, 25, 37, 0⟩, ⟨"DIRECTIONALITY_RIGHT_TO_LEFT", .byte, 25, 38, 0⟩, ⟨"DIRECTIONALITY_RIGHT_TO_LEFT_ARABIC", .byte, 25, 39, 0⟩, ⟨"DIRECTIONALITY_EUROPEAN_NUMBER", .byte, 25, 40, 0⟩, ⟨"DIRECTIONALITY_EUROPEAN_NUMBER_SEPARATOR", .byte, 25, 41, 0⟩, ⟨"DIRECTIONALITY_EUROPEAN_NUMBER_TERMINATOR", .byte, 25, 42, 0⟩, ⟨"DIRECTIONALITY_ARABIC_NUMBER", .byte, 25, 43, 0⟩, ⟨"DIRECTIONALITY_COMMON_NUMBER_SEPARATOR", .byte, 25, 44, 0⟩, ⟨"DIRECTIONALITY_NONSPACING_MARK", .byte, 25, 45, 0⟩, ⟨"DIRECTIONALITY_BOUNDARY_NEUTRAL", .byte, 25, 46, 0⟩, ⟨"DIRECTIONALITY_PARAGRAPH_SEPARATOR", .byte, 25, 47, 0⟩, ⟨"DIRECTIONALITY_SEGMENT_SEPARATOR", .byte, 25, 48, 0⟩, ⟨"DIRECTIONALITY_WHITESPACE", .byte, 25, 49, 0⟩, ⟨"DIRECTIONALITY_OTHER_NEUTRALS", .byte, 25, 50, 0⟩, ⟨"DIRECTIONALITY_LEFT_TO_RIGHT_EMBEDDING", .byte, 25, 51, 0⟩, ⟨"DIRECTIONALITY_LEFT_TO_RIGHT_OVERRIDE", .byte, 25, 52, 0⟩, ⟨"DIRECTIONALITY_RIGHT_TO_LEFT_EMBEDDING", .byte, 25, 53, 0⟩, ⟨"DIRECTIONALITY_RIGHT_TO_LEFT_OVERRIDE", .byte, 25, 54, 0⟩, ⟨"DIRECTIONALITY_POP_DIRECTIONAL_FORMAT", .byte, 25, 55, 0⟩, ⟨"DIRECTIONALITY_LEFT_TO_RIGHT_ISOLATE", .byte, 25, 56, 0⟩, ⟨"DIRECTIONALITY_RIGHT_TO_LEFT_ISOLATE", .byte, 25, 57, 0⟩, ⟨"DIRECTIONALITY_FIRST_STRONG_ISOLATE", .byte, 25, 58, 0⟩, ⟨"DIRECTIONALITY_POP_DIRECTIONAL_ISOLATE", .byte, 25, 59, 0⟩, ⟨"MIN_HIGH_SURROGATE", .char, 25, 60, 0⟩, ⟨"MAX_HIGH_SURROGATE", .char, 25, 61, 0⟩, ⟨"MIN_LOW_SURROGATE", .char, 25, 62, 0⟩, ⟨"MAX_LOW_SURROGATE", .char, 25, 63, 0⟩, ⟨"MIN_SURROGATE", .char, 25, 64, 0⟩, ⟨"MAX_SURROGATE", .char, 25, 65, 0⟩, ⟨"MIN_SUPPLEMENTARY_CODE_POINT", .int, 25, 66, 0⟩, ⟨"MIN_CODE_POINT", .int, 25, 67, 0⟩, ⟨"MAX_CODE_POINT", .int, 25, 68, 0⟩, ⟨"value", .char, 18, 0, 0⟩, ⟨"serialVersionUID", .long, 26, 69, 0⟩, ⟨"SIZE", .int, 25, 70, 0⟩, ⟨"BYTES", .int, 25, 71, 0⟩, ⟨"$assertionsDisabled", .boolean, 4120, 72, 0⟩]
  methods := #[k24m0]
  instanceTypes := #[.char]
  staticTypes := #[.int, .int, .char, .char, (.object "java/lang/Class"), .byte, .byte, .byte, .byte, .byte, .byte, .byte, .byte, .byte, .byte, .byte, .byte, .byte, .byte, .byte, .byte, .byte, .byte, .byte, .byte, .byte, .byte, .byte, .byte, .byte, .byte, .byte, .byte, .byte, .byte, .int, .byte, .byte, .byte, .byte, .byte, .byte, .byte, .byte, .byte, .byte, .byte, .byte, .byte, .byte, .byte, .byte, .byte, .byte, .byte, .byte, .byte, .byte, .byte, .byte, .char, .char, .char, .char, .char, .char, .int, .int, .int, .long, .int, .int, .boolean]
  resolved := Array.replicate 604 none
  statics := none }

def pool25 : Array CpInfo := pool [(9, u "<init>"), (6, .class_ 18), (1, u "java/lang/Object"), (0, u "()V"), (1, .class_ 23), (1, u "jdk/internal/util/ArraysSupport"), (0, u "LOG2_ARRAY_LONG_INDEX_SCALE"), (0, u "I"), (2, u "U"), (0, u "Ljdk/internal/misc/Unsafe;"), (8, u "BIG_ENDIAN"), (0, u "Z"), (8, u "LOG2_BYTE_BIT_SIZE"), (4, u "LOG2_ARRAY_INT_INDEX_SCALE"), (54, u "JLA"), (0, u "Ljdk/internal/access/JavaLangAccess;"), (11, u "LOG2_ARRAY_BOOLEAN_INDEX_SCALE"), (9, u "LOG2_ARRAY_BYTE_INDEX_SCALE"), (5, u "LOG2_ARRAY_CHAR_INDEX_SCALE"), (5, u "LOG2_ARRAY_SHORT_INDEX_SCALE"), (18, u "LOG2_ARRAY_FLOAT_INDEX_SCALE"), (24, u "LOG2_ARRAY_DOUBLE_INDEX_SCALE"), (6, .methodref 195 196), (0, .class_ 197), (0, .nameAndType 198 199), (0, u "java/lang/Math"), (0, u "max"), (0, u "(II)I"), (0, .integer 2147483639), (76, u "T_BOOLEAN"), (2, u "T_CHAR"), (1, u "T_FLOAT"), (1, u "T_DOUBLE"), (1, u "T_BYTE"), (1, u "T_SHORT"), (1, u "T_INT"), (1, u "T_LONG"), (1, u "SOFT_MAX_ARRAY_LENGTH"), (56, u "newLength"), (0, u "(III)I")] 25

def k25m0 : Method := { name := "<init>", desc := "()V", sig := { parameters := [], returnType := none }, accessFlags := 2, code := none }
def k25c1 : Code := { maxStack := 3, maxLocals := 4, code := jdk_48_method_27_code, exceptionTable := #[], attributes := #[] }
def k25m1 : Method := { name := "newLength", desc := "(III)I", sig := { parameters := [.int, .int, .int], returnType := some .int }, accessFlags := 9, code := some k25c1 }
def k25 : Class := { plain "jdk/internal/util/ArraysSupport" (some 0) with
  accessFlags := 33
  interfaces := #[]
  cf := some (fileOf pool25 21 #[] #[⟨2, 9, 19, #[]⟩, ⟨9, 351, 352, #[]⟩] 33 16 #[] #[⟨24, 28, 29, #[]⟩, ⟨26, 38, 39, #[]⟩, ⟨25, 121, 25, #[]⟩, ⟨25, 131, 25, #[]⟩, ⟨25, 137, 25, #[]⟩, ⟨25, 143, 25, #[]⟩, ⟨25, 53, 25, #[]⟩, ⟨25, 24, 25, #[]⟩, ⟨25, 162, 25, #[]⟩, ⟨25, 187, 25, #[]⟩, ⟨26, 48, 25, #[]⟩, ⟨25, 277, 25, #[]⟩, ⟨25, 280, 25, #[]⟩, ⟨25, 282, 25, #[]⟩, ⟨25, 284, 25, #[]⟩, ⟨25, 286, 25, #[]⟩, ⟨25, 288, 25, #[]⟩, ⟨25, 290, 25, #[]⟩, ⟨25, 292, 25, #[]⟩, ⟨26, 108, 109, #[]⟩, ⟨25, 294, 25, #[]⟩])
  fields := #[⟨"U", (.object "jdk/internal/misc/Unsafe"), 24, 0, 0⟩, ⟨"BIG_ENDIAN", .boolean, 26, 1, 0⟩, ⟨"LOG2_ARRAY_BOOLEAN_INDEX_SCALE", .int, 25, 2, 0⟩, ⟨"LOG2_ARRAY_BYTE_INDEX_SCALE", .int, 25, 3, 0⟩, ⟨"LOG2_ARRAY_CHAR_INDEX_SCALE", .int, 25, 4, 0⟩, ⟨"LOG2_ARRAY_SHORT_INDEX_SCALE", .int, 25, 5, 0⟩, ⟨"LOG2_ARRAY_INT_INDEX_SCALE", .int, 25, 6, 0⟩, ⟨"LOG2_ARRAY_LONG_INDEX_SCALE", .int, 25, 7, 0⟩, ⟨"LOG2_ARRAY_FLOAT_INDEX_SCALE", .int, 25, 8, 0⟩, ⟨"LOG2_ARRAY_DOUBLE_INDEX_SCALE", .int, 25, 9, 0⟩, ⟨"LOG2_BYTE_BIT_SIZE", .int, 26, 10, 0⟩, ⟨"T_BOOLEAN", .int, 25, 11, 0⟩, ⟨"T_CHAR", .int, 25, 12, 0⟩, ⟨"T_FLOAT", .int, 25, 13, 0⟩, ⟨"T_DOUBLE", .int, 25, 14, 0⟩, ⟨"T_BYTE", .int, 25, 15, 0⟩, ⟨"T_SHORT", .int, 25, 16, 0⟩, ⟨"T_INT", .int, 25, 17, 0⟩, ⟨"T_LONG", .int, 25, 18, 0⟩, ⟨"JLA", (.object "jdk/internal/access/JavaLangAccess"), 26, 19, 0⟩, ⟨"SOFT_MAX_ARRAY_LENGTH", .int, 25, 20, 0⟩]
  methods := #[k25m0, k25m1]
  instanceTypes := #[]
  staticTypes := #[(.object "jdk/internal/misc/Unsafe"), .boolean, .int, .int, .int, .int, .int, .int, .int, .int, .int, .int, .int, .int, .int, .int, .int, .int, .int, (.object "jdk/internal/access/JavaLangAccess"), .int]
  resolved := Array.replicate 378 none
  statics := none }

def pool26 : Array CpInfo := pool [(1, .class_ 2), (0, u "java/lang/Cloneable"), (0, .class_ 4), (0, u "java/lang/Object")] 2

def k26 : Class := { plain "java/lang/Cloneable" (some 0) with
  accessFlags := 1537
  interfaces := #[]
  cf := some (fileOf pool26 1 #[] #[] 1537 3 #[] #[])
  fields := #[]
  methods := #[]
  instanceTypes := #[]
  staticTypes := #[]
  resolved := Array.replicate 7 none
  statics := none }

def k27 : Class := { plain "byte" none with kind := .primitive 'B', accessFlags := 0x411 }
def k28 : Class := { plain "[B" (some 0) with kind := .array 27 .byte, interfaces := #[26, 2], accessFlags := 1041 }

def k29 : Class := { plain "char" none with kind := .primitive 'C', accessFlags := 0x411 }
def k30 : Class := { plain "[C" (some 0) with kind := .array 29 .char, interfaces := #[26, 2], accessFlags := 1041 }

def k31 : Class := { plain "int" none with kind := .primitive 'I', accessFlags := 0x411 }
def k32 : Class := { plain "[I" (some 0) with kind := .array 31 .int, interfaces := #[26, 2], accessFlags := 1041 }

def k33 : Class := { plain "[Ljava/lang/String;" (some 0) with kind := .array 7 (.object "java/lang/String"), interfaces := #[26, 2], accessFlags := 1041 }

def heap : Heap := #[{ cls := 7, slots := #[.long 0, .int 1, .null, .int 0, .null, .int 0, .int 0], vm := .statics 7 },
  { cls := 8, slots := #[.null, .null, .null, .null, .null, .null, .null, .null, .null, .ref 6, .null, .null], vm := .statics 8 },
  { cls := 16, slots := #[.null, .null, .null], vm := .statics 16 },
  { cls := 17, slots := #[.null, .null, .ref 7, .null, .null, .null], vm := .statics 17 },
  { cls := 21, slots := #[.ref 7, .null], vm := .statics 21 },
  { cls := 23, slots := #[.int 0, .int 8, .int 0, .int 1], vm := .statics 23 },
  { cls := 30, slots := #[.int 48, .int 49, .int 50, .int 51, .int 52, .int 53, .int 54, .int 55, .int 56, .int 57, .int 65, .int 66, .int 67, .int 68, .int 69, .int 70], vm := .none },
  { cls := 21, slots := #[.null, .null, .null], vm := .none }]
def classes : Array Class := #[k0, k1, k2, k3, k4, k5, k6, k7, k8, k9, k10, k11, k12, k13, k14, k15, k16, k17, k18, k19, k20, k21, k22, k23, k24, k25, k26, k27, k28, k29, k30, k31, k32, k33]
def interned : List (Array UInt16 × Addr) := []
def slotsUsed : Nat := 53
def theMethod : MethodId := ⟨1, 1⟩
def args0 : Array Value := #[.int 6, .int 7, .int 8, .int 1]
def aboutOver (below : List Frame) : State where
  vm := { classes := classes, interned := interned.toArray }
  heap := heap
  slotsUsed := slotsUsed
  threads := #[{ frames := .invoking theMethod args0 :: below }]
def below0 : List Frame := [.native { method := ⟨0, 0⟩, args := #[] }]
def about1 : State := aboutOver below0
def p0 : Program := .bare "" "" ""
def e0 : Env := launch0.env 0 0 0
theorem w_frames : about1.frames = Frame.invoking theMethod args0 :: below0 := rfl
theorem w_args : argsFit about1.vm theMethod args0 = true := by decide +kernel
theorem w_heap : heapFits about1 = true := by decide +kernel
theorem w_runnable : about1.curStatus? = some .runnable := by decide +kernel
theorem w_alone : about1.alone = true := by decide +kernel
theorem w_named : about1.methodNamed? x = some theMethod := by decide +kernel
theorem w_hears : about1.hears theMethod below0 = true := by decide +kernel
theorem w_ripe : about1.ripe theMethod args0 below0 = true := by decide +kernel
theorem w_running : about1.status = .running := rfl
theorem w_room : about1.hasRoom e0.platform room_1 = true :=
  launch0.hasRoom_least _ room_1 (by decide +kernel) (by decide +kernel) (by decide +kernel) (by decide +kernel) (by decide +kernel) (by decide +kernel)
theorem allAtoms_all (ts : List Jvm.Cond) (a : Array Jvm.Value) (st : Jvm.State) : (allAtoms ts).before a st = ts.all (fun c => c.before a st) := by
  induction ts with
  | nil => rfl
  | cons c t ih =>
    show (Jvm.Cond.and c (allAtoms t)).before a st = _
    rw [Jvm.Cond.before_and, ih, List.all_cons]
def words1 : List Jvm.Cond := Jvm.Cond.code x code maxLocals ret :: tables_1
theorem code_word {y : MethodName} {bytes : ByteArray} {mx : Nat} {rt : Option FieldType} {a : Array Value} {s : State} {m : MethodId} {meth : Method} {c : Code} (h1 : s.methodNamed? y = some m) (h2 : s.vm.method? m = some meth) (h3 : meth.code = some c) (h4 : c.code = bytes)
    (h5 : (c.maxLocals == mx && c.exceptionTable.isEmpty && decide (c.maxStack ≤ mostOperands) && decide (meth.sig.returnType = rt) && !meth.locks && decide (parseMethodDescriptor y.desc = some meth.sig)) = true) : (Jvm.Cond.code y bytes mx rt).before a s = true := by
  simp only [Bool.and_eq_true, beq_iff_eq, Bool.not_eq_true', decide_eq_true_eq] at h5
  obtain ⟨⟨⟨⟨⟨g1, g2⟩, g3⟩, g4⟩, g5⟩, g6⟩ := h5
  simp [Cond.before, Cond.holds, Cond.value, h1, h2, h3, h4, g1, g2, g3, g4, g5, g6]
def isCode : Jvm.Cond → Bool
  | .code _ _ _ _ => true
  | _ => false
theorem all_split {L : List Jvm.Cond} {P : Jvm.Cond → Bool} (h1 : L.all (fun c => isCode c || P c) = true) (h2 : ∀ c ∈ L.filter isCode, P c = true) : L.all P = true := by
  refine List.all_eq_true.mpr fun c hc => ?_
  have h := List.all_eq_true.mp h1 c hc
  rcases Bool.eq_false_or_eq_true (isCode c) with hi | hi
  · exact h2 c (List.mem_filter.mpr ⟨hc, hi⟩)
  · simpa [hi] using h
theorem w_c0 : (Jvm.Cond.code x code maxLocals ret).before args0 about1 = true := code_word (m := ⟨1, 1⟩) (meth := k1m1) (c := k1c1) (by decide +kernel) rfl rfl rfl (by decide +kernel)
theorem w_c1 : (Jvm.Cond.code ⟨"com/example/schema_to_form/schematoform/server/PathSegmentsPathPinLaw", "unit", "(II)C"⟩ method_3_code 3 (Option.some .char)).before args0 about1 = true := code_word (m := ⟨1, 2⟩) (meth := k1m2) (c := k1c2) (by decide +kernel) rfl rfl rfl (by decide +kernel)
theorem w_c2 : (Jvm.Cond.code ⟨"com/example/schema_to_form/schematoform/server/PathSegmentsPathPinLaw", "seg", "(ICC)Ljava/lang/String;"⟩ method_4_code 3 (Option.some (.object "java/lang/String"))).before args0 about1 = true := code_word (m := ⟨1, 3⟩) (meth := k1m3) (c := k1c3) (by decide +kernel) rfl rfl rfl (by decide +kernel)
theorem w_c3 : (Jvm.Cond.code ⟨"java/lang/String", "<init>", "([C)V"⟩ jdk_42_method_3_code 2 (Option.none : Option Jvm.ClassFile.FieldType)).before args0 about1 = true := code_word (m := ⟨7, 1⟩) (meth := k7m1) (c := k7c1) (by decide +kernel) rfl rfl rfl (by decide +kernel)
theorem w_c4 : (Jvm.Cond.code ⟨"java/lang/String", "<init>", "([CIILjava/lang/Void;)V"⟩ jdk_42_method_149_code 6 (Option.none : Option Jvm.ClassFile.FieldType)).before args0 about1 = true := code_word (m := ⟨7, 13⟩) (meth := k7m13) (c := k7c13) (by decide +kernel) rfl rfl rfl (by decide +kernel)
theorem w_c5 : (Jvm.Cond.code ⟨"java/lang/Object", "<init>", "()V"⟩ object_method_1_code 1 (Option.none : Option Jvm.ClassFile.FieldType)).before args0 about1 = true := code_word (m := ⟨0, 0⟩) (meth := k0m0) (c := k0c0) (by decide +kernel) rfl rfl rfl (by decide +kernel)
theorem w_c6 : (Jvm.Cond.code ⟨"com/example/schema_to_form/schematoform/server/PathSegments", "path", "([Ljava/lang/String;)Ljava/lang/String;"⟩ prog_8_method_7_code 6 (Option.some (.object "java/lang/String"))).before args0 about1 = true := code_word (m := ⟨8, 0⟩) (meth := k8m0) (c := k8c0) (by decide +kernel) rfl rfl rfl (by decide +kernel)
theorem w_c7 : (Jvm.Cond.code ⟨"java/lang/StringBuilder", "<init>", "()V"⟩ jdk_67_method_1_code 1 (Option.none : Option Jvm.ClassFile.FieldType)).before args0 about1 = true := code_word (m := ⟨11, 0⟩) (meth := k11m0) (c := k11c0) (by decide +kernel) rfl rfl rfl (by decide +kernel)
theorem w_c8 : (Jvm.Cond.code ⟨"java/lang/AbstractStringBuilder", "<init>", "(I)V"⟩ jdk_68_method_2_code 2 (Option.none : Option Jvm.ClassFile.FieldType)).before args0 about1 = true := code_word (m := ⟨10, 1⟩) (meth := k10m1) (c := k10c1) (by decide +kernel) rfl rfl rfl (by decide +kernel)
theorem w_c9 : (Jvm.Cond.code ⟨"java/lang/StringBuilder", "toString", "()Ljava/lang/String;"⟩ jdk_67_method_42_code 1 (Option.some (.object "java/lang/String"))).before args0 about1 = true := code_word (m := ⟨11, 3⟩) (meth := k11m3) (c := k11c3) (by decide +kernel) rfl rfl rfl (by decide +kernel)
theorem w_c10 : (Jvm.Cond.code ⟨"java/lang/String", "<init>", "(Ljava/lang/StringBuilder;)V"⟩ jdk_42_method_53_code 2 (Option.none : Option Jvm.ClassFile.FieldType)).before args0 about1 = true := code_word (m := ⟨7, 5⟩) (meth := k7m5) (c := k7c5) (by decide +kernel) rfl rfl rfl (by decide +kernel)
theorem w_c11 : (Jvm.Cond.code ⟨"java/lang/String", "<init>", "(Ljava/lang/AbstractStringBuilder;Ljava/lang/Void;)V"⟩ jdk_42_method_150_code 5 (Option.none : Option Jvm.ClassFile.FieldType)).before args0 about1 = true := code_word (m := ⟨7, 14⟩) (meth := k7m14) (c := k7c14) (by decide +kernel) rfl rfl rfl (by decide +kernel)
theorem w_c12 : (Jvm.Cond.code ⟨"java/lang/AbstractStringBuilder", "getValue", "()[B"⟩ jdk_68_method_64_code 1 (Option.some (.array .byte))).before args0 about1 = true := code_word (m := ⟨10, 7⟩) (meth := k10m7) (c := k10c7) (by decide +kernel) rfl rfl rfl (by decide +kernel)
theorem w_c13 : (Jvm.Cond.code ⟨"java/lang/StringBuilder", "length", "()I"⟩ jdk_67_method_93_code 1 (Option.some .int)).before args0 about1 = true := code_word (m := ⟨11, 4⟩) (meth := k11m4) (c := k11c4) (by decide +kernel) rfl rfl rfl (by decide +kernel)
theorem w_c14 : (Jvm.Cond.code ⟨"java/lang/AbstractStringBuilder", "length", "()I"⟩ jdk_68_method_6_code 1 (Option.some .int)).before args0 about1 = true := code_word (m := ⟨10, 2⟩) (meth := k10m2) (c := k10c2) (by decide +kernel) rfl rfl rfl (by decide +kernel)
theorem w_c15 : (Jvm.Cond.code ⟨"java/lang/AbstractStringBuilder", "isLatin1", "()Z"⟩ jdk_68_method_68_code 1 (Option.some .boolean)).before args0 about1 = true := code_word (m := ⟨10, 8⟩) (meth := k10m8) (c := k10c8) (by decide +kernel) rfl rfl rfl (by decide +kernel)
theorem w_c16 : (Jvm.Cond.code ⟨"java/util/Arrays", "copyOfRange", "([BII)[B"⟩ jdk_65_method_132_code 3 (Option.some (.array .byte))).before args0 about1 = true := code_word (m := ⟨12, 3⟩) (meth := k12m3) (c := k12c3) (by decide +kernel) rfl rfl rfl (by decide +kernel)
theorem w_c17 : (Jvm.Cond.code ⟨"java/util/Arrays", "copyOfRangeByte", "([BII)[B"⟩ jdk_65_method_133_code 5 (Option.some (.array .byte))).before args0 about1 = true := code_word (m := ⟨12, 4⟩) (meth := k12m4) (c := k12c4) (by decide +kernel) rfl rfl rfl (by decide +kernel)
theorem w_c18 : (Jvm.Cond.code ⟨"java/util/Arrays", "checkLength", "(II)V"⟩ jdk_65_method_131_code 2 (Option.none : Option Jvm.ClassFile.FieldType)).before args0 about1 = true := code_word (m := ⟨12, 2⟩) (meth := k12m2) (c := k12c2) (by decide +kernel) rfl rfl rfl (by decide +kernel)
theorem w_c19 : (Jvm.Cond.code ⟨"java/lang/Math", "min", "(II)I"⟩ jdk_29_method_69_code 2 (Option.some .int)).before args0 about1 = true := code_word (m := ⟨13, 2⟩) (meth := k13m2) (c := k13c2) (by decide +kernel) rfl rfl rfl (by decide +kernel)
theorem w_c20 : (Jvm.Cond.code ⟨"java/lang/String", "length", "()I"⟩ jdk_42_method_54_code 1 (Option.some .int)).before args0 about1 = true := code_word (m := ⟨7, 6⟩) (meth := k7m6) (c := k7c6) (by decide +kernel) rfl rfl rfl (by decide +kernel)
theorem w_c21 : (Jvm.Cond.code ⟨"java/lang/String", "coder", "()B"⟩ jdk_42_method_152_code 1 (Option.some .byte)).before args0 about1 = true := code_word (m := ⟨7, 16⟩) (meth := k7m16) (c := k7c16) (by decide +kernel) rfl rfl rfl (by decide +kernel)
theorem w_c22 : (Jvm.Cond.code ⟨"java/lang/String", "valueOf", "(C)Ljava/lang/String;"⟩ jdk_42_method_139_code 1 (Option.some (.object "java/lang/String"))).before args0 about1 = true := code_word (m := ⟨7, 11⟩) (meth := k7m11) (c := k7c11) (by decide +kernel) rfl rfl rfl (by decide +kernel)
theorem w_c23 : (Jvm.Cond.code ⟨"java/lang/StringLatin1", "canEncode", "(C)Z"⟩ jdk_43_method_3_code 1 (Option.some .boolean)).before args0 about1 = true := code_word (m := ⟨15, 2⟩) (meth := k15m2) (c := k15c2) (by decide +kernel) rfl rfl rfl (by decide +kernel)
theorem w_c24 : (Jvm.Cond.code ⟨"java/lang/StringLatin1", "toBytes", "(C)[B"⟩ jdk_43_method_46_code 1 (Option.some (.array .byte))).before args0 about1 = true := code_word (m := ⟨15, 5⟩) (meth := k15m5) (c := k15c5) (by decide +kernel) rfl rfl rfl (by decide +kernel)
theorem w_c25 : (Jvm.Cond.code ⟨"java/lang/String", "<init>", "([BB)V"⟩ jdk_42_method_151_code 3 (Option.none : Option Jvm.ClassFile.FieldType)).before args0 about1 = true := code_word (m := ⟨7, 15⟩) (meth := k7m15) (c := k7c15) (by decide +kernel) rfl rfl rfl (by decide +kernel)
theorem w_c26 : (Jvm.Cond.code ⟨"java/lang/StringBuilder", "append", "(C)Ljava/lang/StringBuilder;"⟩ jdk_67_method_14_code 2 (Option.some (.object "java/lang/StringBuilder"))).before args0 about1 = true := code_word (m := ⟨11, 2⟩) (meth := k11m2) (c := k11c2) (by decide +kernel) rfl rfl rfl (by decide +kernel)
theorem w_c27 : (Jvm.Cond.code ⟨"java/lang/AbstractStringBuilder", "append", "(C)Ljava/lang/AbstractStringBuilder;"⟩ jdk_68_method_31_code 2 (Option.some (.object "java/lang/AbstractStringBuilder"))).before args0 about1 = true := code_word (m := ⟨10, 6⟩) (meth := k10m6) (c := k10c6) (by decide +kernel) rfl rfl rfl (by decide +kernel)
theorem w_c28 : (Jvm.Cond.code ⟨"java/lang/AbstractStringBuilder", "ensureCapacityInternal", "(I)V"⟩ jdk_68_method_9_code 3 (Option.none : Option Jvm.ClassFile.FieldType)).before args0 about1 = true := code_word (m := ⟨10, 3⟩) (meth := k10m3) (c := k10c3) (by decide +kernel) rfl rfl rfl (by decide +kernel)
theorem w_c29 : (Jvm.Cond.code ⟨"com/example/schema_to_form/schematoform/server/PathSegments", "appendEncoded", "(Ljava/lang/StringBuilder;Ljava/lang/String;Ljava/lang/String;)V"⟩ prog_8_method_9_code 7 (Option.none : Option Jvm.ClassFile.FieldType)).before args0 about1 = true := code_word (m := ⟨8, 1⟩) (meth := k8m1) (c := k8c1) (by decide +kernel) rfl rfl rfl (by decide +kernel)
theorem w_c30 : (Jvm.Cond.code ⟨"com/example/schema_to_form/schematoform/server/PathSegments", "isUnreserved", "(Ljava/lang/String;Ljava/lang/String;)Z"⟩ prog_8_method_14_code 4 (Option.some .boolean)).before args0 about1 = true := code_word (m := ⟨8, 2⟩) (meth := k8m2) (c := k8c2) (by decide +kernel) rfl rfl rfl (by decide +kernel)
theorem w_c31 : (Jvm.Cond.code ⟨"java/lang/StringBuilder", "append", "(Ljava/lang/String;)Ljava/lang/StringBuilder;"⟩ jdk_67_method_7_code 2 (Option.some (.object "java/lang/StringBuilder"))).before args0 about1 = true := code_word (m := ⟨11, 1⟩) (meth := k11m1) (c := k11c1) (by decide +kernel) rfl rfl rfl (by decide +kernel)
theorem w_c32 : (Jvm.Cond.code ⟨"java/lang/AbstractStringBuilder", "append", "(Ljava/lang/String;)Ljava/lang/AbstractStringBuilder;"⟩ jdk_68_method_22_code 3 (Option.some (.object "java/lang/AbstractStringBuilder"))).before args0 about1 = true := code_word (m := ⟨10, 5⟩) (meth := k10m5) (c := k10c5) (by decide +kernel) rfl rfl rfl (by decide +kernel)
theorem w_c33 : (Jvm.Cond.code ⟨"java/lang/AbstractStringBuilder", "putStringAt", "(ILjava/lang/String;)V"⟩ jdk_68_method_73_code 3 (Option.none : Option Jvm.ClassFile.FieldType)).before args0 about1 = true := code_word (m := ⟨10, 10⟩) (meth := k10m10) (c := k10c10) (by decide +kernel) rfl rfl rfl (by decide +kernel)
theorem w_c34 : (Jvm.Cond.code ⟨"java/lang/AbstractStringBuilder", "inflateIfNeededFor", "(Ljava/lang/String;)V"⟩ jdk_68_method_71_code 2 (Option.none : Option Jvm.ClassFile.FieldType)).before args0 about1 = true := code_word (m := ⟨10, 9⟩) (meth := k10m9) (c := k10c9) (by decide +kernel) rfl rfl rfl (by decide +kernel)
theorem w_c35 : (Jvm.Cond.code ⟨"java/lang/String", "getBytes", "([BIB)V"⟩ jdk_42_method_147_code 4 (Option.none : Option Jvm.ClassFile.FieldType)).before args0 about1 = true := code_word (m := ⟨7, 12⟩) (meth := k7m12) (c := k7c12) (by decide +kernel) rfl rfl rfl (by decide +kernel)
theorem w_c36 : (Jvm.Cond.code ⟨"java/lang/String", "charAt", "(I)C"⟩ jdk_42_method_56_code 2 (Option.some .char)).before args0 about1 = true := code_word (m := ⟨7, 7⟩) (meth := k7m7) (c := k7c7) (by decide +kernel) rfl rfl rfl (by decide +kernel)
theorem w_c37 : (Jvm.Cond.code ⟨"java/lang/String", "isLatin1", "()Z"⟩ jdk_42_method_154_code 1 (Option.some .boolean)).before args0 about1 = true := code_word (m := ⟨7, 17⟩) (meth := k7m17) (c := k7c17) (by decide +kernel) rfl rfl rfl (by decide +kernel)
theorem w_c38 : (Jvm.Cond.code ⟨"java/lang/StringLatin1", "charAt", "([BI)C"⟩ jdk_43_method_2_code 2 (Option.some .char)).before args0 about1 = true := code_word (m := ⟨15, 1⟩) (meth := k15m1) (c := k15c1) (by decide +kernel) rfl rfl rfl (by decide +kernel)
theorem w_c39 : (Jvm.Cond.code ⟨"java/lang/String", "checkIndex", "(II)V"⟩ jdk_42_method_155_code 2 (Option.none : Option Jvm.ClassFile.FieldType)).before args0 about1 = true := code_word (m := ⟨7, 18⟩) (meth := k7m18) (c := k7c18) (by decide +kernel) rfl rfl rfl (by decide +kernel)
theorem w_c40 : (Jvm.Cond.code ⟨"jdk/internal/util/Preconditions", "checkIndex", "(IILjava/util/function/BiFunction;)I"⟩ jdk_41_method_11_code 3 (Option.some .int)).before args0 about1 = true := code_word (m := ⟨16, 1⟩) (meth := k16m1) (c := k16c1) (by decide +kernel) rfl rfl rfl (by decide +kernel)
theorem w_c41 : (Jvm.Cond.code ⟨"com/example/schema_to_form/schematoform/server/PathSegments", "isUnreserved", "(I)Z"⟩ prog_8_method_15_code 1 (Option.some .boolean)).before args0 about1 = true := code_word (m := ⟨8, 3⟩) (meth := k8m3) (c := k8c3) (by decide +kernel) rfl rfl rfl (by decide +kernel)
theorem w_c42 : (Jvm.Cond.code ⟨"java/lang/String", "indexOf", "(I)I"⟩ jdk_42_method_79_code 2 (Option.some .int)).before args0 about1 = true := code_word (m := ⟨7, 9⟩) (meth := k7m9) (c := k7c9) (by decide +kernel) rfl rfl rfl (by decide +kernel)
theorem w_c43 : (Jvm.Cond.code ⟨"java/lang/String", "indexOf", "(II)I"⟩ jdk_42_method_80_code 3 (Option.some .int)).before args0 about1 = true := code_word (m := ⟨7, 10⟩) (meth := k7m10) (c := k7c10) (by decide +kernel) rfl rfl rfl (by decide +kernel)
theorem w_c44 : (Jvm.Cond.code ⟨"java/lang/StringLatin1", "indexOf", "([BIII)I"⟩ jdk_43_method_22_code 4 (Option.some .int)).before args0 about1 = true := code_word (m := ⟨15, 4⟩) (meth := k15m4) (c := k15c4) (by decide +kernel) rfl rfl rfl (by decide +kernel)
theorem w_c45 : (Jvm.Cond.code ⟨"java/lang/StringLatin1", "canEncode", "(I)Z"⟩ jdk_43_method_4_code 1 (Option.some .boolean)).before args0 about1 = true := code_word (m := ⟨15, 3⟩) (meth := k15m3) (c := k15c3) (by decide +kernel) rfl rfl rfl (by decide +kernel)
theorem w_c46 : (Jvm.Cond.code ⟨"java/lang/Math", "max", "(II)I"⟩ jdk_29_method_65_code 2 (Option.some .int)).before args0 about1 = true := code_word (m := ⟨13, 1⟩) (meth := k13m1) (c := k13c1) (by decide +kernel) rfl rfl rfl (by decide +kernel)
theorem w_c47 : (Jvm.Cond.code ⟨"java/lang/String", "getBytes", "(Ljava/nio/charset/Charset;)[B"⟩ jdk_42_method_64_code 2 (Option.some (.array .byte))).before args0 about1 = true := code_word (m := ⟨7, 8⟩) (meth := k7m8) (c := k7c8) (by decide +kernel) rfl rfl rfl (by decide +kernel)
theorem w_c48 : (Jvm.Cond.code ⟨"java/lang/String", "encode", "(Ljava/nio/charset/Charset;B[B)[B"⟩ jdk_42_method_18_code 3 (Option.some (.array .byte))).before args0 about1 = true := code_word (m := ⟨7, 2⟩) (meth := k7m2) (c := k7c2) (by decide +kernel) rfl rfl rfl (by decide +kernel)
theorem w_c49 : (Jvm.Cond.code ⟨"java/lang/String", "encodeUTF8", "(B[BZ)[B"⟩ jdk_42_method_46_code 9 (Option.some (.array .byte))).before args0 about1 = true := code_word (m := ⟨7, 3⟩) (meth := k7m3) (c := k7c3) (by decide +kernel) rfl rfl rfl (by decide +kernel)
theorem w_c50 : (Jvm.Cond.code ⟨"java/lang/StringCoding", "hasNegatives", "([BII)Z"⟩ jdk_123_method_2_code 3 (Option.some .boolean)).before args0 about1 = true := code_word (m := ⟨22, 1⟩) (meth := k22m1) (c := k22c1) (by decide +kernel) rfl rfl rfl (by decide +kernel)
theorem w_c51 : (Jvm.Cond.code ⟨"java/lang/StringCoding", "countPositives", "([BII)I"⟩ jdk_123_method_3_code 5 (Option.some .int)).before args0 about1 = true := code_word (m := ⟨22, 2⟩) (meth := k22m2) (c := k22c2) (by decide +kernel) rfl rfl rfl (by decide +kernel)
theorem w_c52 : (Jvm.Cond.code ⟨"java/lang/StringUTF16", "newBytesFor", "(I)[B"⟩ jdk_52_method_2_code 1 (Option.some (.array .byte))).before args0 about1 = true := code_word (m := ⟨23, 1⟩) (meth := k23m1) (c := k23c1) (by decide +kernel) rfl rfl rfl (by decide +kernel)
theorem w_c53 : (Jvm.Cond.code ⟨"java/lang/StringUTF16", "newBytesLength", "(I)I"⟩ jdk_52_method_3_code 1 (Option.some .int)).before args0 about1 = true := code_word (m := ⟨23, 2⟩) (meth := k23m2) (c := k23c2) (by decide +kernel) rfl rfl rfl (by decide +kernel)
theorem w_c54 : (Jvm.Cond.code ⟨"com/example/schema_to_form/schematoform/server/PathSegmentsPathPinLaw", "expectSeg", "(Ljava/lang/String;IICC)I"⟩ method_10_code 6 (Option.some .int)).before args0 about1 = true := code_word (m := ⟨1, 9⟩) (meth := k1m9) (c := k1c9) (by decide +kernel) rfl rfl rfl (by decide +kernel)
theorem w_c55 : (Jvm.Cond.code ⟨"com/example/schema_to_form/schematoform/server/PathSegmentsPathPinLaw", "expectChar", "(Ljava/lang/String;IC)I"⟩ method_7_code 3 (Option.some .int)).before args0 about1 = true := code_word (m := ⟨1, 6⟩) (meth := k1m6) (c := k1c6) (by decide +kernel) rfl rfl rfl (by decide +kernel)
theorem w_c56 : (Jvm.Cond.code ⟨"com/example/schema_to_form/schematoform/server/PathSegmentsPathPinLaw", "expectUnit", "(Ljava/lang/String;IC)I"⟩ method_9_code 5 (Option.some .int)).before args0 about1 = true := code_word (m := ⟨1, 8⟩) (meth := k1m8) (c := k1c8) (by decide +kernel) rfl rfl rfl (by decide +kernel)
theorem w_c57 : (Jvm.Cond.code ⟨"com/example/schema_to_form/schematoform/server/PathSegmentsPathPinLaw", "expectByte", "(Ljava/lang/String;II)I"⟩ method_8_code 4 (Option.some .int)).before args0 about1 = true := code_word (m := ⟨1, 7⟩) (meth := k1m7) (c := k1c7) (by decide +kernel) rfl rfl rfl (by decide +kernel)
theorem w_c58 : (Jvm.Cond.code ⟨"com/example/schema_to_form/schematoform/server/PathSegmentsPathPinLaw", "hexDigit", "(I)C"⟩ method_6_code 1 (Option.some .char)).before args0 about1 = true := code_word (m := ⟨1, 5⟩) (meth := k1m5) (c := k1c5) (by decide +kernel) rfl rfl rfl (by decide +kernel)
theorem w_c59 : (Jvm.Cond.code ⟨"java/lang/StringUTF16", "compress", "([CII)[B"⟩ jdk_52_method_16_code 6 (Option.some (.array .byte))).before args0 about1 = true := code_word (m := ⟨23, 8⟩) (meth := k23m8) (c := k23c8) (by decide +kernel) rfl rfl rfl (by decide +kernel)
theorem w_c60 : (Jvm.Cond.code ⟨"java/lang/StringUTF16", "compress", "([CI[BII)I"⟩ jdk_52_method_21_code 7 (Option.some .int)).before args0 about1 = true := code_word (m := ⟨23, 9⟩) (meth := k23m9) (c := k23c9) (by decide +kernel) rfl rfl rfl (by decide +kernel)
theorem w_c61 : (Jvm.Cond.code ⟨"java/lang/StringUTF16", "toBytes", "([CII)[B"⟩ jdk_52_method_14_code 5 (Option.some (.array .byte))).before args0 about1 = true := code_word (m := ⟨23, 6⟩) (meth := k23m6) (c := k23c6) (by decide +kernel) rfl rfl rfl (by decide +kernel)
theorem w_c62 : (Jvm.Cond.code ⟨"java/lang/StringUTF16", "putChar", "([BII)V"⟩ jdk_52_method_4_code 3 (Option.none : Option Jvm.ClassFile.FieldType)).before args0 about1 = true := code_word (m := ⟨23, 3⟩) (meth := k23m3) (c := k23c3) (by decide +kernel) rfl rfl rfl (by decide +kernel)
theorem w_c63 : (Jvm.Cond.code ⟨"java/lang/StringUTF16", "getChar", "([BI)C"⟩ jdk_52_method_5_code 2 (Option.some .char)).before args0 about1 = true := code_word (m := ⟨23, 4⟩) (meth := k23m4) (c := k23c4) (by decide +kernel) rfl rfl rfl (by decide +kernel)
theorem w_c64 : (Jvm.Cond.code ⟨"java/lang/StringUTF16", "coderFromArrayLen", "([BI)B"⟩ jdk_52_method_15_code 2 (Option.some .byte)).before args0 about1 = true := code_word (m := ⟨23, 7⟩) (meth := k23m7) (c := k23c7) (by decide +kernel) rfl rfl rfl (by decide +kernel)
theorem w_c65 : (Jvm.Cond.code ⟨"java/lang/StringUTF16", "charAt", "([BI)C"⟩ jdk_52_method_83_code 2 (Option.some .char)).before args0 about1 = true := code_word (m := ⟨23, 11⟩) (meth := k23m11) (c := k23c11) (by decide +kernel) rfl rfl rfl (by decide +kernel)
theorem w_c66 : (Jvm.Cond.code ⟨"java/lang/StringUTF16", "checkIndex", "(I[B)V"⟩ jdk_52_method_91_code 2 (Option.none : Option Jvm.ClassFile.FieldType)).before args0 about1 = true := code_word (m := ⟨23, 12⟩) (meth := k23m12) (c := k23c12) (by decide +kernel) rfl rfl rfl (by decide +kernel)
theorem w_c67 : (Jvm.Cond.code ⟨"java/lang/StringUTF16", "length", "([B)I"⟩ jdk_52_method_6_code 1 (Option.some .int)).before args0 about1 = true := code_word (m := ⟨23, 5⟩) (meth := k23m5) (c := k23c5) (by decide +kernel) rfl rfl rfl (by decide +kernel)
theorem w_c68 : (Jvm.Cond.code ⟨"java/lang/String", "encodeUTF8_UTF16", "([BZ)[B"⟩ jdk_42_method_47_code 9 (Option.some (.array .byte))).before args0 about1 = true := code_word (m := ⟨7, 4⟩) (meth := k7m4) (c := k7c4) (by decide +kernel) rfl rfl rfl (by decide +kernel)
theorem w_c69 : (Jvm.Cond.code ⟨"java/lang/Character", "isSurrogate", "(C)Z"⟩ jdk_89_method_16_code 1 (Option.some .boolean)).before args0 about1 = true := code_word (m := ⟨24, 0⟩) (meth := k24m0) (c := k24c0) (by decide +kernel) rfl rfl rfl (by decide +kernel)
theorem w_c70 : (Jvm.Cond.code ⟨"java/lang/AbstractStringBuilder", "newCapacity", "(I)I"⟩ jdk_68_method_10_code 6 (Option.some .int)).before args0 about1 = true := code_word (m := ⟨10, 4⟩) (meth := k10m4) (c := k10c4) (by decide +kernel) rfl rfl rfl (by decide +kernel)
theorem w_c71 : (Jvm.Cond.code ⟨"jdk/internal/util/ArraysSupport", "newLength", "(III)I"⟩ jdk_48_method_27_code 4 (Option.some .int)).before args0 about1 = true := code_word (m := ⟨25, 1⟩) (meth := k25m1) (c := k25c1) (by decide +kernel) rfl rfl rfl (by decide +kernel)
theorem w_c72 : (Jvm.Cond.code ⟨"java/util/Arrays", "copyOf", "([BI)[B"⟩ jdk_65_method_121_code 3 (Option.some (.array .byte))).before args0 about1 = true := code_word (m := ⟨12, 1⟩) (meth := k12m1) (c := k12c1) (by decide +kernel) rfl rfl rfl (by decide +kernel)
theorem w_c73 : (Jvm.Cond.code ⟨"com/example/schema_to_form/schematoform/server/PathSegmentsPathPinLaw", "unreserved", "(I)Z"⟩ method_5_code 1 (Option.some .boolean)).before args0 about1 = true := code_word (m := ⟨1, 4⟩) (meth := k1m4) (c := k1c4) (by decide +kernel) rfl rfl rfl (by decide +kernel)
theorem w_c74 : (Jvm.Cond.code ⟨"java/lang/StringUTF16", "toBytes", "(C)[B"⟩ jdk_52_method_24_code 2 (Option.some (.array .byte))).before args0 about1 = true := code_word (m := ⟨23, 10⟩) (meth := k23m10) (c := k23c10) (by decide +kernel) rfl rfl rfl (by decide +kernel)
def codes1 : List Jvm.Cond := [Jvm.Cond.code x code maxLocals ret, Jvm.Cond.code ⟨"com/example/schema_to_form/schematoform/server/PathSegmentsPathPinLaw", "unit", "(II)C"⟩ method_3_code 3 (Option.some .char), Jvm.Cond.code ⟨"com/example/schema_to_form/schematoform/server/PathSegmentsPathPinLaw", "seg", "(ICC)Ljava/lang/String;"⟩ method_4_code 3 (Option.some (.object "java/lang/String")), Jvm.Cond.code ⟨"java/lang/String", "<init>", "([C)V"⟩ jdk_42_method_3_code 2 (Option.none : Option Jvm.ClassFile.FieldType), Jvm.Cond.code ⟨"java/lang/String", "<init>", "([CIILjava/lang/Void;)V"⟩ jdk_42_method_149_code 6 (Option.none : Option Jvm.ClassFile.FieldType), Jvm.Cond.code ⟨"java/lang/Object", "<init>", "()V"⟩ object_method_1_code 1 (Option.none : Option Jvm.ClassFile.FieldType), Jvm.Cond.code ⟨"com/example/schema_to_form/schematoform/server/PathSegments", "path", "([Ljava/lang/String;)Ljava/lang/String;"⟩ prog_8_method_7_code 6 (Option.some (.object "java/lang/String")), Jvm.Cond.code ⟨"java/lang/StringBuilder", "<init>", "()V"⟩ jdk_67_method_1_code 1 (Option.none : Option Jvm.ClassFile.FieldType), Jvm.Cond.code ⟨"java/lang/AbstractStringBuilder", "<init>", "(I)V"⟩ jdk_68_method_2_code 2 (Option.none : Option Jvm.ClassFile.FieldType), Jvm.Cond.code ⟨"java/lang/StringBuilder", "toString", "()Ljava/lang/String;"⟩ jdk_67_method_42_code 1 (Option.some (.object "java/lang/String")), Jvm.Cond.code ⟨"java/lang/String", "<init>", "(Ljava/lang/StringBuilder;)V"⟩ jdk_42_method_53_code 2 (Option.none : Option Jvm.ClassFile.FieldType), Jvm.Cond.code ⟨"java/lang/String", "<init>", "(Ljava/lang/AbstractStringBuilder;Ljava/lang/Void;)V"⟩ jdk_42_method_150_code 5 (Option.none : Option Jvm.ClassFile.FieldType), Jvm.Cond.code ⟨"java/lang/AbstractStringBuilder", "getValue", "()[B"⟩ jdk_68_method_64_code 1 (Option.some (.array .byte)), Jvm.Cond.code ⟨"java/lang/StringBuilder", "length", "()I"⟩ jdk_67_method_93_code 1 (Option.some .int), Jvm.Cond.code ⟨"java/lang/AbstractStringBuilder", "length", "()I"⟩ jdk_68_method_6_code 1 (Option.some .int), Jvm.Cond.code ⟨"java/lang/AbstractStringBuilder", "isLatin1", "()Z"⟩ jdk_68_method_68_code 1 (Option.some .boolean), Jvm.Cond.code ⟨"java/util/Arrays", "copyOfRange", "([BII)[B"⟩ jdk_65_method_132_code 3 (Option.some (.array .byte)), Jvm.Cond.code ⟨"java/util/Arrays", "copyOfRangeByte", "([BII)[B"⟩ jdk_65_method_133_code 5 (Option.some (.array .byte)), Jvm.Cond.code ⟨"java/util/Arrays", "checkLength", "(II)V"⟩ jdk_65_method_131_code 2 (Option.none : Option Jvm.ClassFile.FieldType), Jvm.Cond.code ⟨"java/lang/Math", "min", "(II)I"⟩ jdk_29_method_69_code 2 (Option.some .int), Jvm.Cond.code ⟨"java/lang/String", "length", "()I"⟩ jdk_42_method_54_code 1 (Option.some .int), Jvm.Cond.code ⟨"java/lang/String", "coder", "()B"⟩ jdk_42_method_152_code 1 (Option.some .byte), Jvm.Cond.code ⟨"java/lang/String", "valueOf", "(C)Ljava/lang/String;"⟩ jdk_42_method_139_code 1 (Option.some (.object "java/lang/String")), Jvm.Cond.code ⟨"java/lang/StringLatin1", "canEncode", "(C)Z"⟩ jdk_43_method_3_code 1 (Option.some .boolean), Jvm.Cond.code ⟨"java/lang/StringLatin1", "toBytes", "(C)[B"⟩ jdk_43_method_46_code 1 (Option.some (.array .byte)), Jvm.Cond.code ⟨"java/lang/String", "<init>", "([BB)V"⟩ jdk_42_method_151_code 3 (Option.none : Option Jvm.ClassFile.FieldType), Jvm.Cond.code ⟨"java/lang/StringBuilder", "append", "(C)Ljava/lang/StringBuilder;"⟩ jdk_67_method_14_code 2 (Option.some (.object "java/lang/StringBuilder")), Jvm.Cond.code ⟨"java/lang/AbstractStringBuilder", "append", "(C)Ljava/lang/AbstractStringBuilder;"⟩ jdk_68_method_31_code 2 (Option.some (.object "java/lang/AbstractStringBuilder")), Jvm.Cond.code ⟨"java/lang/AbstractStringBuilder", "ensureCapacityInternal", "(I)V"⟩ jdk_68_method_9_code 3 (Option.none : Option Jvm.ClassFile.FieldType), Jvm.Cond.code ⟨"com/example/schema_to_form/schematoform/server/PathSegments", "appendEncoded", "(Ljava/lang/StringBuilder;Ljava/lang/String;Ljava/lang/String;)V"⟩ prog_8_method_9_code 7 (Option.none : Option Jvm.ClassFile.FieldType), Jvm.Cond.code ⟨"com/example/schema_to_form/schematoform/server/PathSegments", "isUnreserved", "(Ljava/lang/String;Ljava/lang/String;)Z"⟩ prog_8_method_14_code 4 (Option.some .boolean), Jvm.Cond.code ⟨"java/lang/StringBuilder", "append", "(Ljava/lang/String;)Ljava/lang/StringBuilder;"⟩ jdk_67_method_7_code 2 (Option.some (.object "java/lang/StringBuilder")), Jvm.Cond.code ⟨"java/lang/AbstractStringBuilder", "append", "(Ljava/lang/String;)Ljava/lang/AbstractStringBuilder;"⟩ jdk_68_method_22_code 3 (Option.some (.object "java/lang/AbstractStringBuilder")), Jvm.Cond.code ⟨"java/lang/AbstractStringBuilder", "putStringAt", "(ILjava/lang/String;)V"⟩ jdk_68_method_73_code 3 (Option.none : Option Jvm.ClassFile.FieldType), Jvm.Cond.code ⟨"java/lang/AbstractStringBuilder", "inflateIfNeededFor", "(Ljava/lang/String;)V"⟩ jdk_68_method_71_code 2 (Option.none : Option Jvm.ClassFile.FieldType), Jvm.Cond.code ⟨"java/lang/String", "getBytes", "([BIB)V"⟩ jdk_42_method_147_code 4 (Option.none : Option Jvm.ClassFile.FieldType), Jvm.Cond.code ⟨"java/lang/String", "charAt", "(I)C"⟩ jdk_42_method_56_code 2 (Option.some .char), Jvm.Cond.code ⟨"java/lang/String", "isLatin1", "()Z"⟩ jdk_42_method_154_code 1 (Option.some .boolean), Jvm.Cond.code ⟨"java/lang/StringLatin1", "charAt", "([BI)C"⟩ jdk_43_method_2_code 2 (Option.some .char), Jvm.Cond.code ⟨"java/lang/String", "checkIndex", "(II)V"⟩ jdk_42_method_155_code 2 (Option.none : Option Jvm.ClassFile.FieldType), Jvm.Cond.code ⟨"jdk/internal/util/Preconditions", "checkIndex", "(IILjava/util/function/BiFunction;)I"⟩ jdk_41_method_11_code 3 (Option.some .int), Jvm.Cond.code ⟨"com/example/schema_to_form/schematoform/server/PathSegments", "isUnreserved", "(I)Z"⟩ prog_8_method_15_code 1 (Option.some .boolean), Jvm.Cond.code ⟨"java/lang/String", "indexOf", "(I)I"⟩ jdk_42_method_79_code 2 (Option.some .int), Jvm.Cond.code ⟨"java/lang/String", "indexOf", "(II)I"⟩ jdk_42_method_80_code 3 (Option.some .int), Jvm.Cond.code ⟨"java/lang/StringLatin1", "indexOf", "([BIII)I"⟩ jdk_43_method_22_code 4 (Option.some .int), Jvm.Cond.code ⟨"java/lang/StringLatin1", "canEncode", "(I)Z"⟩ jdk_43_method_4_code 1 (Option.some .boolean), Jvm.Cond.code ⟨"java/lang/Math", "max", "(II)I"⟩ jdk_29_method_65_code 2 (Option.some .int), Jvm.Cond.code ⟨"java/lang/String", "getBytes", "(Ljava/nio/charset/Charset;)[B"⟩ jdk_42_method_64_code 2 (Option.some (.array .byte)), Jvm.Cond.code ⟨"java/lang/String", "encode", "(Ljava/nio/charset/Charset;B[B)[B"⟩ jdk_42_method_18_code 3 (Option.some (.array .byte)), Jvm.Cond.code ⟨"java/lang/String", "encodeUTF8", "(B[BZ)[B"⟩ jdk_42_method_46_code 9 (Option.some (.array .byte)), Jvm.Cond.code ⟨"java/lang/StringCoding", "hasNegatives", "([BII)Z"⟩ jdk_123_method_2_code 3 (Option.some .boolean), Jvm.Cond.code ⟨"java/lang/StringCoding", "countPositives", "([BII)I"⟩ jdk_123_method_3_code 5 (Option.some .int), Jvm.Cond.code ⟨"java/lang/StringUTF16", "newBytesFor", "(I)[B"⟩ jdk_52_method_2_code 1 (Option.some (.array .byte)), Jvm.Cond.code ⟨"java/lang/StringUTF16", "newBytesLength", "(I)I"⟩ jdk_52_method_3_code 1 (Option.some .int), Jvm.Cond.code ⟨"com/example/schema_to_form/schematoform/server/PathSegmentsPathPinLaw", "expectSeg", "(Ljava/lang/String;IICC)I"⟩ method_10_code 6 (Option.some .int), Jvm.Cond.code ⟨"com/example/schema_to_form/schematoform/server/PathSegmentsPathPinLaw", "expectChar", "(Ljava/lang/String;IC)I"⟩ method_7_code 3 (Option.some .int), Jvm.Cond.code ⟨"com/example/schema_to_form/schematoform/server/PathSegmentsPathPinLaw", "expectUnit", "(Ljava/lang/String;IC)I"⟩ method_9_code 5 (Option.some .int), Jvm.Cond.code ⟨"com/example/schema_to_form/schematoform/server/PathSegmentsPathPinLaw", "expectByte", "(Ljava/lang/String;II)I"⟩ method_8_code 4 (Option.some .int), Jvm.Cond.code ⟨"com/example/schema_to_form/schematoform/server/PathSegmentsPathPinLaw", "hexDigit", "(I)C"⟩ method_6_code 1 (Option.some .char), Jvm.Cond.code ⟨"java/lang/StringUTF16", "compress", "([CII)[B"⟩ jdk_52_method_16_code 6 (Option.some (.array .byte)), Jvm.Cond.code ⟨"java/lang/StringUTF16", "compress", "([CI[BII)I"⟩ jdk_52_method_21_code 7 (Option.some .int), Jvm.Cond.code ⟨"java/lang/StringUTF16", "toBytes", "([CII)[B"⟩ jdk_52_method_14_code 5 (Option.some (.array .byte)), Jvm.Cond.code ⟨"java/lang/StringUTF16", "putChar", "([BII)V"⟩ jdk_52_method_4_code 3 (Option.none : Option Jvm.ClassFile.FieldType), Jvm.Cond.code ⟨"java/lang/StringUTF16", "getChar", "([BI)C"⟩ jdk_52_method_5_code 2 (Option.some .char), Jvm.Cond.code ⟨"java/lang/StringUTF16", "coderFromArrayLen", "([BI)B"⟩ jdk_52_method_15_code 2 (Option.some .byte), Jvm.Cond.code ⟨"java/lang/StringUTF16", "charAt", "([BI)C"⟩ jdk_52_method_83_code 2 (Option.some .char), Jvm.Cond.code ⟨"java/lang/StringUTF16", "checkIndex", "(I[B)V"⟩ jdk_52_method_91_code 2 (Option.none : Option Jvm.ClassFile.FieldType), Jvm.Cond.code ⟨"java/lang/StringUTF16", "length", "([B)I"⟩ jdk_52_method_6_code 1 (Option.some .int), Jvm.Cond.code ⟨"java/lang/String", "encodeUTF8_UTF16", "([BZ)[B"⟩ jdk_42_method_47_code 9 (Option.some (.array .byte)), Jvm.Cond.code ⟨"java/lang/Character", "isSurrogate", "(C)Z"⟩ jdk_89_method_16_code 1 (Option.some .boolean), Jvm.Cond.code ⟨"java/lang/AbstractStringBuilder", "newCapacity", "(I)I"⟩ jdk_68_method_10_code 6 (Option.some .int), Jvm.Cond.code ⟨"jdk/internal/util/ArraysSupport", "newLength", "(III)I"⟩ jdk_48_method_27_code 4 (Option.some .int), Jvm.Cond.code ⟨"java/util/Arrays", "copyOf", "([BI)[B"⟩ jdk_65_method_121_code 3 (Option.some (.array .byte)), Jvm.Cond.code ⟨"com/example/schema_to_form/schematoform/server/PathSegmentsPathPinLaw", "unreserved", "(I)Z"⟩ method_5_code 1 (Option.some .boolean), Jvm.Cond.code ⟨"java/lang/StringUTF16", "toBytes", "(C)[B"⟩ jdk_52_method_24_code 2 (Option.some (.array .byte))]
theorem codes_eq : words1.filter isCode = codes1 := rfl
theorem w_codes : ∀ c ∈ words1.filter isCode, c.before args0 about1 = true := by
  rw [codes_eq]
  intro c hc
  simp only [codes1, List.mem_cons, List.not_mem_nil, or_false] at hc
  rcases hc with rfl | rfl | rfl | rfl | rfl | rfl | rfl | rfl | rfl | rfl | rfl | rfl | rfl | rfl | rfl | rfl | rfl | rfl | rfl | rfl | rfl | rfl | rfl | rfl | rfl | rfl | rfl | rfl | rfl | rfl | rfl | rfl | rfl | rfl | rfl | rfl | rfl | rfl | rfl | rfl | rfl | rfl | rfl | rfl | rfl | rfl | rfl | rfl | rfl | rfl | rfl | rfl | rfl | rfl | rfl | rfl | rfl | rfl | rfl | rfl | rfl | rfl | rfl | rfl | rfl | rfl | rfl | rfl | rfl | rfl | rfl | rfl | rfl | rfl | rfl
  · exact w_c0
  · exact w_c1
  · exact w_c2
  · exact w_c3
  · exact w_c4
  · exact w_c5
  · exact w_c6
  · exact w_c7
  · exact w_c8
  · exact w_c9
  · exact w_c10
  · exact w_c11
  · exact w_c12
  · exact w_c13
  · exact w_c14
  · exact w_c15
  · exact w_c16
  · exact w_c17
  · exact w_c18
  · exact w_c19
  · exact w_c20
  · exact w_c21
  · exact w_c22
  · exact w_c23
  · exact w_c24
  · exact w_c25
  · exact w_c26
  · exact w_c27
  · exact w_c28
  · exact w_c29
  · exact w_c30
  · exact w_c31
  · exact w_c32
  · exact w_c33
  · exact w_c34
  · exact w_c35
  · exact w_c36
  · exact w_c37
  · exact w_c38
  · exact w_c39
  · exact w_c40
  · exact w_c41
  · exact w_c42
  · exact w_c43
  · exact w_c44
  · exact w_c45
  · exact w_c46
  · exact w_c47
  · exact w_c48
  · exact w_c49
  · exact w_c50
  · exact w_c51
  · exact w_c52
  · exact w_c53
  · exact w_c54
  · exact w_c55
  · exact w_c56
  · exact w_c57
  · exact w_c58
  · exact w_c59
  · exact w_c60
  · exact w_c61
  · exact w_c62
  · exact w_c63
  · exact w_c64
  · exact w_c65
  · exact w_c66
  · exact w_c67
  · exact w_c68
  · exact w_c69
  · exact w_c70
  · exact w_c71
  · exact w_c72
  · exact w_c73
  · exact w_c74
theorem w_t1 : (words1.take 24).all (fun c => isCode c || c.before args0 about1) = true := by decide +kernel
theorem w_t2 : ((words1.drop 24).take 24).all (fun c => isCode c || c.before args0 about1) = true := by decide +kernel
theorem w_t3 : (((words1.drop 24).drop 24).take 24).all (fun c => isCode c || c.before args0 about1) = true := by decide +kernel
theorem w_t4 : ((((words1.drop 24).drop 24).drop 24).take 24).all (fun c => isCode c || c.before args0 about1) = true := by decide +kernel
theorem w_t5 : (((((words1.drop 24).drop 24).drop 24).drop 24).take 24).all (fun c => isCode c || c.before args0 about1) = true := by decide +kernel
theorem w_t6 : ((((((words1.drop 24).drop 24).drop 24).drop 24).drop 24).take 24).all (fun c => isCode c || c.before args0 about1) = true := by decide +kernel
theorem w_t7 : (((((((words1.drop 24).drop 24).drop 24).drop 24).drop 24).drop 24).take 24).all (fun c => isCode c || c.before args0 about1) = true := by decide +kernel
theorem w_t8 : ((((((((words1.drop 24).drop 24).drop 24).drop 24).drop 24).drop 24).drop 24).take 24).all (fun c => isCode c || c.before args0 about1) = true := by decide +kernel
theorem w_t9 : (((((((((words1.drop 24).drop 24).drop 24).drop 24).drop 24).drop 24).drop 24).drop 24).take 24).all (fun c => isCode c || c.before args0 about1) = true := by decide +kernel
theorem w_t10 : ((((((((((words1.drop 24).drop 24).drop 24).drop 24).drop 24).drop 24).drop 24).drop 24).drop 24).take 24).all (fun c => isCode c || c.before args0 about1) = true := by decide +kernel
theorem w_t11 : (((((((((((words1.drop 24).drop 24).drop 24).drop 24).drop 24).drop 24).drop 24).drop 24).drop 24).drop 24).take 24).all (fun c => isCode c || c.before args0 about1) = true := by decide +kernel
theorem w_t12 : ((((((((((((words1.drop 24).drop 24).drop 24).drop 24).drop 24).drop 24).drop 24).drop 24).drop 24).drop 24).drop 24).take 24).all (fun c => isCode c || c.before args0 about1) = true := by decide +kernel
theorem w_t13 : (((((((((((((words1.drop 24).drop 24).drop 24).drop 24).drop 24).drop 24).drop 24).drop 24).drop 24).drop 24).drop 24).drop 24).take 24).all (fun c => isCode c || c.before args0 about1) = true := by decide +kernel
theorem w_t14 : ((((((((((((((words1.drop 24).drop 24).drop 24).drop 24).drop 24).drop 24).drop 24).drop 24).drop 24).drop 24).drop 24).drop 24).drop 24).take 24).all (fun c => isCode c || c.before args0 about1) = true := by decide +kernel
theorem w_t15 : ((((((((((((((words1.drop 24).drop 24).drop 24).drop 24).drop 24).drop 24).drop 24).drop 24).drop 24).drop 24).drop 24).drop 24).drop 24).drop 24).all (fun c => isCode c || c.before args0 about1) = true := by decide +kernel
theorem w_tables : (allAtoms (Jvm.Cond.code x code maxLocals ret :: tables_1)).before args0 about1 = true := by
  rw [allAtoms_all]
  show words1.all (fun c => c.before args0 about1) = true
  refine all_split ?_ w_codes
  rw [← List.take_append_drop 24 words1, List.all_append, w_t1, ← List.take_append_drop 24 (words1.drop 24), List.all_append, w_t2, ← List.take_append_drop 24 ((words1.drop 24).drop 24), List.all_append, w_t3, ← List.take_append_drop 24 (((words1.drop 24).drop 24).drop 24), List.all_append, w_t4, ← List.take_append_drop 24 ((((words1.drop 24).drop 24).drop 24).drop 24), List.all_append, w_t5, ← List.take_append_drop 24 (((((words1.drop 24).drop 24).drop 24).drop 24).drop 24), List.all_append, w_t6, ← List.take_append_drop 24 ((((((words1.drop 24).drop 24).drop 24).drop 24).drop 24).drop 24), List.all_append, w_t7, ← List.take_append_drop 24 (((((((words1.drop 24).drop 24).drop 24).drop 24).drop 24).drop 24).drop 24), List.all_append, w_t8, ← List.take_append_drop 24 ((((((((words1.drop 24).drop 24).drop 24).drop 24).drop 24).drop 24).drop 24).drop 24), List.all_append, w_t9, ← List.take_append_drop 24 (((((((((words1.drop 24).drop 24).drop 24).drop 24).drop 24).drop 24).drop 24).drop 24).drop 24), List.all_append, w_t10, ← List.take_append_drop 24 ((((((((((words1.drop 24).drop 24).drop 24).drop 24).drop 24).drop 24).drop 24).drop 24).drop 24).drop 24), List.all_append, w_t11, ← List.take_append_drop 24 (((((((((((words1.drop 24).drop 24).drop 24).drop 24).drop 24).drop 24).drop 24).drop 24).drop 24).drop 24).drop 24), List.all_append, w_t12, ← List.take_append_drop 24 ((((((((((((words1.drop 24).drop 24).drop 24).drop 24).drop 24).drop 24).drop 24).drop 24).drop 24).drop 24).drop 24).drop 24), List.all_append, w_t13, ← List.take_append_drop 24 (((((((((((((words1.drop 24).drop 24).drop 24).drop 24).drop 24).drop 24).drop 24).drop 24).drop 24).drop 24).drop 24).drop 24).drop 24), List.all_append, w_t14, w_t15]
  rfl
theorem w_rest : rest_1_c.before args0 about1 = true := by decide +kernel
theorem w_case : (Jvm.Cond.and given_1 narrow_1).before args0 about1 = true := by decide +kernel
theorem w_consts : constsHeld consts_1 about1 := Jvm.Lit.constsHeldB_iff.mp (by decide +kernel)
theorem w_applies : (headSpec (Jvm.Cond.code x code maxLocals ret :: tables_1) room_1).applies x e0.platform about1 = true :=
  (Spec.applies_iff w_frames).mpr ⟨w_running, w_runnable, w_alone, w_named, w_hears, w_ripe, w_room, w_tables⟩
theorem atStart : AtStart classFile x code maxLocals ret World_1 tables_1 room_1 Calls_1 rest_1 Pre_1 launch0 p0 e0 about1 theMethod args0 below0 :=
  ⟨lists_1, trivial, launch0.admits_env _ _ _, launch0.least_env, fairChoices_fair.cas, fairChoices_fair.clock, w_frames, w_args, w_heap, w_applies, ⟨w_consts, trivial⟩, w_rest, w_case⟩
end start1
theorem witness_1 : WitnessClaimed_1 := ⟨start1.p0, start1.e0, start1.about1, start1.theMethod, start1.args0, start1.below0, start1.atStart⟩
end Jvm.Pilot.@@N@@
