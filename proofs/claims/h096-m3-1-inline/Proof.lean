import JvmDerived
import JvmDerived.Pilot.@@N@@Statement
import JvmDerived.Pilot.@@N@@Code
set_option linter.unusedVariables false
set_option linter.unusedSimpArgs false
namespace Jvm.OwnKit
open Sem ClassFile Op Lib Bundle Jvm.Stand Jvm.Free Jvm.LawKit Jvm.RoadKit
section Kit
variable {p : Program} {l : Launch} {e : Env} {R : Room} {s : State} {m : MethodId} {args : Array Value} {below : List Frame} {meth : Method} {c : Code} {Z : State} {a0 : Array Value} {EL : List (String × Nat)} {cw : Prop} {own : String} {n0 : Nat} {bytes : ByteArray} {maxL : Nat} {ret : Option FieldType} {nm : String} {T : State} {h : Heap} {C S : Nat} {sf : List Addr} {P : State → Outcome → Prop}

/-- from t the run comes to a state of which P speaks -/
def Go (p : Program) (e : Env) (below : List Frame) (P : State → Outcome → Prop) (t : State) : Prop := ∃ u o, Steps p.tables e below t u ∧ P u o
theorem Go.st {t t' : State} (k : ∀ target, Steps p.tables e below t' target → Steps p.tables e below t target) (G : Go p e below P t') : Go p e below P t := by
  obtain ⟨u, o, h1, h2⟩ := G; exact ⟨u, o, k _ h1, h2⟩
theorem Go.tr {t t' : State} (k : Steps p.tables e below t t') (G : Go p e below P t') : Go p e below P t := by
  obtain ⟨u, o, h1, h2⟩ := G; exact ⟨u, o, k.trans h1, h2⟩

/-- where the walk stands: all that the steps ask, in one word -/
def Hs (p : Program) (l : Launch) (e : Env) (R : Room) (s : State) (m : MethodId) (args : Array Value) (below : List Frame) (meth : Method) (c : Code) (Z : State) (a0 : Array Value) (EL : List (String × Nat)) (cw : Prop) (own : String) (n0 : Nat) (bytes : ByteArray) (maxL : Nat) (ret : Option FieldType) (nm : String) (T : State) (h : Heap) (C S : Nat) (sf : List Addr) : Prop :=
  (p.tables.exec = Jvm.exec ∧ EW Z a0 EL ∧ c.code = bytes ∧ c.maxLocals = maxL ∧ meth.sig.returnType = ret ∧ meth.locks = false ∧ meth.name = nm ∧ n0 ≤ s.heap.size) ∧
  ∃ (vm0 : Vm) (k0 : Nat) (locs : List Loc), Stand p l e R (s.setVm vm0) m args below meth c T locs C S ∧ T.heap = h ∧ s.Since vm0 k0 ∧ k0 ≤ h.size ∧ Z.Warmed39 vm0 ∧ vm0.findClass own = some m.cls ∧ Fr n0 locs ∧ CHr Z EL s.vm s.heap vm0 h ∧ (∀ x ∈ sf, x < h.size ∧ Safe Z EL vm0 h x) ∧ (cw ∨ s.WarmedH vm0) ∧ Old Z n0 h

theorem Hs.here (H : Hs p l e R s m args below meth c Z a0 EL cw own n0 bytes maxL ret nm T h C S sf) : At T m c below := by
  obtain ⟨-, vm0, k0, locs, X, -⟩ := H; exact X.here
theorem Hs.exec (H : Hs p l e R s m args below meth c Z a0 EL cw own n0 bytes maxL ret nm T h C S sf) : p.tables.exec = Jvm.exec := H.1.1
theorem Hs.dec (H : Hs p l e R s m args below meth c Z a0 EL cw own n0 bytes maxL ret nm T h C S sf) {pc : Nat} {r : Except ClassFile.DecodeError (ClassFile.Instr × Nat)} (hd : decode bytes pc = r) : decode c.code pc = r := by rw [H.1.2.2.1]; exact hd
theorem Hs.le (H : Hs p l e R s m args below meth c Z a0 EL cw own n0 bytes maxL ret nm T h C S sf) : n0 ≤ h.size := by
  obtain ⟨⟨-, -, -, -, -, -, -, hn⟩, vm0, k0, locs, -, -, -, -, -, -, -, hC, -⟩ := H
  exact Nat.le_trans hn hC.2.1
theorem Hs.nle {a : Addr} (H : Hs p l e R s m args below meth c Z a0 EL cw own n0 bytes maxL ret nm T h C S sf) (g : a = h.size) : n0 ≤ a := Nat.le_trans H.le (Nat.le_of_eq g.symm)
theorem Hs.old (H : Hs p l e R s m args below meth c Z a0 EL cw own n0 bytes maxL ret nm T h C S sf) : Old Z n0 h := by
  obtain ⟨-, vm0, k0, locs, -, -, -, -, -, -, -, -, -, -, hO⟩ := H; exact hO
theorem Hs.mono (H : Hs p l e R s m args below meth c Z a0 EL cw own n0 bytes maxL ret nm T h C S sf) {C' S' : Nat} (hc : C ≤ C') (hs : S ≤ S') : Hs p l e R s m args below meth c Z a0 EL cw own n0 bytes maxL ret nm T h C' S' sf := by
  obtain ⟨hM, vm0, k0, locs, X, r⟩ := H
  exact ⟨hM, vm0, k0, locs, X.mono hc hs, r⟩
theorem Hs.less (H : Hs p l e R s m args below meth c Z a0 EL cw own n0 bytes maxL ret nm T h C S sf) {sf' : List Addr} (hs : ∀ x ∈ sf', x ∈ sf) : Hs p l e R s m args below meth c Z a0 EL cw own n0 bytes maxL ret nm T h C S sf' := by
  obtain ⟨hM, vm0, k0, locs, X, h1, h2, h3, h4, h5, h6, h7, h8, h9, hO⟩ := H
  exact ⟨hM, vm0, k0, locs, X, h1, h2, h3, h4, h5, h6, h7, fun x hx => h8 x (hs x hx), h9, hO⟩
/-- a place that no constant of the list lies at -/
def Sf (Z : State) (EL : List (String × Nat)) (h : Heap) (sf : List Addr) (a : Addr) : Prop := a ∈ sf ∨ (∃ K, Exa Z h a K ∧ K ≠ "java/lang/String" ∧ K ≠ "[B") ∨ ∃ cl ty, Arr Z h a cl ty ∧ ty ≠ .byte
theorem Sf.mem {a : Addr} (q : a ∈ sf) : Sf Z EL h sf a := Or.inl q
theorem Sf.exa {a : Addr} {K : String} (E : Exa Z h a K) (h1 : K ≠ "java/lang/String" := by decide) (h2 : K ≠ "[B" := by decide) : Sf Z EL h sf a := Or.inr (Or.inl ⟨K, E, h1, h2⟩)
theorem Sf.arr {a : Addr} {k : ClassId} {ty : FieldType} {z : Int32} {vs : List Value} {dv : Value} (A : Arv Z h a k ty z vs dv) (ht : ty ≠ .byte := by decide) : Sf Z EL h sf a := by
  obtain ⟨cl, A, -⟩ := A; exact Or.inr (Or.inr ⟨cl, ty, A, ht⟩)
theorem Sf.safe {a : Addr} {vm0 : Vm} (hZ : Z.Warmed39 vm0) (hs : ∀ x ∈ sf, x < h.size ∧ Safe Z EL vm0 h x) (q : Sf Z EL h sf a) : Safe Z EL vm0 h a := by
  rcases q with q | ⟨K, E, h1, h2⟩ | ⟨cl, ty, A, ht⟩
  · exact (hs a q).2
  · exact Safe.exa hZ.alike E h1 h2
  · exact Safe.arr hZ.alike A ht

/-- a step of the library's that keeps the heap (T' in place of T) -/
theorem G.getF (H : Hs p l e R s m args below meth c Z a0 EL cw own n0 bytes maxL ret nm T h C S sf) {R0 O n d : String} {index : Nat} (w : (Cond.fieldLink own index R0 n d).before a0 Z = true) (via : Via Z R0 O n d) {a : Addr} {v : Value} (F : Fld Z h a O n d v) {pc J : Nat} {L : Array Slot} {st : List Value} (hd : decode bytes pc = .ok (.getfield index, 3)) (hp : pc + 3 = J)
    (k : ∀ T', Hs p l e R s m args below meth c Z a0 EL cw own n0 bytes maxL ret nm T' h C S sf → Go p e below P (T'.setTop (mkF m J L (v :: st)))) : Go p e below P (T.setTop (mkF m pc L (.ref a :: st))) := by
  subst hp
  obtain ⟨hM, vm0, k0, locs, X, h1, h2, h3, h4, h5, h6, h7, h8, h9, hO⟩ := id H
  obtain ⟨T', X', e', st'⟩ := RoadKit.getF X H.exec h4 (host := "") h5 (Or.inl w) via h1 F (g := mkF m pc L (.ref a :: st)) rfl rfl (H.dec hd)
  exact Go.st st' (k T' ⟨hM, vm0, k0, locs, X', e', h2, h3, h4, h5, h6, h7, h8, h9, hO⟩)
theorem G.getS (H : Hs p l e R s m args below meth c Z a0 EL cw own n0 bytes maxL ret nm T h C S sf) {R0 O n d : String} {index : Nat} (w : (Cond.fieldLink own index R0 n d).before a0 Z = true) (via : Via Z R0 O n d) {v : Value} (F : Sta Z h O n d v) {pc J : Nat} {L : Array Slot} {st : List Value} (hd : decode bytes pc = .ok (.getstatic index, 3)) (hp : pc + 3 = J)
    (k : ∀ T', Hs p l e R s m args below meth c Z a0 EL cw own n0 bytes maxL ret nm T' h C S sf → Go p e below P (T'.setTop (mkF m J L (v :: st)))) : Go p e below P (T.setTop (mkF m pc L st)) := by
  subst hp
  obtain ⟨hM, vm0, k0, locs, X, h1, h2, h3, h4, h5, h6, h7, h8, h9, hO⟩ := id H
  obtain ⟨T', X', e', st'⟩ := RoadKit.getS (host := "") X H.exec h4 h5 w via h1 F (g := mkF m pc L st) rfl (H.dec hd)
  exact Go.st st' (k T' ⟨hM, vm0, k0, locs, X', e', h2, h3, h4, h5, h6, h7, h8, h9, hO⟩)
theorem G.castY (H : Hs p l e R s m args below meth c Z a0 EL cw own n0 bytes maxL ret nm T h C S sf) {K : String} {index : Nat} (w : (Cond.classLink own index K).before a0 Z = true) {a : Addr} (F : Ins Z h a K true) {pc J : Nat} {L : Array Slot} {st : List Value} (hd : decode bytes pc = .ok (.checkcast index, 3)) (hp : pc + 3 = J)
    (k : ∀ T', Hs p l e R s m args below meth c Z a0 EL cw own n0 bytes maxL ret nm T' h C S sf → Go p e below P (T'.setTop (mkF m J L (.ref a :: st)))) : Go p e below P (T.setTop (mkF m pc L (.ref a :: st))) := by
  subst hp
  obtain ⟨hM, vm0, k0, locs, X, h1, h2, h3, h4, h5, h6, h7, h8, h9, hO⟩ := id H
  obtain ⟨T', X', e', st'⟩ := RoadKit.castY X H.exec h4 h5 w h1 F (g := mkF m pc L (.ref a :: st)) rfl rfl (H.dec hd)
  exact Go.st st' (k T' ⟨hM, vm0, k0, locs, X', e', h2, h3, h4, h5, h6, h7, h8, h9, hO⟩)
theorem G.initO (H : Hs p l e R s m args below meth c Z a0 EL cw own n0 bytes maxL ret nm T h C S sf) {index : Nat} (w1 : (Cond.methodLink own index Lib.objectInit).before a0 Z = true) (w2 : (Cond.instanceMethod Lib.objectInit).before a0 Z = true) (w3 : (Cond.code Lib.objectInit ⟨#[0xb1]⟩ 1 none).before a0 Z = true) {a : Addr} {pc J : Nat} {L : Array Slot} {st : List Value} (hL : L.size = maxL) (hd : decode bytes pc = .ok (.invokespecial index, 3)) (hp : pc + 3 = J) (hf : 1 ≤ R.frames) {W : Nat} (hW : (st.map fun v => v.category).sum = W) (hl : W + 12 ≤ R.locals)
    (k : ∀ T', Hs p l e R s m args below meth c Z a0 EL cw own n0 bytes maxL ret nm T' h C S sf → Go p e below P (T'.setTop (mkF m J L st))) : Go p e below P (T.setTop (mkF m pc L (.ref a :: st))) := by
  subst hp
  obtain ⟨hM, vm0, k0, locs, X, h1, h2, h3, h4, h5, h6, h7, h8, h9, hO⟩ := id H
  obtain ⟨T', X', e', st'⟩ := RoadKit.initO X H.exec h4 h5 w1 w2 w3 h1 (g := mkF m pc L (.ref a :: st)) rfl (by rw [hM.2.2.2.1]; exact hL) rfl (H.dec hd) hf (W := W) (by show 2 * 0 + _ ≤ _; omega) hl
  exact Go.st st' (k T' ⟨hM, vm0, k0, locs, X', e', h2, h3, h4, h5, h6, h7, h8, h9, hO⟩)
theorem G.arrlen (H : Hs p l e R s m args below meth c Z a0 EL cw own n0 bytes maxL ret nm T h C S sf) {a : Addr} {kc : ClassId} {ty : FieldType} {z : Int32} {vs : List Value} {dv : Value} (A : Arv Z h a kc ty z vs dv) {pc J : Nat} {L : Array Slot} {st : List Value} (hd : decode bytes pc = .ok (.arraylength, 1)) (hp : pc + 1 = J) (k : Go p e below P (T.setTop (mkF m J L (.int z :: st)))) : Go p e below P (T.setTop (mkF m pc L (.ref a :: st))) := by
  subst hp
  obtain ⟨hM, vm0, k0, locs, X, h1, h2, h3, h4, h5, h6, h7, h8, h9, hO⟩ := id H
  obtain ⟨cl, Ar, q1, S1, q3, H1, G1⟩ := A
  refine Go.st (fun t kk => X.arraylength H.exec (cell := cl) (by rw [h1]; exact Ar.1) (State.isArrayOf_alike (s := Z) h4.alike Ar.2.1) (g := mkF m pc L (.ref a :: st)) rfl rfl (H.dec hd) t ?_) k
  rw [len_of S1 q3]; exact kk
theorem G.ldcI (H : Hs p l e R s m args below meth c Z a0 EL cw own n0 bytes maxL ret nm T h C S sf) {index : Nat} {v : Int32} (w : (Cond.constant own index v).before a0 Z = true) {pc J : Nat} {L : Array Slot} {st : List Value} (hd : decode bytes pc = .ok (.ldc index, 2)) (hp : pc + 2 = J) (k : Go p e below P (T.setTop (mkF m J L (.int v :: st)))) : Go p e below P (T.setTop (mkF m pc L st)) := by
  subst hp
  obtain ⟨hM, vm0, k0, locs, X, h1, h2, h3, h4, h5, h6, h7, h8, h9, hO⟩ := id H
  exact Go.st (fun t kk => Jvm.Stand.ldcI X H.exec h5 (mv h4 w) (g := mkF m pc L st) rfl (H.dec hd) kk) k
theorem G.aloadN (H : Hs p l e R s m args below meth c Z a0 EL cw own n0 bytes maxL ret nm T h C S sf) {i : Fin 4} {v : Value} {pc J : Nat} {L : Array Slot} {st : List Value} (hd : decode bytes pc = .ok (.aload_n i, 1)) (hp : pc + 1 = J) (hl : L[i.val]? = some (.val v)) (hv : v.isRef = true) (k : Go p e below P (T.setTop (mkF m J L (v :: st)))) : Go p e below P (T.setTop (mkF m pc L (st))) := by
  subst hp
  exact Go.st (fun t kk => XS.aloadN H.here H.exec (g := mkF m pc L (st)) rfl (H.dec hd) hl hv kk) k
theorem G.aload (H : Hs p l e R s m args below meth c Z a0 EL cw own n0 bytes maxL ret nm T h C S sf) {i : Nat} {v : Value} {pc J : Nat} {L : Array Slot} {st : List Value} (hd : decode bytes pc = .ok (.aload i, 2)) (hp : pc + 2 = J) (hl : L[i]? = some (.val v)) (hv : v.isRef = true) (k : Go p e below P (T.setTop (mkF m J L (v :: st)))) : Go p e below P (T.setTop (mkF m pc L (st))) := by
  subst hp
  exact Go.st (fun t kk => XS.aload H.here H.exec (g := mkF m pc L (st)) rfl (H.dec hd) hl hv kk) k
theorem G.iloadN (H : Hs p l e R s m args below meth c Z a0 EL cw own n0 bytes maxL ret nm T h C S sf) {i : Fin 4} {v : Int32} {pc J : Nat} {L : Array Slot} {st : List Value} (hd : decode bytes pc = .ok (.iload_n i, 1)) (hp : pc + 1 = J) (hl : L[i.val]? = some (.val (.int v))) (k : Go p e below P (T.setTop (mkF m J L (.int v :: st)))) : Go p e below P (T.setTop (mkF m pc L (st))) := by
  subst hp
  exact Go.st (fun t kk => XS.iloadN H.here H.exec (g := mkF m pc L (st)) rfl (H.dec hd) hl kk) k
theorem G.iload (H : Hs p l e R s m args below meth c Z a0 EL cw own n0 bytes maxL ret nm T h C S sf) {i : Nat} {v : Int32} {pc J : Nat} {L : Array Slot} {st : List Value} (hd : decode bytes pc = .ok (.iload i, 2)) (hp : pc + 2 = J) (hl : L[i]? = some (.val (.int v))) (k : Go p e below P (T.setTop (mkF m J L (.int v :: st)))) : Go p e below P (T.setTop (mkF m pc L (st))) := by
  subst hp
  exact Go.st (fun t kk => XS.iload H.here H.exec (g := mkF m pc L (st)) rfl (H.dec hd) hl kk) k
theorem G.iconst (H : Hs p l e R s m args below meth c Z a0 EL cw own n0 bytes maxL ret nm T h C S sf) {i : Int} {v : Int32} {pc J : Nat} {L : Array Slot} {st : List Value} (hd : decode bytes pc = .ok (.iconst i, 1)) (hp : pc + 1 = J) (hv : Int32.ofInt i = v) (k : Go p e below P (T.setTop (mkF m J L (.int v :: st)))) : Go p e below P (T.setTop (mkF m pc L (st))) := by
  subst hp; subst hv
  exact Go.st (fun t kk => XS.iconst H.here H.exec (g := mkF m pc L (st)) rfl (H.dec hd) kk) k
theorem G.bipush (H : Hs p l e R s m args below meth c Z a0 EL cw own n0 bytes maxL ret nm T h C S sf) {i : Int} {v : Int32} {pc J : Nat} {L : Array Slot} {st : List Value} (hd : decode bytes pc = .ok (.bipush i, 2)) (hp : pc + 2 = J) (hv : (Int8.ofInt i).toInt32 = v) (k : Go p e below P (T.setTop (mkF m J L (.int v :: st)))) : Go p e below P (T.setTop (mkF m pc L (st))) := by
  subst hp; subst hv
  exact Go.st (fun t kk => XS.bipush H.here H.exec (g := mkF m pc L (st)) rfl (H.dec hd) kk) k
theorem G.sipush (H : Hs p l e R s m args below meth c Z a0 EL cw own n0 bytes maxL ret nm T h C S sf) {i : Int} {v : Int32} {pc J : Nat} {L : Array Slot} {st : List Value} (hd : decode bytes pc = .ok (.sipush i, 3)) (hp : pc + 3 = J) (hv : (Int16.ofInt i).toInt32 = v) (k : Go p e below P (T.setTop (mkF m J L (.int v :: st)))) : Go p e below P (T.setTop (mkF m pc L (st))) := by
  subst hp; subst hv
  exact Go.st (fun t kk => XS.sipush H.here H.exec (g := mkF m pc L (st)) rfl (H.dec hd) kk) k
theorem G.aconstNull (H : Hs p l e R s m args below meth c Z a0 EL cw own n0 bytes maxL ret nm T h C S sf) {pc J : Nat} {L : Array Slot} {st : List Value} (hd : decode bytes pc = .ok (.aconst_null, 1)) (hp : pc + 1 = J) (k : Go p e below P (T.setTop (mkF m J L (.null :: st)))) : Go p e below P (T.setTop (mkF m pc L (st))) := by
  subst hp
  exact Go.st (fun t kk => XS.aconstNull H.here H.exec (g := mkF m pc L (st)) rfl (H.dec hd) kk) k
theorem G.iadd (H : Hs p l e R s m args below meth c Z a0 EL cw own n0 bytes maxL ret nm T h C S sf) {x y : Int32} {pc J : Nat} {L : Array Slot} {st : List Value} (hd : decode bytes pc = .ok (.iadd, 1)) (hp : pc + 1 = J) (k : Go p e below P (T.setTop (mkF m J L (.int (x + y) :: st)))) : Go p e below P (T.setTop (mkF m pc L (.int y :: .int x :: st))) := by
  subst hp
  exact Go.st (fun t kk => XS.iadd H.here H.exec (g := mkF m pc L (.int y :: .int x :: st)) rfl (H.dec hd) rfl kk) k
theorem G.isub (H : Hs p l e R s m args below meth c Z a0 EL cw own n0 bytes maxL ret nm T h C S sf) {x y : Int32} {pc J : Nat} {L : Array Slot} {st : List Value} (hd : decode bytes pc = .ok (.isub, 1)) (hp : pc + 1 = J) (k : Go p e below P (T.setTop (mkF m J L (.int (x - y) :: st)))) : Go p e below P (T.setTop (mkF m pc L (.int y :: .int x :: st))) := by
  subst hp
  exact Go.st (fun t kk => XS.isub H.here H.exec (g := mkF m pc L (.int y :: .int x :: st)) rfl (H.dec hd) rfl kk) k
theorem G.iand (H : Hs p l e R s m args below meth c Z a0 EL cw own n0 bytes maxL ret nm T h C S sf) {x y : Int32} {pc J : Nat} {L : Array Slot} {st : List Value} (hd : decode bytes pc = .ok (.iand, 1)) (hp : pc + 1 = J) (k : Go p e below P (T.setTop (mkF m J L (.int (x &&& y) :: st)))) : Go p e below P (T.setTop (mkF m pc L (.int y :: .int x :: st))) := by
  subst hp
  exact Go.st (fun t kk => XS.iand H.here H.exec (g := mkF m pc L (.int y :: .int x :: st)) rfl (H.dec hd) rfl kk) k
theorem G.ishl (H : Hs p l e R s m args below meth c Z a0 EL cw own n0 bytes maxL ret nm T h C S sf) {x y : Int32} {pc J : Nat} {L : Array Slot} {st : List Value} (hd : decode bytes pc = .ok (.ishl, 1)) (hp : pc + 1 = J) (k : Go p e below P (T.setTop (mkF m J L (.int (x <<< (y &&& 31)) :: st)))) : Go p e below P (T.setTop (mkF m pc L (.int y :: .int x :: st))) := by
  subst hp
  exact Go.st (fun t kk => XT.ishl H.here H.exec (g := mkF m pc L (.int y :: .int x :: st)) rfl (H.dec hd) rfl kk) k
theorem G.ishr (H : Hs p l e R s m args below meth c Z a0 EL cw own n0 bytes maxL ret nm T h C S sf) {x y : Int32} {pc J : Nat} {L : Array Slot} {st : List Value} (hd : decode bytes pc = .ok (.ishr, 1)) (hp : pc + 1 = J) (k : Go p e below P (T.setTop (mkF m J L (.int (x >>> (y &&& 31)) :: st)))) : Go p e below P (T.setTop (mkF m pc L (.int y :: .int x :: st))) := by
  subst hp
  exact Go.st (fun t kk => XT.ishr H.here H.exec (g := mkF m pc L (.int y :: .int x :: st)) rfl (H.dec hd) rfl kk) k
theorem G.iushr (H : Hs p l e R s m args below meth c Z a0 EL cw own n0 bytes maxL ret nm T h C S sf) {x y : Int32} {pc J : Nat} {L : Array Slot} {st : List Value} (hd : decode bytes pc = .ok (.iushr, 1)) (hp : pc + 1 = J) (k : Go p e below P (T.setTop (mkF m J L (.int (XT.ushr x y) :: st)))) : Go p e below P (T.setTop (mkF m pc L (.int y :: .int x :: st))) := by
  subst hp
  exact Go.st (fun t kk => XT.iushr H.here H.exec (g := mkF m pc L (.int y :: .int x :: st)) rfl (H.dec hd) rfl kk) k
theorem G.irem (H : Hs p l e R s m args below meth c Z a0 EL cw own n0 bytes maxL ret nm T h C S sf) {x y : Int32} {pc J : Nat} {L : Array Slot} {st : List Value} (hd : decode bytes pc = .ok (.irem, 1)) (hp : pc + 1 = J) (hy : y ≠ 0) (k : Go p e below P (T.setTop (mkF m J L (.int (x % y) :: st)))) : Go p e below P (T.setTop (mkF m pc L (.int y :: .int x :: st))) := by
  subst hp
  obtain ⟨-, vm0, k0, locs, X, -⟩ := id H
  exact Go.st (fun t kk => iremM X H.exec (g := mkF m pc L (.int y :: .int x :: st)) rfl (H.dec hd) rfl hy kk) k
theorem G.i2b (H : Hs p l e R s m args below meth c Z a0 EL cw own n0 bytes maxL ret nm T h C S sf) {x : Int32} {pc J : Nat} {L : Array Slot} {st : List Value} (hd : decode bytes pc = .ok (.i2b, 1)) (hp : pc + 1 = J) (k : Go p e below P (T.setTop (mkF m J L (.int (x.toInt8.toInt32) :: st)))) : Go p e below P (T.setTop (mkF m pc L (.int x :: st))) := by
  subst hp
  exact Go.st (fun t kk => XT.i2b H.here H.exec (g := mkF m pc L (.int x :: st)) rfl (H.dec hd) rfl kk) k
theorem G.i2c (H : Hs p l e R s m args below meth c Z a0 EL cw own n0 bytes maxL ret nm T h C S sf) {x y : Int32} {pc J : Nat} {L : Array Slot} {st : List Value} (hd : decode bytes pc = .ok (.i2c, 1)) (hp : pc + 1 = J) (hy : x.toUInt32.toUInt16.toUInt32.toInt32 = y) (k : Go p e below P (T.setTop (mkF m J L (.int y :: st)))) : Go p e below P (T.setTop (mkF m pc L (.int x :: st))) := by
  subst hp; subst hy
  exact Go.st (fun t kk => XT.i2c H.here H.exec (g := mkF m pc L (.int x :: st)) rfl (H.dec hd) rfl kk) k
theorem G.pop (H : Hs p l e R s m args below meth c Z a0 EL cw own n0 bytes maxL ret nm T h C S sf) {x : Value} {pc J : Nat} {L : Array Slot} {st : List Value} (hd : decode bytes pc = .ok (.pop, 1)) (hp : pc + 1 = J) (hc : x.category = 1) (k : Go p e below P (T.setTop (mkF m J L (st)))) : Go p e below P (T.setTop (mkF m pc L (x :: st))) := by
  subst hp
  exact Go.st (fun t kk => XT.pop H.here H.exec (g := mkF m pc L (x :: st)) rfl (H.dec hd) rfl hc kk) k
theorem G.dup (H : Hs p l e R s m args below meth c Z a0 EL cw own n0 bytes maxL ret nm T h C S sf) {x : Value} {pc J : Nat} {L : Array Slot} {st : List Value} (hd : decode bytes pc = .ok (.dup, 1)) (hp : pc + 1 = J) (hc : x.category = 1) (k : Go p e below P (T.setTop (mkF m J L (x :: x :: st)))) : Go p e below P (T.setTop (mkF m pc L (x :: st))) := by
  subst hp
  exact Go.st (fun t kk => XS.dup H.here H.exec (g := mkF m pc L (x :: st)) rfl (H.dec hd) rfl hc kk) k
theorem G.istoreN (H : Hs p l e R s m args below meth c Z a0 EL cw own n0 bytes maxL ret nm T h C S sf) {i : Fin 4} {x : Int32} {L' : Array Slot} {pc J : Nat} {L : Array Slot} {st : List Value} (hd : decode bytes pc = .ok (.istore_n i, 1)) (hp : pc + 1 = J) (hl : storeLocals L i.val (.int x) = some L') (k : Go p e below P (T.setTop (mkF m J L' (st)))) : Go p e below P (T.setTop (mkF m pc L (.int x :: st))) := by
  subst hp
  exact Go.st (fun t kk => XS.istoreN H.here H.exec (g := mkF m pc L (.int x :: st)) rfl (H.dec hd) rfl hl kk) k
theorem G.istore (H : Hs p l e R s m args below meth c Z a0 EL cw own n0 bytes maxL ret nm T h C S sf) {i : Nat} {x : Int32} {L' : Array Slot} {pc J : Nat} {L : Array Slot} {st : List Value} (hd : decode bytes pc = .ok (.istore i, 2)) (hp : pc + 2 = J) (hl : storeLocals L i (.int x) = some L') (k : Go p e below P (T.setTop (mkF m J L' (st)))) : Go p e below P (T.setTop (mkF m pc L (.int x :: st))) := by
  subst hp
  exact Go.st (fun t kk => XS.istore H.here H.exec (g := mkF m pc L (.int x :: st)) rfl (H.dec hd) rfl hl kk) k
theorem G.astoreN (H : Hs p l e R s m args below meth c Z a0 EL cw own n0 bytes maxL ret nm T h C S sf) {i : Fin 4} {x : Value} {L' : Array Slot} {pc J : Nat} {L : Array Slot} {st : List Value} (hd : decode bytes pc = .ok (.astore_n i, 1)) (hp : pc + 1 = J) (hv : x.isRef = true) (hl : storeLocals L i.val x = some L') (k : Go p e below P (T.setTop (mkF m J L' (st)))) : Go p e below P (T.setTop (mkF m pc L (x :: st))) := by
  subst hp
  exact Go.st (fun t kk => XS.astoreN H.here H.exec (g := mkF m pc L (x :: st)) rfl (H.dec hd) rfl hv hl kk) k
theorem G.astore (H : Hs p l e R s m args below meth c Z a0 EL cw own n0 bytes maxL ret nm T h C S sf) {i : Nat} {x : Value} {L' : Array Slot} {pc J : Nat} {L : Array Slot} {st : List Value} (hd : decode bytes pc = .ok (.astore i, 2)) (hp : pc + 2 = J) (hv : x.isRef = true) (hl : storeLocals L i x = some L') (k : Go p e below P (T.setTop (mkF m J L' (st)))) : Go p e below P (T.setTop (mkF m pc L (x :: st))) := by
  subst hp
  exact Go.st (fun t kk => XS.astore H.here H.exec (g := mkF m pc L (x :: st)) rfl (H.dec hd) rfl hv hl kk) k
theorem G.iinc (H : Hs p l e R s m args below meth c Z a0 EL cw own n0 bytes maxL ret nm T h C S sf) {i : Nat} {cst : Int} {x v : Int32} {L' : Array Slot} {pc J : Nat} {L : Array Slot} {st : List Value} (hd : decode bytes pc = .ok (.iinc i cst, 3)) (hp : pc + 3 = J) (hl : L[i]? = some (.val (.int x))) (hv : x + Int32.ofInt cst = v) (hl' : storeLocals L i (.int v) = some L') (k : Go p e below P (T.setTop (mkF m J L' (st)))) : Go p e below P (T.setTop (mkF m pc L (st))) := by
  subst hp; subst hv
  exact Go.st (fun t kk => XS.iinc H.here H.exec (g := mkF m pc L (st)) rfl (H.dec hd) hl hl' kk) k
theorem G.goto (H : Hs p l e R s m args below meth c Z a0 EL cw own n0 bytes maxL ret nm T h C S sf) {o : Int} {pc J : Nat} {L : Array Slot} {st : List Value} (hd : decode bytes pc = .ok (.goto o, 3)) (ho : 0 ≤ (pc : Int) + o) (hp : ((pc : Int) + o).toNat = J) (k : Go p e below P (T.setTop (mkF m J L (st)))) : Go p e below P (T.setTop (mkF m pc L (st))) :=
  Go.st (fun t kk => XS.goto H.here H.exec (g := mkF m pc L (st)) rfl (pc0 := pc) rfl (H.dec hd) ho hp kk) k
theorem G.ifYes (H : Hs p l e R s m args below meth c Z a0 EL cw own n0 bytes maxL ret nm T h C S sf) {cd : ClassFile.Cond} {x : Int32} {o : Int} {pc J : Nat} {L : Array Slot} {st : List Value} (hd : decode bytes pc = .ok (.ifCond cd o, 3)) (hc : ifCond.holds cd x = true) (ho : 0 ≤ (pc : Int) + o) (hp : ((pc : Int) + o).toNat = J) (k : Go p e below P (T.setTop (mkF m J L (st)))) : Go p e below P (T.setTop (mkF m pc L (.int x :: st))) :=
  Go.st (fun t kk => XS.ifYes H.here H.exec (g := mkF m pc L (.int x :: st)) rfl (pc0 := pc) rfl (H.dec hd) rfl hc ho hp kk) k
theorem G.icmpYes (H : Hs p l e R s m args below meth c Z a0 EL cw own n0 bytes maxL ret nm T h C S sf) {cd : ClassFile.Cond} {x y : Int32} {o : Int} {pc J : Nat} {L : Array Slot} {st : List Value} (hd : decode bytes pc = .ok (.if_icmp cd o, 3)) (hc : if_icmp.holds cd x y = true) (ho : 0 ≤ (pc : Int) + o) (hp : ((pc : Int) + o).toNat = J) (k : Go p e below P (T.setTop (mkF m J L (st)))) : Go p e below P (T.setTop (mkF m pc L (.int y :: .int x :: st))) :=
  Go.st (fun t kk => XS.icmpYes H.here H.exec (g := mkF m pc L (.int y :: .int x :: st)) rfl (pc0 := pc) rfl (H.dec hd) rfl hc ho hp kk) k
theorem G.ifnonnullYes (H : Hs p l e R s m args below meth c Z a0 EL cw own n0 bytes maxL ret nm T h C S sf) {b : Addr} {o : Int} {pc J : Nat} {L : Array Slot} {st : List Value} (hd : decode bytes pc = .ok (.ifnonnull o, 3)) (ho : 0 ≤ (pc : Int) + o) (hp : ((pc : Int) + o).toNat = J) (k : Go p e below P (T.setTop (mkF m J L (st)))) : Go p e below P (T.setTop (mkF m pc L (.ref b :: st))) :=
  Go.st (fun t kk => XT.ifnonnullYes H.here H.exec (g := mkF m pc L (.ref b :: st)) rfl (pc0 := pc) rfl (H.dec hd) rfl ho hp kk) k
theorem G.acmpYes (H : Hs p l e R s m args below meth c Z a0 EL cw own n0 bytes maxL ret nm T h C S sf) {cd : ClassFile.ACond} {x y : Value} {o : Int} {pc J : Nat} {L : Array Slot} {st : List Value} (hd : decode bytes pc = .ok (.if_acmp cd o, 3)) (hx' : x.isRef = true) (hy' : y.isRef = true) (hc : XT.acmp cd x y = true) (ho : 0 ≤ (pc : Int) + o) (hp : ((pc : Int) + o).toNat = J) (k : Go p e below P (T.setTop (mkF m J L (st)))) : Go p e below P (T.setTop (mkF m pc L (y :: x :: st))) :=
  Go.st (fun t kk => XT.acmpYes H.here H.exec (g := mkF m pc L (y :: x :: st)) rfl (pc0 := pc) rfl (H.dec hd) rfl hx' hy' hc ho hp kk) k
theorem G.ifNo (H : Hs p l e R s m args below meth c Z a0 EL cw own n0 bytes maxL ret nm T h C S sf) {cd : ClassFile.Cond} {o : Int} {x : Int32} {pc J : Nat} {L : Array Slot} {st : List Value} (hd : decode bytes pc = .ok (.ifCond cd o, 3)) (hp : pc + 3 = J) (hc : ifCond.holds cd x = false) (k : Go p e below P (T.setTop (mkF m J L (st)))) : Go p e below P (T.setTop (mkF m pc L (.int x :: st))) := by
  subst hp
  exact Go.st (fun t kk => XS.ifNo H.here H.exec (g := mkF m pc L (.int x :: st)) rfl (H.dec hd) rfl hc kk) k
theorem G.icmpNo (H : Hs p l e R s m args below meth c Z a0 EL cw own n0 bytes maxL ret nm T h C S sf) {cd : ClassFile.Cond} {o : Int} {x y : Int32} {pc J : Nat} {L : Array Slot} {st : List Value} (hd : decode bytes pc = .ok (.if_icmp cd o, 3)) (hp : pc + 3 = J) (hc : if_icmp.holds cd x y = false) (k : Go p e below P (T.setTop (mkF m J L (st)))) : Go p e below P (T.setTop (mkF m pc L (.int y :: .int x :: st))) := by
  subst hp
  exact Go.st (fun t kk => XS.icmpNo H.here H.exec (g := mkF m pc L (.int y :: .int x :: st)) rfl (H.dec hd) rfl hc kk) k
theorem G.ifnullNo (H : Hs p l e R s m args below meth c Z a0 EL cw own n0 bytes maxL ret nm T h C S sf) {o : Int} {b : Addr} {pc J : Nat} {L : Array Slot} {st : List Value} (hd : decode bytes pc = .ok (.ifnull o, 3)) (hp : pc + 3 = J) (k : Go p e below P (T.setTop (mkF m J L (st)))) : Go p e below P (T.setTop (mkF m pc L (.ref b :: st))) := by
  subst hp
  exact Go.st (fun t kk => XS.ifnullNo H.here H.exec (g := mkF m pc L (.ref b :: st)) rfl (H.dec hd) rfl kk) k
theorem G.acmpNo (H : Hs p l e R s m args below meth c Z a0 EL cw own n0 bytes maxL ret nm T h C S sf) {cd : ClassFile.ACond} {o : Int} {x y : Value} {pc J : Nat} {L : Array Slot} {st : List Value} (hd : decode bytes pc = .ok (.if_acmp cd o, 3)) (hp : pc + 3 = J) (hx' : x.isRef = true) (hy' : y.isRef = true) (hc : XT.acmp cd x y = false) (k : Go p e below P (T.setTop (mkF m J L (st)))) : Go p e below P (T.setTop (mkF m pc L (y :: x :: st))) := by
  subst hp
  exact Go.st (fun t kk => XT.acmpNo H.here H.exec (g := mkF m pc L (y :: x :: st)) rfl (H.dec hd) rfl hx' hy' hc kk) k
theorem G.tswIn (H : Hs p l e R s m args below meth c Z a0 EL cw own n0 bytes maxL ret nm T h C S sf) {dflt low high : Int} {offs : Array Int} {len : Nat} {o : Int} {i : Int32} {pc J : Nat} {L : Array Slot} {st : List Value} (hd : decode bytes pc = .ok (.tableswitch dflt low high offs, len)) (hin : ¬ (i.toInt < low ∨ i.toInt > high)) (hoff : offs[(i.toInt - low).toNat]? = some o) (ho : 0 ≤ (pc : Int) + o) (hp : ((pc : Int) + o).toNat = J) (k : Go p e below P (T.setTop (mkF m J L st))) : Go p e below P (T.setTop (mkF m pc L (.int i :: st))) :=
  Go.st (fun t kk => XS.tswIn H.here H.exec (g := mkF m pc L (.int i :: st)) rfl (pc0 := pc) rfl (H.dec hd) rfl hin hoff ho hp kk) k
theorem Hs.ext {T' : State} {h' : Heap} {C' S' : Nat} {vm0 : Vm} {k0 : Nat} {locs : List Loc} (H : Hs p l e R s m args below meth c Z a0 EL cw own n0 bytes maxL ret nm T h C S sf) (X' : Stand p l e R (s.setVm vm0) m args below meth c T' locs C' S') (e' : T'.heap = h') (E : Ext h h') (h2 : s.Since vm0 k0) (h3 : k0 ≤ h.size) (h4 : Z.Warmed39 vm0) (h5 : vm0.findClass own = some m.cls) (h6 : Fr n0 locs) (h7 : CHr Z EL s.vm s.heap vm0 h) (h8 : ∀ x ∈ sf, x < h.size ∧ Safe Z EL vm0 h x) (h9 : cw ∨ s.WarmedH vm0) (hO : Old Z n0 h) (hlt : h.size < h'.size) : Hs p l e R s m args below meth c Z a0 EL cw own n0 bytes maxL ret nm T' h' C' S' (h.size :: sf) :=
  ⟨H.1, vm0, k0, locs, X', e', h2, Nat.le_trans h3 E.1, h4, h5, h6, h7.trans (CHr.ext E h7.1), fun x hx => by
    rcases List.mem_cons.mp hx with rfl | hx
    · exact ⟨hlt, Safe.ext E h7.1 (Safe.new (Nat.le_refl _))⟩
    · exact ⟨Nat.lt_of_lt_of_le (h8 x hx).1 E.1, Safe.ext E h7.1 (h8 x hx).2⟩, h9, hO.ext E⟩
theorem G.new (H : Hs p l e R s m args below meth c Z a0 EL cw own n0 bytes maxL ret nm T h C S sf) {K : String} {index n : Nat} (w : (Cond.classLink own index K).before a0 Z = true) (wi : (Cond.instantiable K n).before a0 Z = true) (wz : (Cond.initialized K).before a0 Z = true) {pc J : Nat} {L : Array Slot} {st : List Value} (hd : decode bytes pc = .ok (.new index, 3)) (hp : pc + 3 = J) (hc : C + 1 ≤ R.cells) (hl : S + n ≤ R.slots)
    (k : ∀ T' h' a, a = h.size → Hs p l e R s m args below meth c Z a0 EL cw own n0 bytes maxL ret nm T' h' (C + 1) (S + n) (a :: sf) → Ext h h' → Exa Z h' a K → (∀ {O nm' d : String} {ty : FieldType}, Laid Z a0 K O nm' d → parseFieldDescriptor d = some ty → Fld Z h' a O nm' d (defaultValue ty)) → Go p e below P (T'.setTop (mkF m J L (.ref a :: st)))) : Go p e below P (T.setTop (mkF m pc L st)) := by
  subst hp
  obtain ⟨hM, vm0, k0, locs, X, h1, h2, h3, h4, h5, h6, h7, h8, h9, hO⟩ := id H
  obtain ⟨T', h', X', e', E, A, D, -, st'⟩ := RoadKit.newO X H.exec h4 h5 w wi wz h1 (g := mkF m pc L st) rfl (H.dec hd) hc hl
  exact Go.st st' (k T' h' _ rfl (H.ext X' e' E h2 h3 h4 h5 h6 h7 h8 h9 hO A.lt) E A D)
theorem G.newP (H : Hs p l e R s m args below meth c Z a0 EL cw own n0 bytes maxL ret nm T h C S sf) {aty : ArrayType} (w : (Cond.arrayClass (newarray.typeOf aty)).before a0 Z = true) {z : Int32} {pc J : Nat} {L : Array Slot} {st : List Value} (hd : decode bytes pc = .ok (.newarray aty, 2)) (hp : pc + 2 = J) (hn : ¬ z < 0) {cap : Nat} (hcap : z.toNatClampNeg ≤ cap) (hb : cap * 8 ≤ 536870912) (hc : C + 1 ≤ R.cells) (hl : S + cap ≤ R.slots) {vs : List Value} (hvs : List.replicate z.toNatClampNeg (defaultValue (newarray.typeOf aty)) = vs) {ad : String} (had : "[" ++ (newarray.typeOf aty).toString = ad)
    (k : ∀ T' h' a kc, a = h.size → Hs p l e R s m args below meth c Z a0 EL cw own n0 bytes maxL ret nm T' h' (C + 1) (S + cap) (a :: sf) → Ext h h' → Arv Z h' a kc (newarray.typeOf aty) z vs (defaultValue (newarray.typeOf aty)) → Exa Z h' a ad → Go p e below P (T'.setTop (mkF m J L (.ref a :: st)))) : Go p e below P (T.setTop (mkF m pc L (.int z :: st))) := by
  subst hp
  obtain ⟨hM, vm0, k0, locs, X, h1, h2, h3, h4, h5, h6, h7, h8, h9, hO⟩ := id H
  obtain ⟨T', h', cA, X', e', E, A, EX, st'⟩ := RoadKit.newPE X H.exec h4 w h1 (g := mkF m pc L (.int z :: st)) rfl (H.dec hd) rfl hn hcap hb hc hl had
  refine Go.st st' (k T' h' _ cA rfl (H.ext X' e' E h2 h3 h4 h5 h6 h7 h8 h9 hO A.lt) E ?_ EX)
  subst hvs
  exact (Arv.new A hn).pad (fun i => by simpa using pad_rep [] (defaultValue (newarray.typeOf aty)) z.toNatClampNeg i)
theorem Hs.wr {T' : State} {h' : Heap} {vm0 : Vm} {k0 : Nat} {locs : List Loc} {a : Addr} {sl : Nat} {v : Value} (H : Hs p l e R s m args below meth c Z a0 EL cw own n0 bytes maxL ret nm T h C S sf) (X' : Stand p l e R (s.setVm vm0) m args below meth c T' (locs ++ [⟨a, sl⟩]) C S) (e' : T'.heap = h') (W : Wr h h' a sl v) (q : n0 ≤ a) (sa : Safe Z EL vm0 h a) (h2 : s.Since vm0 k0) (h3 : k0 ≤ h.size) (h4 : Z.Warmed39 vm0) (h5 : vm0.findClass own = some m.cls) (h6 : Fr n0 locs) (h7 : CHr Z EL s.vm s.heap vm0 h) (h8 : ∀ x ∈ sf, x < h.size ∧ Safe Z EL vm0 h x) (h9 : cw ∨ s.WarmedH vm0) (hO : Old Z n0 h) : Hs p l e R s m args below meth c Z a0 EL cw own n0 bytes maxL ret nm T' h' C S sf :=
  ⟨H.1, vm0, k0, locs ++ [⟨a, sl⟩], X', e', h2, by rw [W.size]; exact h3, h4, h5, Fr.snoc X' h6 q, h7.trans (CHr.wr W sa h7.1), fun x hx => ⟨by rw [W.size]; exact (h8 x hx).1, Safe.wr W sa h7.1 (h8 x hx).2⟩, h9, hO.wr W q⟩
theorem G.putF (H : Hs p l e R s m args below meth c Z a0 EL cw own n0 bytes maxL ret nm T h C S sf) {R0 O n d K : String} {index kk : Nat} {ty : FieldType} (w : (Cond.fieldLink own index R0 n d).before a0 Z = true) (via : Via Z R0 O n d) {a : Addr} {v old : Value} (F : Fld Z h a O n d old) (E : Exa Z h a K) (Ly : (Cond.lays K O n d).before a0 Z = true ∨ ((Cond.laysFinal K O n d).before a0 Z = true ∧ own = O ∧ nm = "<init>")) (wi : (Cond.instantiable K kk).before a0 Z = true) (hty : parseFieldDescriptor d = some ty) (hn : narrow ty v = v) (hf : fits ty v = true) (hq : n0 ≤ a) (hsf : Sf Z EL h sf a) {pc J : Nat} {L : Array Slot} {st : List Value} (hd : decode bytes pc = .ok (.putfield index, 3)) (hp : pc + 3 = J)
    (k : ∀ T' h', Hs p l e R s m args below meth c Z a0 EL cw own n0 bytes maxL ret nm T' h' C S sf → Wr h h' a (RoadKit.slotOf Z O n d) v → Go p e below P (T'.setTop (mkF m J L st))) : Go p e below P (T.setTop (mkF m pc L (v :: .ref a :: st))) := by
  subst hp
  obtain ⟨hM, vm0, k0, locs, X, h1, h2, h3, h4, h5, h6, h7, h8, h9, hO⟩ := id H
  obtain ⟨T', h', X', e', W, st'⟩ := RoadKit.putF X H.exec h4 (host := "") h5 (Or.inl w) via h1 F E (Ly.imp id (fun q => ⟨q.1, q.2.1, hM.2.2.2.2.2.2.1.trans q.2.2⟩)) wi hty hn hf (g := mkF m pc L (v :: .ref a :: st)) rfl rfl (H.dec hd)
  exact Go.st st' (k T' h' (H.wr X' e' W hq (hsf.safe h4 h8) h2 h3 h4 h5 h6 h7 h8 h9 hO) W)
theorem G.stC (H : Hs p l e R s m args below meth c Z a0 EL cw own n0 bytes maxL ret nm T h C S sf) {a : Addr} {kc : ClassId} {z : Int32} {vs : List Value} {dv : Value} (A : Arv Z h a kc .char z vs dv) {j x : Int32} (hj : ¬ j < 0 ∧ j < z) {i : Nat} (hi : j.toNatClampNeg = i) (hlt : i < vs.length) (hq : n0 ≤ a) {y : Int32} (hy : nar .char x = y) {pc J : Nat} {L : Array Slot} {st : List Value} (hd : decode bytes pc = .ok (.castore, 1)) (hp : pc + 1 = J)
    (k : ∀ T' h', Hs p l e R s m args below meth c Z a0 EL cw own n0 bytes maxL ret nm T' h' C S sf → Wr h h' a i (.int y) → Arv Z h' a kc .char z (vs.set i (.int y)) dv → Go p e below P (T'.setTop (mkF m J L st))) : Go p e below P (T.setTop (mkF m pc L (.int x :: .int j :: .ref a :: st))) := by
  subst hp; subst hi; subst hy
  obtain ⟨hM, vm0, k0, locs, X, h1, h2, h3, h4, h5, h6, h7, h8, h9, hO⟩ := id H
  obtain ⟨cl, Ar, q1, S1, q3, H1, G1⟩ := A
  obtain ⟨T', h', X', e', W, st'⟩ := RoadKit.stC X H.exec h4 h1 Ar (inb_of S1 hj) (g := mkF m pc L (.int x :: .int j :: .ref a :: st)) rfl rfl (H.dec hd)
  exact Go.st st' (k T' h' (H.wr X' e' W hq (Safe.arr h4.alike Ar (by decide)) h2 h3 h4 h5 h6 h7 h8 h9 hO) W (Arv.set Ar q1 S1 q3 H1 G1 (fits_nar_char x) W _ rfl hlt))
theorem G.stB (H : Hs p l e R s m args below meth c Z a0 EL cw own n0 bytes maxL ret nm T h C S sf) {a : Addr} {kc : ClassId} {z : Int32} {vs : List Value} {dv : Value} (A : Arv Z h a kc .byte z vs dv) {j x : Int32} (hj : ¬ j < 0 ∧ j < z) {i : Nat} (hi : j.toNatClampNeg = i) (hlt : i < vs.length) (hq : n0 ≤ a) (hsf : Sf Z EL h sf a) {y : Int32} (hy : nar .byte x = y) {pc J : Nat} {L : Array Slot} {st : List Value} (hd : decode bytes pc = .ok (.bastore, 1)) (hp : pc + 1 = J)
    (k : ∀ T' h', Hs p l e R s m args below meth c Z a0 EL cw own n0 bytes maxL ret nm T' h' C S sf → Wr h h' a i (.int y) → Arv Z h' a kc .byte z (vs.set i (.int y)) dv → Go p e below P (T'.setTop (mkF m J L st))) : Go p e below P (T.setTop (mkF m pc L (.int x :: .int j :: .ref a :: st))) := by
  subst hp; subst hi; subst hy
  obtain ⟨hM, vm0, k0, locs, X, h1, h2, h3, h4, h5, h6, h7, h8, h9, hO⟩ := id H
  obtain ⟨cl, Ar, q1, S1, q3, H1, G1⟩ := A
  obtain ⟨T', h', X', e', W, st'⟩ := RoadKit.stB X H.exec h4 h1 Ar (inb_of S1 hj) (g := mkF m pc L (.int x :: .int j :: .ref a :: st)) rfl rfl (H.dec hd)
  exact Go.st st' (k T' h' (H.wr X' e' W hq (hsf.safe h4 h8) h2 h3 h4 h5 h6 h7 h8 h9 hO) W (Arv.set Ar q1 S1 q3 H1 G1 (fits_nar_byte x) W _ rfl hlt))
theorem Hs.rebase {T' : State} {h' : Heap} {C' S' : Nat} {vm0 : Vm} {k1 : Nat} {locs : List Loc} (H : Hs p l e R s m args below meth c Z a0 EL cw own n0 bytes maxL ret nm T h C S sf) (hcw : cw) (X' : Stand p l e R (s.setVm T'.vm) m args below meth c T' locs C' S') (e' : T'.heap = h') (h2 : s.Since T'.vm k1) (h3 : k1 ≤ h'.size) (h4 : Z.Warmed39 T'.vm) (h5 : T'.vm.findClass own = some m.cls) (h6 : Fr n0 locs) (h7 : CHr Z EL s.vm s.heap vm0 h) (h7' : CHr Z EL vm0 h T'.vm h') (h8 : ∀ x ∈ sf, x < h.size ∧ Safe Z EL vm0 h x) (hO : Old Z n0 h') : Hs p l e R s m args below meth c Z a0 EL cw own n0 bytes maxL ret nm T' h' C' S' sf :=
  ⟨H.1, T'.vm, k1, locs, X', e', h2, h3, h4, h5, h6, h7.trans h7', fun x hx => ⟨Nat.lt_of_lt_of_le (h8 x hx).1 h7'.2.1, h7'.safe (h8 x hx).1 (h8 x hx).2⟩, Or.inl hcw, hO⟩
theorem G.ldcS (H : Hs p l e R s m args below meth c Z a0 EL cw own n0 bytes maxL ret nm T h C S sf) (hcw : cw) (wS : ∀ a ∈ Bundle.stringAtoms, a.before a0 Z = true) {index : Nat} {text : String} (w : (Cond.stringLink own index text).before a0 Z = true) (hmem : (own, index) ∈ EL) {vs : List Value} {z : Int32} (ht : (∀ c ∈ text.toList, c.toNat < 256) ∧ text.toList.map (fun c => Value.int (Jvm.Lit.byteI c.toNat.toUInt16)) = vs) (hz : ¬ z < 0) (hl : z.toNatClampNeg = vs.length) {n : Nat} (hn : 4 * text.toList.length ≤ n) (hbig : n ≤ 536870912) (hc : C + 2 ≤ R.cells) (hl' : S + (n + 4) ≤ R.slots) {pc J : Nat} {L : Array Slot} {st : List Value} (hd : decode bytes pc = .ok (.ldc index, 2)) (hp : pc + 2 = J)
    (k : ∀ T' h' a b kb, Hs p l e R s m args below meth c Z a0 EL cw own n0 bytes maxL ret nm T' h' (C + 2) (S + (n + 4)) sf → Ext h h' → Exa Z h' a "java/lang/String" → Fld Z h' a "java/lang/String" "coder" "B" (.int 0) → Fld Z h' a "java/lang/String" "value" "[B" (.ref b) → Arv Z h' b kb .byte z vs (.int 0) → (∀ x ∈ sf, x ≠ a ∧ x ≠ b) → Go p e below P (T'.setTop (mkF m J L (.ref a :: st)))) : Go p e below P (T.setTop (mkF m pc L st)) := by
  subst hp
  obtain ⟨hM, vm0, k0, locs, X, h1, h2, h3, h4, h5, h6, h7, h8, h9, hO⟩ := id H
  obtain ⟨a, T', h', k1, b, kb, X', e', E, s2, s3, s4, s5, F1, F2, F3, F4, -, -, h7', -, hne, st'⟩ := RoadKit.ldcCH X H.exec h4 h5 w wS h1 h2 h3 hM.2.1 hmem h7.1 ht hz hl (g := mkF m pc L st) rfl (H.dec hd) hn hbig hc hl'
  exact Go.st st' (k T' h' a b kb (H.rebase hcw X' e' s2 s3 s4 s5 h6 h7 h7' h8 (hO.ext E)) E F1 F2 F3 F4 (fun x hx => hne x (h7'.safe (h8 x hx).1 (h8 x hx).2)))
def FinP (s : State) (below : List Frame) (Z : State) (EL : List (String × Nat)) (cw : Prop) (n0 Cm Sm : Nat) (Q : Option Value → Heap → List Addr → Prop) : State → Outcome → Prop := fun u o =>
  u.status = .running ∧ Ended u below o ∧ ∃ v L so, o = .returned v ∧ Q v u.heap so ∧ Old Z n0 u.heap ∧ Fr n0 L ∧ CHr Z EL s.vm s.heap u.vm u.heap ∧ (∀ x ∈ so, x < u.heap.size ∧ Safe Z EL u.vm u.heap x) ∧ ReturnedEndW s o u L Cm Sm ∧ (cw ∨ FrameEnd s o u L Cm Sm)
theorem Hs.leave (H : Hs p l e R s m args below meth c Z a0 EL cw own n0 bytes maxL ret nm T h C S sf) {Cm Sm : Nat} {Q : Option Value → Heap → List Addr → Prop} {v : Option Value} {so : List Addr} (hv : ret = none → v = none) (hQ : Q v h so) (hso : ∀ x ∈ so, x ∈ sf) (hC : C ≤ Cm) (hS : S ≤ Sm) :
    ∃ fs, (∀ (f : JFrame) (acts : List Action), f.method = m → f.locked = none → f.entered = [] → (doReturn e (T.setTop f) acts v).1 = T.setFrames fs) ∧ FinP s below Z EL cw n0 Cm Sm Q (T.setFrames fs) (.returned v) := by
  obtain ⟨hM, vm0, k0, locs, X, h1, h2, h3, h4, h5, h6, h7, h8, h9, hO⟩ := H
  obtain ⟨-, hEL, -, -, hret, hlocks, -, -⟩ := hM
  obtain ⟨fs, hr, hrun, hended, hW, hsame⟩ := X.leave (v := v) (fun q => hv (hret.symm.trans q)) hlocks
  have hk : k0 ≤ (T.setFrames fs).heap.size := by show k0 ≤ T.heap.size; rw [h1]; exact h3
  obtain ⟨w1, w2, w3⟩ := h2.ended (U := T.setFrames fs) hW hk hsame
  have A := CHv.at X h4 hEL h7.1
  refine ⟨fs, hr, hrun, hended, v, locs, so, rfl, ?_, ?_, h6, ?_, ?_, ⟨⟨v, rfl⟩, w1, w2, w3.mono hC hS⟩, ?_⟩
  · show Q v T.heap so; rw [h1]; exact hQ
  · show Old Z n0 T.heap; rw [h1]; exact hO
  · show CHr Z EL s.vm s.heap T.vm T.heap; rw [h1]; exact h7.trans A
  · intro x hx
    show x < T.heap.size ∧ Safe Z EL T.vm T.heap x
    rw [h1]; exact ⟨(h8 x (hso x hx)).1, A.safe (h8 x (hso x hx)).1 (h8 x (hso x hx)).2⟩
  · exact h9.imp id (fun q => ⟨⟨v, rfl⟩, State.WarmedH.trans (t := s.setVm vm0) q hW, w3.mono hC hS⟩)
theorem G.retG (H : Hs p l e R s m args below meth c Z a0 EL cw own n0 bytes maxL ret nm T h C S sf) {Cm Sm : Nat} {Q : Option Value → Heap → List Addr → Prop} {so : List Addr} {pc : Nat} {L : Array Slot} {w : Value} {t : FieldType} {i : Instr} {rest : List Value} (hret : ret = some t) (hn : narrow t w = w)
    (hi : (i = .ireturn ∧ (t = .int ∨ t = .boolean ∨ t = .byte ∨ t = .char ∨ t = .short) ∧ ∃ z, w = .int z) ∨ (i = .lreturn ∧ t = .long ∧ ∃ z, w = .long z) ∨ (i = .dreturn ∧ t = .double ∧ ∃ z, w = .double z) ∨ (i = .freturn ∧ t = .float ∧ ∃ z, w = .float z) ∨ (i = .areturn ∧ t.isReference = true ∧ w.isRef = true))
    (hd : decode bytes pc = .ok (i, 1)) (hso : ∀ x ∈ so, x ∈ sf) (hC : C ≤ Cm) (hS : S ≤ Sm) (hQ : Q (some w) h so) : Go p e below (FinP s below Z EL cw n0 Cm Sm Q) (T.setTop (mkF m pc L (w :: rest))) := by
  obtain ⟨fs, hr, hF⟩ := H.leave (Q := Q) (v := some w) (Cm := Cm) (Sm := Sm) (fun q => by rw [hret] at q; cases q) hQ hso hC hS
  obtain ⟨hM, vm0, k0, locs, X, -⟩ := id H
  exact ⟨_, _, retOut X H.exec (hM.2.2.2.2.1.trans hret) hn hi (H.dec hd) hr, hF⟩
theorem G.retI (H : Hs p l e R s m args below meth c Z a0 EL cw own n0 bytes maxL ret nm T h C S sf) {Cm Sm : Nat} {Q : Option Value → Heap → List Addr → Prop} {so : List Addr} {pc : Nat} {L : Array Slot} {z : Int32} {rest : List Value} (hret : ret = some .int) (hd : decode bytes pc = .ok (.ireturn, 1)) (hso : ∀ x ∈ so, x ∈ sf) (hC : C ≤ Cm) (hS : S ≤ Sm) (hQ : Q (some (.int z)) h so) : Go p e below (FinP s below Z EL cw n0 Cm Sm Q) (T.setTop (mkF m pc L (.int z :: rest))) :=
  G.retG H hret rfl (Or.inl ⟨rfl, Or.inl rfl, z, rfl⟩) hd hso hC hS hQ
theorem G.retN (H : Hs p l e R s m args below meth c Z a0 EL cw own n0 bytes maxL ret nm T h C S sf) {Cm Sm : Nat} {Q : Option Value → Heap → List Addr → Prop} {so : List Addr} {pc : Nat} {L : Array Slot} {z : Int32} {t : FieldType} {rest : List Value} (hret : ret = some t) (ht : t = .boolean ∨ t = .byte ∨ t = .char ∨ t = .short) (hd : decode bytes pc = .ok (.ireturn, 1)) (hso : ∀ x ∈ so, x ∈ sf) (hC : C ≤ Cm) (hS : S ≤ Sm) (hQ : Q (some (.int (nar t z))) h so) : Go p e below (FinP s below Z EL cw n0 Cm Sm Q) (T.setTop (mkF m pc L (.int z :: rest))) := by
  obtain ⟨fs, hr, hF⟩ := H.leave (Q := Q) (v := some (.int (nar t z))) (Cm := Cm) (Sm := Sm) (fun q => by rw [hret] at q; cases q) hQ hso hC hS
  obtain ⟨hM, vm0, k0, locs, X, -⟩ := id H
  exact ⟨_, _, RoadKit.retN X H.exec (hM.2.2.2.2.1.trans hret) ht (H.dec hd) hr, hF⟩
theorem G.retA (H : Hs p l e R s m args below meth c Z a0 EL cw own n0 bytes maxL ret nm T h C S sf) {Cm Sm : Nat} {Q : Option Value → Heap → List Addr → Prop} {so : List Addr} {pc : Nat} {L : Array Slot} {w : Value} {t : FieldType} {rest : List Value} (hret : ret = some t) (ht : t.isReference = true) (hw : w.isRef = true) (hd : decode bytes pc = .ok (.areturn, 1)) (hso : ∀ x ∈ so, x ∈ sf) (hC : C ≤ Cm) (hS : S ≤ Sm) (hQ : Q (some w) h so) : Go p e below (FinP s below Z EL cw n0 Cm Sm Q) (T.setTop (mkF m pc L (w :: rest))) :=
  G.retG H hret (by rcases ref_cases hw with rfl | ⟨a, rfl⟩ <;> cases t <;> first | rfl | cases ht) (Or.inr (Or.inr (Or.inr (Or.inr ⟨rfl, ht, hw⟩)))) hd hso hC hS hQ
theorem G.retV (H : Hs p l e R s m args below meth c Z a0 EL cw own n0 bytes maxL ret nm T h C S sf) {Cm Sm : Nat} {Q : Option Value → Heap → List Addr → Prop} {so : List Addr} {pc : Nat} {L : Array Slot} (hret : ret = none) (hd : decode bytes pc = .ok (.return_, 1)) (hso : ∀ x ∈ so, x ∈ sf) (hC : C ≤ Cm) (hS : S ≤ Sm) (hQ : Q none h so) : Go p e below (FinP s below Z EL cw n0 Cm Sm Q) (T.setTop (mkF m pc L [])) := by
  obtain ⟨fs, hr, hF⟩ := H.leave (Q := Q) (v := none) (Cm := Cm) (Sm := Sm) (fun _ => rfl) hQ hso hC hS
  obtain ⟨hM, vm0, k0, locs, X, -⟩ := id H
  exact ⟨_, _, X.returnOut H.exec (hM.2.2.2.2.1.trans hret) (H.dec hd) hr, hF⟩
def Met (Z : State) (a0 : Array Value) (EL : List (String × Nat)) (cw : Prop) (n0 : Nat) (l : Launch) (y : MethodName) (bytes : ByteArray) (maxL : Nat) (ret : Option FieldType) (rm : Room) (as' : Array Value) (h : Heap) (sfI : List Addr) (Q : Option Value → Heap → List Addr → Prop) : Prop :=
  ∀ ws, MetFree l y (head1 (Cond.code y bytes maxL ret :: ws) rm) (fun a U => a = as' ∧ Z.Warmed39 U.vm ∧ U.heap = h ∧ CHv Z EL U.vm h ∧ ∀ x ∈ sfI, x < h.size ∧ Safe Z EL U.vm h x) (fun _ _ _ _ _ => True)
    (fun _ U o U' => ∃ v L so, o = .returned v ∧ Q v U'.heap so ∧ Old Z n0 U'.heap ∧ Fr n0 L ∧ CHr Z EL U.vm U.heap U'.vm U'.heap ∧ (∀ x ∈ so, x < U'.heap.size ∧ Safe Z EL U'.vm U'.heap x) ∧ ReturnedEndW U o U' L rm.cells rm.slots ∧ (cw ∨ FrameEnd U o U' L rm.cells rm.slots))
theorem Met.of {y : MethodName} {rm : Room} {as' : Array Value} {sfI : List Addr} {Q : Option Value → Heap → List Addr → Prop} {L0 : Array Slot} (hEL : EW Z a0 EL) (hpn : plainFor y = true) (hO : Old Z n0 h) (hL : Jvm.Sym.laidSlots as'.toList ++ List.replicate (maxL - (Jvm.Sym.laidSlots as'.toList).length) .unset = L0.toList)
    (body : ∀ (p : Program) (e : Env) (s : State) (m : MethodId) (below : List Frame) (meth : Method) (c : Code) (T : State), Hs p l e rm s m as' below meth c Z a0 EL cw y.cls n0 bytes maxL ret y.name T h 0 0 sfI → Go p e below (FinP s below Z EL cw n0 rm.cells rm.slots Q) (T.setTop (mkF m 0 L0 []))) : Met Z a0 EL cw n0 l y bytes maxL ret rm as' h sfI Q := by
  intro ws
  refine MetFree.of_bodySF hpn hisR ?_
  intro p e s m args below meth c s₁ Bd hml hP hK
  obtain ⟨rfl, hZ, hh, hC, hs⟩ := hP
  have X0 : Stand p l e rm (s.setVm s.vm) m args below meth c s₁ [] 0 0 := Stand.of_body Bd
  have e0 : s₁.heap = h := by rw [← hh, Bd.state]; rfl
  have H : Hs p l e rm s m args below meth c Z a0 EL cw y.cls n0 bytes maxL ret y.name s₁ h 0 0 sfI :=
    ⟨⟨Bd.exec, hEL, Bd.bytes, hml, Bd.returns, Bd.notSynchronized, (name_of_methodNamed Bd.named Bd.method).1, by rw [hh, ← hO.1]; exact hO.2.1⟩, s.vm, s.heap.size, [], X0, e0, (State.WarmedH.refl s).since _, by rw [hh]; exact Nat.le_refl _, hZ, findClass_of_methodNamed Bd.named, Fr.nil n0, by rw [hh]; exact CHr.refl hC, hs, Or.inr (State.WarmedH.refl s), hO⟩
  obtain ⟨u, o, h1, h2, h3, v, L, so, r1, r2, rO, r3, r4, r5, r6, r7⟩ := body p e s m below meth c s₁ H
  exact ⟨u, o, (XT.entry hL).trans h1, h2, h3, v, L, so, r1, r2, rO, r3, r4, r5, r6, r7⟩
theorem Met.backS {y : MethodName} {rm : Room} {as' : Array Value} {sfI : List Addr} {Q : Option Value → Heap → List Addr → Prop} {vm0 : Vm} {len W : Nat} (M : Met Z a0 EL cw n0 l y bytes maxL ret rm as' h sfI Q) (hEL : EW Z a0 EL) (hZ : Z.Warmed39 vm0) (wc : (Cond.code y bytes maxL ret).before a0 Z = true) (wz : (Cond.initialized y.cls).before a0 Z = true) (hf : rm.frames + 1 ≤ R.frames) (hl : W + (maxL + 11) + rm.locals ≤ R.locals) (H : CHv Z EL vm0 h) (hs : ∀ x ∈ sfI, x < h.size ∧ Safe Z EL vm0 h x) :
    BackS l R p e below (s.setVm vm0) args y len W (fun A a => a = as' ∧ A.U.heap = h ∧ A.cells + rm.cells ≤ R.cells ∧ A.slots + rm.slots ≤ R.slots)
      (fun A _ v B => ∃ L so, Q v B.U.heap so ∧ Old Z n0 B.U.heap ∧ Fr n0 L ∧ B.locs = A.locs ++ L ∧ B.cells = A.cells + rm.cells ∧ B.slots = A.slots + rm.slots ∧ CHr Z EL vm0 h B.U.vm B.U.heap ∧ (∀ x ∈ so, x < B.U.heap.size ∧ Safe Z EL B.U.vm B.U.heap x) ∧ (cw ∨ (s.setVm vm0).WarmedH B.U.vm)) :=
  BackS.of_freeW (bytes := bytes) (maxL := maxL) (ret := ret)
    (E := fun _ first o t L k n => k = rm.cells ∧ n = rm.slots ∧ ∃ v so, o = .returned v ∧ Q v t.heap so ∧ Old Z n0 t.heap ∧ Fr n0 L ∧ CHr Z EL first.vm first.heap t.vm t.heap ∧ (∀ x ∈ so, x < t.heap.size ∧ Safe Z EL t.vm t.heap x) ∧ (cw ∨ first.WarmedH t.vm))
    (M []) hf hl
    (fun m meth c A a Y hp => have hU : Z.Warmed39 A.U.vm := wtrans (s := s.setVm vm0) hZ Y.warmed
      ⟨by show (Cond.and _ .tt).before a A.U = true; rw [Cond.before_and, mv hU wc]; rfl, mv hU wc, mv hU wz, hp.2.2.1, hp.2.2.2⟩)
    (fun m meth c A a g mk Y hp => by
      have A1 := CHv.at Y hZ hEL H
      exact ⟨hp.1, wtrans (s := s.setVm vm0) hZ Y.warmed, hp.2.1, A1.1, fun x hx => ⟨(hs x hx).1, A1.safe (hs x hx).1 (hs x hx).2⟩⟩)
    (fun _ _ _ _ _ _ _ _ _ => trivial)
    (fun _ _ _ _ ⟨v, L, so, h1, h2, hO, h3, h4, h5, h6, h7⟩ => ⟨L, _, _, h6, rfl, rfl, v, so, h1, h2, hO, h3, h4, h5, h7.imp id (fun q => q.2.1)⟩)
    (fun m meth c A a g mk v t L k n Y hp _ _ ⟨e1, e2, v', so, e3, e4, eO, e5, e6, e7, e8⟩ => by
      cases e3; subst e1 e2
      refine ⟨L, so, e4, eO, e5, rfl, rfl, rfl, (CHv.at Y hZ hEL H).trans ?_, e7, e8.imp id (fun q => State.WarmedH.trans (t := A.U) Y.warmed q)⟩
      rw [← hp.2.1]; exact e6)
/-- behind a call -/
theorem Hs.behind {vm0 vm₁ : Vm} {k0 : Nat} {locs : List Loc} {B : Pt} {L' : List Loc} {so : List Addr} {kc ks : Nat} (H : Hs p l e R s m args below meth c Z a0 EL cw own n0 bytes maxL ret nm T h C S sf) (h2 : s.Since vm0 k0) (h3 : k0 ≤ h.size) (h4 : Z.Warmed39 vm0) (h5 : vm0.findClass own = some m.cls) (h6 : Fr n0 locs) (h7 : CHr Z EL s.vm s.heap vm0 h) (h8 : ∀ x ∈ sf, x < h.size ∧ Safe Z EL vm0 h x) (h9 : cw ∨ s.WarmedH vm0)
    (X' : Stand p l e R ((s.setVm vm0).setVm B.U.vm) m args below meth c B.U B.locs B.cells B.slots) (hS : (s.setVm vm0).Since B.U.vm B.U.heap.size) (hg : h.size ≤ B.U.heap.size) (r1 : Fr n0 L') (r2 : B.locs = locs ++ L') (r3 : B.cells = C + kc) (r4 : B.slots = S + ks) (r5 : CHr Z EL vm0 h B.U.vm B.U.heap) (r6 : ∀ x ∈ so, x < B.U.heap.size ∧ Safe Z EL B.U.vm B.U.heap x) (r7 : cw ∨ (s.setVm vm0).WarmedH B.U.vm) (rO : Old Z n0 B.U.heap) : Hs p l e R s m args below meth c Z a0 EL cw own n0 bytes maxL ret nm B.U B.U.heap (C + kc) (S + ks) (so ++ sf) := by
  obtain ⟨Y, y1, y2, y3⟩ := rebS (Z := Z) (own := own) h2 h3 X' hS hg h4 h5
  refine ⟨H.1, B.U.vm, B.U.heap.size, B.locs, by rw [← r3, ← r4]; exact Y, rfl, y1, Nat.le_refl _, y2, y3, by rw [r2]; exact Fr.app h6 r1, h7.trans r5, fun x hx => ?_, ?_, rO⟩
  · rcases List.mem_append.mp hx with hx | hx
    · exact r6 x hx
    · exact ⟨Nat.lt_of_lt_of_le (h8 x hx).1 hg, r5.safe (h8 x hx).1 (h8 x hx).2⟩
  · rcases h9 with q | q
    · exact Or.inl q
    · exact r7.imp id (fun r => State.WarmedH.trans (t := s.setVm vm0) q r)
theorem G.callS (H : Hs p l e R s m args below meth c Z a0 EL cw own n0 bytes maxL ret nm T h C S sf) {y : MethodName} {yb : ByteArray} {ym : Nat} {yr : Option FieldType} {rm : Room} {as' : Array Value} {sfI : List Addr} {Q : Option Value → Heap → List Addr → Prop} (M : Met Z a0 EL cw n0 l y yb ym yr rm as' h sfI Q) {index : Nat} (w1 : (Cond.methodLink own index y).before a0 Z = true) (w2 : (Cond.static y).before a0 Z = true) (wz : (Cond.initialized y.cls).before a0 Z = true) (wc : (Cond.code y yb ym yr).before a0 Z = true) (hy : y.cls ≠ "java/lang/invoke/MethodHandle" ∧ y.cls ≠ "java/lang/invoke/VarHandle")
    {argsL rest st : List Value} {W : Nat} {pc J : Nat} {L : Array Slot} (hL : L.size = maxL) (has : argsL.toArray = as') (hlen : ∀ sig, parseMethodDescriptor y.desc = some sig → argsL.length = sig.parameters.length) (hst : st = argsL.reverse ++ rest) (hW : (rest.map fun v => v.category).sum = W) (hd : decode bytes pc = .ok (.invokestatic index, 3)) (hp : pc + 3 = J) (hf : rm.frames + 1 ≤ R.frames) (hl : W + (ym + 11) + rm.locals ≤ R.locals) (hc : C + rm.cells ≤ R.cells) (hsl : S + rm.slots ≤ R.slots) (hsf : ∀ x ∈ sfI, x ∈ sf)
    (k : ∀ T' h' v so, Hs p l e R s m args below meth c Z a0 EL cw own n0 bytes maxL ret nm T' h' (C + rm.cells) (S + rm.slots) (so ++ sf) → Q v h' so → Go p e below P (T'.setTop (mkF m J L (v.toList ++ rest)))) : Go p e below P (T.setTop (mkF m pc L st)) := by
  subst hp; subst has
  obtain ⟨hM, vm0, k0, locs, X, h1, h2, h3, h4, h5, h6, h7, h8, h9, hO⟩ := id H
  obtain ⟨v, vm₁, B, hw, X', hS, hg, ⟨L', so, q1, rO, r1, r2, r3, r4, r5, r6, r7⟩, st'⟩ := RoadKit.callSS X H.exec h5 (mvT (s := s.setVm vm0) h4 w1) (mvT (s := s.setVm vm0) h4 w2) (mvT (s := s.setVm vm0) h4 wz) (mvT (s := s.setVm vm0) h4 wc) hy (M.backS (W := W) hM.2.1 h4 wc wz hf hl h7.1 (fun x hx => h8 x (hsf x hx))) (g := mkF m pc L st) rfl (by rw [hM.2.2.2.1]; exact hL) hlen hst (by show 2 * 0 + _ ≤ _; omega) (H.dec hd) (fun _ _ => ⟨rfl, h1, hc, hsl⟩)
  rw [h1] at hg
  exact Go.tr st' (k _ _ v so (H.behind (vm₁ := vm₁) h2 h3 h4 h5 h6 h7 h8 h9 X' hS hg r1 r2 r3 r4 r5 r6 r7 rO) q1)
theorem G.callI (H : Hs p l e R s m args below meth c Z a0 EL cw own n0 bytes maxL ret nm T h C S sf) {y : MethodName} {yb : ByteArray} {ym : Nat} {rm : Room} {as' : Array Value} {sfI : List Addr} {Q : Option Value → Heap → List Addr → Prop} (M : Met Z a0 EL cw n0 l y yb ym none rm as' h sfI Q) {index : Nat} (hy1 : y.name = "<init>") (w1 : (Cond.methodLink own index y).before a0 Z = true) (w2 : (Cond.instanceMethod y).before a0 Z = true) (wz : (Cond.initialized y.cls).before a0 Z = true) (wc : (Cond.code y yb ym none).before a0 Z = true) (hy : y.cls ≠ "java/lang/invoke/MethodHandle" ∧ y.cls ≠ "java/lang/invoke/VarHandle")
    {a : Addr} {argsL rest st : List Value} {W : Nat} {pc J : Nat} {L : Array Slot} (hL : L.size = maxL) (has : (Value.ref a :: argsL).toArray = as') (hlen : ∀ sig, parseMethodDescriptor y.desc = some sig → argsL.length = sig.parameters.length) (hst : st = argsL.reverse ++ .ref a :: rest) (hW : (rest.map fun v => v.category).sum = W) (hd : decode bytes pc = .ok (.invokespecial index, 3)) (hp : pc + 3 = J) (hf : rm.frames + 1 ≤ R.frames) (hl : W + (ym + 11) + rm.locals ≤ R.locals) (hc : C + rm.cells ≤ R.cells) (hsl : S + rm.slots ≤ R.slots) (hsf : ∀ x ∈ sfI, x ∈ sf)
    (k : ∀ T' h' v so, Hs p l e R s m args below meth c Z a0 EL cw own n0 bytes maxL ret nm T' h' (C + rm.cells) (S + rm.slots) (so ++ sf) → Q v h' so → Go p e below P (T'.setTop (mkF m J L (v.toList ++ rest)))) : Go p e below P (T.setTop (mkF m pc L st)) := by
  subst hp; subst has
  obtain ⟨hM, vm0, k0, locs, X, h1, h2, h3, h4, h5, h6, h7, h8, h9, hO⟩ := id H
  obtain ⟨v, vm₁, B, hw, X', hS, hg, ⟨L', so, q1, rO, r1, r2, r3, r4, r5, r6, r7⟩, st'⟩ := X.specialBackS H.exec hy1 h5 (mvT (s := s.setVm vm0) h4 w1) (mvT (s := s.setVm vm0) h4 w2) (mvT (s := s.setVm vm0) h4 wc) hy (M.backS (W := W) hM.2.1 h4 wc wz hf hl h7.1 (fun x hx => h8 x (hsf x hx))) (g := mkF m pc L st) rfl (by rw [hM.2.2.2.1]; exact hL) (Steps.refl _) (a := a) hlen hst (by show 2 * 0 + _ ≤ _; omega) (H.dec hd) (fun _ _ => ⟨rfl, h1, hc, hsl⟩)
  rw [h1] at hg
  exact Go.tr st' (k _ _ v so (H.behind (vm₁ := vm₁) h2 h3 h4 h5 h6 h7 h8 h9 X' hS hg r1 r2 r3 r4 r5 r6 r7 rO) q1)
theorem G.callV (H : Hs p l e R s m args below meth c Z a0 EL cw own n0 bytes maxL ret nm T h C S sf) {y z : MethodName} {D : String} {yb : ByteArray} {ym : Nat} {yr : Option FieldType} {rm : Room} {as' : Array Value} {sfI : List Addr} {Q : Option Value → Heap → List Addr → Prop} (M : Met Z a0 EL cw n0 l z yb ym yr rm as' h sfI Q) {index : Nat} (w1 : (Cond.methodLink own index y).before a0 Z = true) (w2 : (Cond.declares y).before a0 Z = true) (wn : ∀ s' : State, Z.Warmed39 s'.vm → NotFace s' y) (w3 : (Cond.selects D y z).before a0 Z = true) (w4 : (Cond.instanceMethod z).before a0 Z = true) (wz : (Cond.initialized z.cls).before a0 Z = true) (wc : (Cond.code z yb ym yr).before a0 Z = true) (hy : y.cls ≠ "java/lang/invoke/MethodHandle" ∧ y.cls ≠ "java/lang/invoke/VarHandle")
    {a : Addr} (E : Exa Z h a D) {argsL rest st : List Value} {W : Nat} {pc J : Nat} {L : Array Slot} (hL : L.size = maxL) (has : (Value.ref a :: argsL).toArray = as') (hlen : ∀ sig, parseMethodDescriptor y.desc = some sig → argsL.length = sig.parameters.length) (hst : st = argsL.reverse ++ .ref a :: rest) (hW : (rest.map fun v => v.category).sum = W) (hd : decode bytes pc = .ok (.invokevirtual index, 3)) (hp : pc + 3 = J) (hf : rm.frames + 1 ≤ R.frames) (hl : W + (ym + 11) + rm.locals ≤ R.locals) (hc : C + rm.cells ≤ R.cells) (hsl : S + rm.slots ≤ R.slots) (hsf : ∀ x ∈ sfI, x ∈ sf)
    (k : ∀ T' h' v so, Hs p l e R s m args below meth c Z a0 EL cw own n0 bytes maxL ret nm T' h' (C + rm.cells) (S + rm.slots) (so ++ sf) → Q v h' so → Go p e below P (T'.setTop (mkF m J L (v.toList ++ rest)))) : Go p e below P (T.setTop (mkF m pc L st)) := by
  subst hp; subst has
  obtain ⟨hM, vm0, k0, locs, X, h1, h2, h3, h4, h5, h6, h7, h8, h9, hO⟩ := id H
  obtain ⟨cq, kq, qa, qb, qc⟩ := isOf (s := s.setVm vm0) h4 h1 E
  obtain ⟨v, vm₁, B, hw, X', hS, hg, ⟨L', so, q1, rO, r1, r2, r3, r4, r5, r6, r7⟩, st'⟩ := X.virtualBackS H.exec h5 (mvT (s := s.setVm vm0) h4 w1) (mvT (s := s.setVm vm0) h4 w2) (wn (s.setVm vm0) h4) (mvT (s := s.setVm vm0) h4 w3) (mvT (s := s.setVm vm0) h4 w4) hy (M.backS (W := W) hM.2.1 h4 wc wz hf hl h7.1 (fun x hx => h8 x (hsf x hx))) qa qc (g := mkF m pc L st) rfl (by rw [hM.2.2.2.1]; exact hL) (Steps.refl _) hlen hst (by show 2 * 0 + _ ≤ _; omega) (H.dec hd) (fun _ _ => ⟨rfl, h1, hc, hsl⟩)
  rw [h1] at hg
  exact Go.tr st' (k _ _ v so (H.behind (vm₁ := vm₁) h2 h3 h4 h5 h6 h7 h8 h9 X' hS hg r1 r2 r3 r4 r5 r6 r7 rO) q1)
theorem nf_sel {y : MethodName} {D : String} (w : (Cond.selects D y y).before a0 Z = true) : ∀ s' : State, Z.Warmed39 s'.vm → NotFace s' y := fun s' hZ => notFace_of_selects (args := #[]) (mvT (s := s') hZ w)
theorem own_and255 (x : Int32) : ¬ (x &&& 255) < 0 ∧ ¬ (255 : Int32) < (x &&& 255) := by
  have h : (x &&& 255).toBitVec.toNat < 256 := by
    simp only [Int32.toBitVec_and, BitVec.toNat_and]
    exact Nat.lt_succ_of_le Nat.and_le_right
  have h2 : (x &&& 255).toInt = ((x &&& 255).toBitVec.toNat : Int) := by
    show (x &&& 255).toBitVec.toInt = _
    rw [BitVec.toInt_eq_toNat_of_lt (by omega)]
  rw [Int32.lt_iff_toInt_lt, Int32.lt_iff_toInt_lt, h2]
  have e0 : (0 : Int32).toInt = 0 := rfl
  have e1 : (255 : Int32).toInt = 255 := rfl
  omega
theorem own_u16 {x : Int32} (h : ¬ x < 0 ∧ ¬ (255 : Int32) < x) : ¬ x < 0 ∧ ¬ (65535 : Int32) < x := by
  obtain ⟨h0, h1⟩ := h
  rw [Int32.lt_iff_toInt_lt] at h0 h1
  refine ⟨by rw [Int32.lt_iff_toInt_lt]; exact h0, ?_⟩
  rw [Int32.lt_iff_toInt_lt]
  have e1 : (255 : Int32).toInt = 255 := rfl
  have e2 : (65535 : Int32).toInt = 65535 := rfl
  omega
theorem own_c16 {x : Int32} (h : ¬ x < 0 ∧ ¬ (65535 : Int32) < x) : x.toUInt32.toUInt16.toUInt32.toInt32 = x := by
  obtain ⟨h0, h1⟩ := h
  rw [Int32.lt_iff_toInt_lt] at h0 h1
  have e0 : (0 : Int32).toInt = 0 := rfl
  have e2 : (65535 : Int32).toInt = 65535 := rfl
  have hb : x.toBitVec.toNat < 65536 := by
    have q : x.toBitVec.toInt = x.toInt := rfl
    have r := BitVec.toInt_eq_toNat_cond x.toBitVec
    split at r <;> omega
  apply Int32.toBitVec_inj.mp
  apply BitVec.eq_of_toNat_eq
  have e : x.toUInt32.toUInt16.toUInt32.toInt32.toBitVec.toNat = x.toUInt32.toUInt16.toUInt32.toNat := rfl
  rw [e, UInt16.toNat_toUInt32, UInt32.toNat_toUInt16]
  show x.toBitVec.toNat % 2 ^ 16 = _
  omega
theorem own_narC {x : Int32} (h : ¬ x < 0 ∧ ¬ (65535 : Int32) < x) : nar .char x = x := own_c16 h
theorem own_rem {x : Int32} {k : Int32} (hk : 0 < k.toInt) : 0 ≤ ((x &&& 2147483647) % k).toInt ∧ ((x &&& 2147483647) % k).toInt < k.toInt := by
  have h : (x &&& 2147483647).toBitVec.toNat < 2 ^ 31 := by
    simp only [Int32.toBitVec_and, BitVec.toNat_and]
    exact Nat.lt_of_le_of_lt Nat.and_le_right (by decide)
  have h2 : (x &&& 2147483647).toInt = ((x &&& 2147483647).toBitVec.toNat : Int) := by
    show (x &&& 2147483647).toBitVec.toInt = _
    rw [BitVec.toInt_eq_toNat_of_lt (by omega)]
  rw [Int32.toInt_mod, h2]
  exact ⟨Int.tmod_nonneg _ (by omega), Int.tmod_lt_of_pos _ hk⟩
theorem own_narB (x : Int32) : nar .byte x.toInt8.toInt32 = x.toInt8.toInt32 := by
  show x.toInt8.toInt32.toInt8.toInt32 = _
  simp
theorem mG {α : Type} {L : List α} {a : α} {i : Nat} (q : L[i]? = some a) : a ∈ L := List.mem_of_getElem? q
theorem lB {n m : Nat} (q : Nat.ble n m = true := by rfl) : n ≤ m := Nat.le_of_ble_eq_true q
theorem cb0 : ∀ c ∈ ([] : List Int32), ¬ c < 0 ∧ ¬ (255 : Int32) < c := fun _ q => nomatch q
theorem cbS {x : Int32} {xs : List Int32} (q : ¬ x < 0 ∧ ¬ (255 : Int32) < x) (r : ∀ c ∈ xs, ¬ c < 0 ∧ ¬ (255 : Int32) < c) : ∀ c ∈ x :: xs, ¬ c < 0 ∧ ¬ (255 : Int32) < c := fun c hc => by
  rcases List.mem_cons.mp hc with rfl | hc
  · exact q
  · exact r c hc
/-- a Latin-1 String and its bytes -/
def Str (Z : State) (h : Heap) (a t : Addr) (kb : ClassId) (cs : List Int32) : Prop :=
  Exa Z h a "java/lang/String" ∧ Fld Z h a "java/lang/String" "coder" "B" (.int 0) ∧ Fld Z h a "java/lang/String" "value" "[B" (.ref t) ∧ Arv Z h t kb .byte (Int32.ofNat cs.length) (cs.map fun c => Value.int c.toInt8.toInt32) (.int 0) ∧ (∀ c ∈ cs, ¬ c < 0 ∧ ¬ (255 : Int32) < c) ∧ cs.length ≤ 4000
theorem Str.ext {h' : Heap} {a t : Addr} {kb : ClassId} {cs : List Int32} (E : Ext h h') (F : Str Z h a t kb cs) : Str Z h' a t kb cs := ⟨F.1.ext E, F.2.1.ext E, F.2.2.1.ext E, F.2.2.2.1.ext E, F.2.2.2.2⟩
theorem Str.keep {h' : Heap} {a t : Addr} {kb : ClassId} {cs : List Int32} {ws : List Addr} (F : Str Z h a t kb cs) (K : Keep h h' ws) (q : a ∉ ws) (r : t ∉ ws) : Str Z h' a t kb cs := ⟨F.1.keep K, F.2.1.keep K q, F.2.2.1.keep K q, F.2.2.2.1.keep K r, F.2.2.2.2⟩
theorem Str.other {h' : Heap} {a t w : Addr} {sl : Nat} {v : Value} {kb : ClassId} {cs : List Int32} (W : Wr h h' w sl v) (F : Str Z h a t kb cs) (q : a ≠ w) (r : t ≠ w) : Str Z h' a t kb cs := ⟨F.1.wr W, F.2.1.other W (Or.inl q), F.2.2.1.other W (Or.inl q), F.2.2.2.1.other W r, F.2.2.2.2⟩
theorem own_fldeq {args : Array Value} {t : Term} {K n d : String} {i : Int32} {x : Addr} (ev : t.eval args Z none [] Z = some (.ref x)) (hq : (Cond.eq (Term.field t K n d) (Term.int i)).value args Z none Z [] = some true) : Fld Z Z.heap x K n d (.int i) := by
  obtain ⟨u, w, hu, hw, k1, k2⟩ := cmp_v (Or.inl hq)
  have e1 : (Term.int i).eval args Z none [] Z = some (.int i) := Term.int_eval i
  cases e1.symm.trans hw
  obtain ⟨z, rfl⟩ := k2
  have e2 : z = i := gotT (Cond.eq_ints hu e1) hq
  subst e2
  exact Fld.start ((fld_at ev).symm.trans hu)
theorem G.pureV (H : Hs p l e R s m args below meth c Z a0 EL cw own n0 bytes maxL ret nm T h C S sf) {y z : MethodName} {D : String} {Qv : Option Value → Prop} {as' : Array Value} {W : Nat} (hB : ∀ s' : State, Z.Warmed39 s'.vm → Back l R p e below s' args z 3 W (fun P a => a = as' ∧ P.U.heap = h ∧ P.cells + 0 ≤ R.cells ∧ P.slots + 0 ≤ R.slots) (fun P _ v B => ∃ L, (Qv v ∧ L = [] ∧ B.U.heap = h) ∧ B.locs = P.locs ++ L ∧ B.cells = P.cells + 0 ∧ B.slots = P.slots + 0))
    {index : Nat} (w1 : (Cond.methodLink own index y).before a0 Z = true) (w2 : (Cond.declares y).before a0 Z = true) (wn : ∀ s' : State, Z.Warmed39 s'.vm → NotFace s' y) (w3 : (Cond.selects D y z).before a0 Z = true) (w4 : (Cond.instanceMethod z).before a0 Z = true) (hy : y.cls ≠ "java/lang/invoke/MethodHandle" ∧ y.cls ≠ "java/lang/invoke/VarHandle")
    {a : Addr} (E : Exa Z h a D) {argsL rest st : List Value} {pc J : Nat} {L : Array Slot} (hL : L.size = maxL) (has : (Value.ref a :: argsL).toArray = as') (hlen : ∀ sig, parseMethodDescriptor y.desc = some sig → argsL.length = sig.parameters.length) (hst : st = argsL.reverse ++ .ref a :: rest) (hW : (rest.map fun v => v.category).sum = W) (hd : decode bytes pc = .ok (.invokevirtual index, 3)) (hp : pc + 3 = J) (hc : C ≤ R.cells) (hsl : S ≤ R.slots)
    (k : ∀ T' v, Hs p l e R s m args below meth c Z a0 EL cw own n0 bytes maxL ret nm T' h C S sf → Qv v → Go p e below P (T'.setTop (mkF m J L (v.toList ++ rest)))) : Go p e below P (T.setTop (mkF m pc L st)) := by
  subst hp; subst has
  obtain ⟨hM, vm0, k0, locs, X, h1, h2, h3, h4, h5, h6, h7, h8, h9, hO⟩ := id H
  obtain ⟨cq, kq, qa, qb, qc⟩ := isOf (s := s.setVm vm0) h4 h1 E
  obtain ⟨v, vm₁, B, hw, X', ⟨L', ⟨q1, q2, q3⟩, r2, r3, r4⟩, st'⟩ := X.virtualBack H.exec h5 (mvT (s := s.setVm vm0) h4 w1) (mvT (s := s.setVm vm0) h4 w2) (wn (s.setVm vm0) h4) (mvT (s := s.setVm vm0) h4 w3) (mvT (s := s.setVm vm0) h4 w4) hy (hB (s.setVm vm0) h4) qa qc (g := mkF m pc L st) rfl (by rw [hM.2.2.2.1]; exact hL) (Steps.refl _) hlen hst (by show 2 * 0 + _ ≤ _; omega) (H.dec hd) (fun _ _ => ⟨rfl, h1, hc, hsl⟩)
  subst q2
  refine Go.tr st' (k B.U v ⟨hM, vm0, k0, locs, ?_, q3, h2, h3, h4, h5, h6, h7, h8, h9, hO⟩ q1)
  have e1 : B.locs = locs := by rw [r2]; exact List.append_nil _
  have e2 : B.cells = C := r3
  have e3 : B.slots = S := r4
  rw [← e1, ← e2, ← e3]; exact X'
theorem G.callVU (H : Hs p l e R s m args below meth c Z a0 EL cw own n0 bytes maxL ret nm T h C S sf) {y z : MethodName} {D owner : String} {yb : ByteArray} {ym : Nat} {yr : Option FieldType} {rm : Room} {as' : Array Value} {sfI : List Addr} {Q : Option Value → Heap → List Addr → Prop} (M : Met Z a0 EL cw n0 l z yb ym yr rm as' h sfI Q) {index : Nat} (w1 : (Cond.methodLink own index y).before a0 Z = true) (w5 : (Cond.sameMethod y.cls owner y.name y.desc).before a0 Z = true) (w2 : (Cond.declares ⟨owner, y.name, y.desc⟩).before a0 Z = true) (how : owner ≠ "java/lang/invoke/MethodHandle" ∧ owner ≠ "java/lang/invoke/VarHandle") (w3 : (Cond.selects D y z).before a0 Z = true) (w4 : (Cond.instanceMethod z).before a0 Z = true) (wz : (Cond.initialized z.cls).before a0 Z = true) (wc : (Cond.code z yb ym yr).before a0 Z = true)
    {a : Addr} (E : Exa Z h a D) {argsL rest st : List Value} {W : Nat} {pc J : Nat} {L : Array Slot} (hL : L.size = maxL) (has : (Value.ref a :: argsL).toArray = as') (hlen : ∀ sig, parseMethodDescriptor y.desc = some sig → argsL.length = sig.parameters.length) (hst : st = argsL.reverse ++ .ref a :: rest) (hW : (rest.map fun v => v.category).sum = W) (hd : decode bytes pc = .ok (.invokevirtual index, 3)) (hp : pc + 3 = J) (hf : rm.frames + 1 ≤ R.frames) (hl : W + (ym + 11) + rm.locals ≤ R.locals) (hc : C + rm.cells ≤ R.cells) (hsl : S + rm.slots ≤ R.slots) (hsf : ∀ x ∈ sfI, x ∈ sf)
    (k : ∀ T' h' v so, Hs p l e R s m args below meth c Z a0 EL cw own n0 bytes maxL ret nm T' h' (C + rm.cells) (S + rm.slots) (so ++ sf) → Q v h' so → Go p e below P (T'.setTop (mkF m J L (v.toList ++ rest)))) : Go p e below P (T.setTop (mkF m pc L st)) := by
  subst hp; subst has
  obtain ⟨hM, vm0, k0, locs, X, h1, h2, h3, h4, h5, h6, h7, h8, h9, hO⟩ := id H
  obtain ⟨cq, kq, qa, qb, qc⟩ := isOf (s := s.setVm vm0) h4 h1 E
  obtain ⟨v, vm₁, B, hw, X', hS, hg, ⟨L', so, q1, rO, r1, r2, r3, r4, r5, r6, r7⟩, st'⟩ := virtualBackUpS X H.exec h5 (mvT (s := s.setVm vm0) h4 w1) (mvT (s := s.setVm vm0) h4 w5) (mvT (s := s.setVm vm0) h4 w2) how (mvT (s := s.setVm vm0) h4 w3) (mvT (s := s.setVm vm0) h4 w4) (M.backS (W := W) hM.2.1 h4 wc wz hf hl h7.1 (fun x hx => h8 x (hsf x hx))) qa qc (g := mkF m pc L st) rfl (by rw [hM.2.2.2.1]; exact hL) (Steps.refl _) hlen hst (by show 2 * 0 + _ ≤ _; omega) (H.dec hd) (fun _ _ => ⟨rfl, h1, hc, hsl⟩)
  rw [h1] at hg
  exact Go.tr st' (k _ _ v so (H.behind (vm₁ := vm₁) h2 h3 h4 h5 h6 h7 h8 h9 X' hS hg r1 r2 r3 r4 r5 r6 r7 rO) q1)

theorem G.clone (H : Hs p l e R s m args below meth c Z a0 EL cw own n0 bytes maxL ret nm T h C S sf) {ad : String} {index : Nat} (w1 : (Cond.methodLink own index ⟨ad, "clone", "()Ljava/lang/Object;"⟩).before a0 Z = true) (w2 : (Cond.sameMethod ad "java/lang/Object" "clone" "()Ljava/lang/Object;").before a0 Z = true) (w3 : (Cond.native ⟨"java/lang/Object", "clone", "()Ljava/lang/Object;"⟩).before a0 Z = true) (w4 : (Cond.instanceMethod ⟨"java/lang/Object", "clone", "()Ljava/lang/Object;"⟩).before a0 Z = true) (w5 : (Cond.selects ad ⟨ad, "clone", "()Ljava/lang/Object;"⟩ ⟨"java/lang/Object", "clone", "()Ljava/lang/Object;"⟩).before a0 Z = true) (w6 : (Cond.castable ad "java/lang/Cloneable").before a0 Z = true)
    {a : Addr} {kc : ClassId} {ty : FieldType} {z : Int32} {vs : List Value} {dv : Value} (A : Arv Z h a kc ty z vs dv) (E : Exa Z h a ad) {st : List Value} {W cap : Nat} {pc J : Nat} {L : Array Slot} (hL : L.size = maxL) (hW : (st.map fun v => v.category).sum = W) (hd : decode bytes pc = .ok (.invokevirtual index, 3)) (hp : pc + 3 = J) (hf : 1 ≤ R.frames) (hl : W + 14 ≤ R.locals) (hcap : z.toNatClampNeg ≤ cap) (hc : C + 1 ≤ R.cells) (hsl : S + cap ≤ R.slots)
    (k : ∀ T' h' b, b = h.size → Hs p l e R s m args below meth c Z a0 EL cw own n0 bytes maxL ret nm T' h' (C + 1) (S + cap) (b :: sf) → Ext h h' → Arv Z h' b kc ty z vs dv → Exa Z h' b ad → Go p e below P (T'.setTop (mkF m J L (.ref b :: st)))) : Go p e below P (T.setTop (mkF m pc L (.ref a :: st))) := by
  subst hp
  obtain ⟨hM, vm0, k0, locs, X, h1, h2, h3, h4, h5, h6, h7, h8, h9, hO⟩ := id H
  obtain ⟨T', h', X', e', Ex, A', E', st'⟩ := RoadKit.cloneH X H.exec h4 h5 w1 w2 w3 w4 w5 w6 h1 A.arh E (g := mkF m pc L (.ref a :: st)) rfl (by rw [hM.2.2.2.1]; exact hL) rfl (H.dec hd) hf (W := W) (by show 2 * 0 + _ ≤ _; omega) hl hcap hc hsl
  exact Go.st st' (k T' h' _ rfl (H.ext X' e' Ex h2 h3 h4 h5 h6 h7 h8 h9 hO E'.lt) Ex A' E')
theorem G.copy (H : Hs p l e R s m args below meth c Z a0 EL cw own n0 bytes maxL ret nm T h C S sf) {index : Nat} (w1 : (Cond.methodLink own index Jvm.Stand.acN).before a0 Z = true) (w2 : (Cond.native Jvm.Stand.acN).before a0 Z = true) (w3 : (Cond.static Jvm.Stand.acN).before a0 Z = true) (w4 : (Cond.initialized "java/lang/System").before a0 Z = true)
    {a b : Addr} {kc kc' : ClassId} {ty ty' : FieldType} {z z' sp dp nn : Int32} {vs vd us : List Value} {dv dd : Value} (A : Arv Z h a kc ty z vs dv) (B : Arv Z h b kc' ty' z' vd dd) (hty : (ty = ty' ∧ refKind ty = false) ∨ (refKind ty = true ∧ refKind ty' = true ∧ StoL Z h b us)) (g1 : ¬ sp < 0) (g2 : ¬ dp < 0) (g3 : ¬ nn < 0) (g4 : sp.toNatClampNeg + nn.toNatClampNeg ≤ z.toNatClampNeg) (g5 : dp.toNatClampNeg + nn.toNatClampNeg ≤ z'.toNatClampNeg) (hus : us = (List.range nn.toNatClampNeg).map fun i => vs.getD (sp.toNatClampNeg + i) dv) (hlen : dp.toNatClampNeg + nn.toNatClampNeg ≤ vd.length) {vr : List Value} (hvr : vd.take dp.toNatClampNeg ++ us ++ vd.drop (dp.toNatClampNeg + nn.toNatClampNeg) = vr) (hq : n0 ≤ b) (hsf : Sf Z EL h sf b)
    {st : List Value} {W : Nat} {pc J : Nat} {L : Array Slot} (hL : L.size = maxL) (hW : (st.map fun v => v.category).sum = W) (hd : decode bytes pc = .ok (.invokestatic index, 3)) (hp : pc + 3 = J) (hf : 1 ≤ R.frames) (hl : W + (nativeFrameWords "java/lang/System" "arraycopy" 5 + 11) ≤ R.locals)
    (k : ∀ T' h', Hs p l e R s m args below meth c Z a0 EL cw own n0 bytes maxL ret nm T' h' C S sf → Keep h h' [b] → Arv Z h' b kc' ty' z' vr dd → Go p e below P (T'.setTop (mkF m J L st))) : Go p e below P (T.setTop (mkF m pc L (.int nn :: .int dp :: .ref b :: .int sp :: .ref a :: st))) := by
  subst hp; subst hvr
  obtain ⟨hM, vm0, k0, locs, X, h1, h2, h3, h4, h5, h6, h7, h8, h9, hO⟩ := id H
  obtain ⟨T', h', L', X', e', F', K', B', st'⟩ := RoadKit.cpA X H.exec h4 h5 w1 w2 w3 w4 h1 A B hty g1 g2 g3 g4 g5 hus hlen h6 hq (g := mkF m pc L (.int nn :: .int dp :: .ref b :: .int sp :: .ref a :: st)) rfl (by rw [hM.2.2.2.1]; exact hL) rfl (H.dec hd) hf (W := W) (by show 2 * 0 + _ ≤ _; omega) hl
  have sx : ∀ y ∈ [b], Safe Z EL vm0 h y := fun y hy => by rw [List.mem_singleton.mp hy]; exact hsf.safe h4 h8
  exact Go.st st' (k T' h' ⟨hM, vm0, k0, L', X', e', h2, Nat.le_trans h3 K'.1, h4, h5, F', h7.trans (CHr.keep K' sx h7.1), fun y hy => ⟨Nat.lt_of_lt_of_le (h8 y hy).1 K'.1, Safe.keep K' sx h7.1 (h8 y hy).2⟩, h9, hO.keep K' (fun y hy => by rw [List.mem_singleton.mp hy]; exact hq)⟩ K' B')
theorem Met.back {y : MethodName} {rm : Room} {as' : Array Value} {sfI : List Addr} {Q : Option Value → Heap → List Addr → Prop} {vm0 : Vm} {len W : Nat} (M : Met Z a0 EL False n0 l y bytes maxL ret rm as' h sfI Q) (hEL : EW Z a0 EL) (hZ : Z.Warmed39 vm0) (wc : (Cond.code y bytes maxL ret).before a0 Z = true) (wz : (Cond.initialized y.cls).before a0 Z = true) (hf : rm.frames + 1 ≤ R.frames) (hl : W + (maxL + 11) + rm.locals ≤ R.locals) (H : CHv Z EL vm0 h) (hs : ∀ x ∈ sfI, x < h.size ∧ Safe Z EL vm0 h x) :
    Back l R p e below (s.setVm vm0) args y len W (fun A a => a = as' ∧ A.U.heap = h ∧ A.cells + rm.cells ≤ R.cells ∧ A.slots + rm.slots ≤ R.slots)
      (fun A _ v B => ∃ L so, Q v B.U.heap so ∧ Old Z n0 B.U.heap ∧ Fr n0 L ∧ B.locs = A.locs ++ L ∧ B.cells = A.cells + rm.cells ∧ B.slots = A.slots + rm.slots ∧ CHr Z EL vm0 h B.U.vm B.U.heap ∧ (∀ x ∈ so, x < B.U.heap.size ∧ Safe Z EL B.U.vm B.U.heap x)) :=
  Back.of_free (bytes := bytes) (maxL := maxL) (ret := ret)
    (E := fun _ first o t L k n => k = rm.cells ∧ n = rm.slots ∧ ∃ v so, o = .returned v ∧ Q v t.heap so ∧ Old Z n0 t.heap ∧ Fr n0 L ∧ CHr Z EL first.vm first.heap t.vm t.heap ∧ (∀ x ∈ so, x < t.heap.size ∧ Safe Z EL t.vm t.heap x))
    (M []) hf hl
    (fun m meth c A a Y hp => have hU : Z.Warmed39 A.U.vm := wtrans (s := s.setVm vm0) hZ Y.warmed
      ⟨by show (Cond.and _ .tt).before a A.U = true; rw [Cond.before_and, mv hU wc]; rfl, mv hU wc, mv hU wz, hp.2.2.1, hp.2.2.2⟩)
    (fun m meth c A a g mk Y hp => by
      have A1 := CHv.at Y hZ hEL H
      exact ⟨hp.1, wtrans (s := s.setVm vm0) hZ Y.warmed, hp.2.1, A1.1, fun x hx => ⟨(hs x hx).1, A1.safe (hs x hx).1 (hs x hx).2⟩⟩)
    (fun _ _ _ _ _ _ _ _ _ => trivial)
    (fun _ _ _ _ ⟨v, L, so, h1, h2, hO, h3, h4, h5, h6, h7⟩ => ⟨L, _, _, h7.resolve_left (fun q => q), rfl, rfl, v, so, h1, h2, hO, h3, h4, h5⟩)
    (fun m meth c A a g mk v t L k n Y hp _ _ ⟨e1, e2, v', so, e3, e4, eO, e5, e6, e7⟩ => by
      cases e3; subst e1 e2
      refine ⟨L, so, e4, eO, e5, rfl, rfl, rfl, (CHv.at Y hZ hEL H).trans ?_, e7⟩
      rw [← hp.2.1]; exact e6)
theorem decl_of {y : MethodName} {yb : ByteArray} {ym : Nat} {yr : Option FieldType} (w1 : (Cond.instanceMethod y).before a0 Z = true) (w2 : (Cond.code y yb ym yr).before a0 Z = true) : (Cond.declares y).before a0 Z = true := by
  obtain ⟨mk, meth, h1, h2, h3, -⟩ := Cond.instanceMethod_spec w1
  obtain ⟨meth', c', g1, -, -, -, -, -, -, g8⟩ := Cond.code_spec h1 w2
  cases h2.symm.trans g1
  simp [Cond.before, Cond.holds, Cond.value, h1, h2, h3, g8]
theorem G.callSup (H : Hs p l e R s m args below meth c Z a0 EL cw own n0 bytes maxL ret nm T h C S sf) {z : MethodName} {K : String} {yb : ByteArray} {ym : Nat} {yr : Option FieldType} {rm : Room} {as' : Array Value} {sfI : List Addr} {Q : Option Value → Heap → List Addr → Prop} (M : Met Z a0 EL cw n0 l z yb ym yr rm as' h sfI Q) {index : Nat} (w1 : (Cond.methodLink own index z).before a0 Z = true) (w2 : (Cond.sameMethod z.cls z.cls z.name z.desc).before a0 Z = true) (w3 : (Cond.instanceMethod z).before a0 Z = true) (w4 : (Cond.superclass own z.cls).before a0 Z = true) (hn : z.name ≠ "<init>") (wz : (Cond.initialized z.cls).before a0 Z = true) (wc : (Cond.code z yb ym yr).before a0 Z = true)
    {a : Addr} (F : Ins Z h a K true) {argsL rest st : List Value} {W : Nat} {pc J : Nat} {L : Array Slot} (hL : L.size = maxL) (has : (Value.ref a :: argsL).toArray = as') (hlen : ∀ sig, parseMethodDescriptor z.desc = some sig → argsL.length = sig.parameters.length) (hst : st = argsL.reverse ++ .ref a :: rest) (hW : (rest.map fun v => v.category).sum = W) (hd : decode bytes pc = .ok (.invokespecial index, 3)) (hp : pc + 3 = J) (hf : rm.frames + 1 ≤ R.frames) (hl : W + (ym + 11) + rm.locals ≤ R.locals) (hc : C + rm.cells ≤ R.cells) (hsl : S + rm.slots ≤ R.slots) (hsf : ∀ x ∈ sfI, x ∈ sf)
    (k : ∀ T' h' v so, Hs p l e R s m args below meth c Z a0 EL cw own n0 bytes maxL ret nm T' h' (C + rm.cells) (S + rm.slots) (so ++ sf) → Q v h' so → Go p e below P (T'.setTop (mkF m J L (v.toList ++ rest)))) : Go p e below P (T.setTop (mkF m pc L st)) := by
  subst hp; subst has
  obtain ⟨hM, vm0, k0, locs, X, h1, h2, h3, h4, h5, h6, h7, h8, h9, hO⟩ := id H
  obtain ⟨v, vm₁, B, hw, X', hS, hg, ⟨L', so, q1, rO, r1, r2, r3, r4, r5, r6, r7⟩, st'⟩ := superBackS X H.exec h4 h5 w1 w2 w3 w4 hn (M.backS (W := W) hM.2.1 h4 wc wz hf hl h7.1 (fun x hx => h8 x (hsf x hx))) h1 F (g := mkF m pc L st) rfl (by rw [hM.2.2.2.1]; exact hL) wc hlen hst (by show 2 * 0 + _ ≤ _; omega) (H.dec hd) (fun _ _ => ⟨rfl, h1, hc, hsl⟩)
  rw [h1] at hg
  exact Go.tr st' (k _ _ v so (H.behind (vm₁ := vm₁) h2 h3 h4 h5 h6 h7 h8 h9 X' hS hg r1 r2 r3 r4 r5 r6 r7 rO) q1)
theorem nf_sib {y x' z' : MethodName} {D : String} (w : (Cond.selects D x' z').before a0 Z = true) (hc : z'.cls = y.cls) : ∀ s' : State, Z.Warmed39 s'.vm → NotFace s' y := fun s' hZ r0 h0 => by
  obtain ⟨c2, r2, m2, q1, q2, q3, q4, kP, hkP, hkPi⟩ := Cond.selects_spec (mvT (s := s') (args := #[]) hZ w)
  have e1 := findClass_of_methodNamed h0
  have e2 := findClass_of_methodNamed q3
  rw [hc, e1] at e2
  have e3 : r0.cls = m2.cls := Option.some.inj e2
  exact ⟨kP, by rw [e3]; exact hkP, hkPi⟩
theorem same_of {y x' z' : MethodName} {D : String} (w : (Cond.declares y).before a0 Z = true) (ws : (Cond.selects D x' z').before a0 Z = true) (hc : z'.cls = y.cls) (hy : y.cls ≠ "java/lang/invoke/MethodHandle" ∧ y.cls ≠ "java/lang/invoke/VarHandle") : (Cond.sameMethod y.cls y.cls y.name y.desc).before a0 Z = true := by
  obtain ⟨mk, meth, h1, h2, -, -⟩ := Cond.declares_spec w
  have h3 := State.methodFound?_of_named h1 hy
  have h4 : Z.methodNamed? ⟨y.cls, y.name, y.desc⟩ = some mk := h1
  obtain ⟨kr, g1, g2⟩ := nf_sib ws hc Z (State.Warmed39.refl Z) mk h1
  have h5 := findClass_of_methodNamed h1
  simp [Cond.before, Cond.holds, Cond.value, h3, h4, h5, g1, g2]
end Kit
end Jvm.OwnKit
/- laws to paste: Road.backV, Road.eqW (cut by pick.py; bodies as the Statement names them) -/
namespace Jvm.Pilot.@@N@@
namespace StrChars
open Jvm Sem ClassFile Op Lib Jvm.Stand Jvm.Free.XT Jvm.Free.ALB Jvm.Free.JM Jvm.Free
open Jvm.Lib.Cold (StaticIs)
/-- a char array whose places are chars -/
def Ch (a : Addr) (A : Cell) (U : State) : Prop := Arr .char a A U ∧ Typed .char A
theorem Ch.mv {a : Addr} {A : Cell} {U U' : State} (h : Ch a A U) (hal : U.vm.Alike U'.vm) (hh : U'.heap = U.heap) : Ch a A U' := ⟨h.1.mv hal hh, h.2⟩
theorem Ch.keep {a : Addr} {A : Cell} {U U' : State} (h : Ch a A U) (hal : U.vm.Alike U'.vm) (hk : U'.heap[a]? = some A) : Ch a A U' := ⟨h.1.keep hal hk, h.2⟩
/-- what place i of a char[]'s cell holds -/
def cv (A : Cell) (i : Nat) : Int32 := match A.slots[i]? with | some (.int x) => x | _ => 0
theorem Ch.get {a : Addr} {A : Cell} {U : State} (h : Ch a A U) {i : Nat} (hi : i < A.slots.size) : A.slots[i]? = some (.int (cv A i)) := by
  have e := Array.getElem?_eq_getElem hi
  have f := h.2 i _ e
  unfold cv; rw [e]
  generalize A.slots[i] = v at f
  cases v <;> simp [fits] at f ⊢
/-- the byte that i2b leaves of a char -/
def lo8 (x : Int32) : Int32 := x.toInt8.toInt32
theorem fits_lo8 (y : Int32) : fits .byte (.int (lo8 y)) = true := by
  have h1 := y.toInt8.le_toInt
  have h2 := y.toInt8.toInt_lt
  simp only [lo8, fits, Bool.and_eq_true, decide_eq_true_eq, Int32.le_iff_toInt_le, Int8.toInt_toInt32, show (-128 : Int32).toInt = -128 from by decide, show (127 : Int32).toInt = 127 from by decide]
  omega
/-- A' is A but that each place j of lo .. hi - 1 holds f j -/
def Laid (A A' : Cell) (lo hi : Nat) (f : Nat → Value) : Prop := A'.cls = A.cls ∧ A'.vm = A.vm ∧ A'.slots.size = A.slots.size ∧ ∀ i, A'.slots[i]? = if lo ≤ i ∧ i < hi then some (f i) else A.slots[i]?
theorem Laid.zero (A : Cell) (lo : Nat) (f : Nat → Value) : Laid A A lo (lo + 0) f := ⟨rfl, rfl, rfl, fun i => by rw [if_neg (by omega)]⟩
theorem Laid.step {A Ak : Cell} {lo k : Nat} {f : Nat → Value} {v : Value} (h : Laid A Ak lo k f) (hlo : lo ≤ k) (hk : k < Ak.slots.size) (hv : v = f k) : Laid A (Ak.setSlot k v) lo (k + 1) f := by
  refine ⟨h.1, h.2.1, by simpa [Cell.setSlot] using h.2.2.1, fun i => ?_⟩
  by_cases e : k = i
  · subst e; rw [Cell.slots_setSlot_self v hk, if_pos (by omega), hv]
  · rw [Cell.slots_setSlot_ne v e, h.2.2.2 i]
    by_cases q : lo ≤ i ∧ i < k
    · rw [if_pos q, if_pos (by omega)]
    · rw [if_neg q, if_neg (by omega)]
def U16 : String := "java/lang/StringUTF16"
namespace Cmp5
def yN : MethodName := ⟨"java/lang/StringUTF16", "compress", "([CI[BII)I"⟩
abbrev yB : ByteArray := jdk_52_method_21_code
theorem d0 : decode yB 0 = .ok (.iconst 0, 1) := by decide +kernel
theorem d1 : decode yB 1 = .ok (.istore 5, 2) := by decide +kernel
theorem d3 : decode yB 3 = .ok (.iload 5, 2) := by decide +kernel
theorem d5 : decode yB 5 = .ok (.iload 4, 2) := by decide +kernel
theorem d7 : decode yB 7 = .ok (.if_icmp (.ge) 37, 3) := by decide +kernel
theorem d10 : decode yB 10 = .ok (.aload_n 0, 1) := by decide +kernel
theorem d11 : decode yB 11 = .ok (.iload_n 1, 1) := by decide +kernel
theorem d12 : decode yB 12 = .ok (.caload, 1) := by decide +kernel
theorem d13 : decode yB 13 = .ok (.istore 6, 2) := by decide +kernel
theorem d15 : decode yB 15 = .ok (.iload 6, 2) := by decide +kernel
theorem d17 : decode yB 17 = .ok (.sipush 255, 3) := by decide +kernel
theorem d20 : decode yB 20 = .ok (.if_icmp (.le) 6, 3) := by decide +kernel
theorem d26 : decode yB 26 = .ok (.aload_n 2, 1) := by decide +kernel
theorem d27 : decode yB 27 = .ok (.iload_n 3, 1) := by decide +kernel
theorem d28 : decode yB 28 = .ok (.iload 6, 2) := by decide +kernel
theorem d30 : decode yB 30 = .ok (.i2b, 1) := by decide +kernel
theorem d31 : decode yB 31 = .ok (.bastore, 1) := by decide +kernel
theorem d32 : decode yB 32 = .ok (.iinc 1 1, 3) := by decide +kernel
theorem d35 : decode yB 35 = .ok (.iinc 3 1, 3) := by decide +kernel
theorem d38 : decode yB 38 = .ok (.iinc 5 1, 3) := by decide +kernel
theorem d41 : decode yB 41 = .ok (.goto (-38), 3) := by decide +kernel
theorem d44 : decode yB 44 = .ok (.iload 4, 2) := by decide +kernel
theorem d46 : decode yB 46 = .ok (.ireturn, 1) := by decide +kernel
def site : List Cond := []
def tab : Cond := tabOf yN yB 7 (some .int) site
def P (b : Addr) (A : Cell) (d : Addr) (B : Cell) (o q len : Nat) (args : Array Value) (s : State) : Prop := args = #[.ref b, .int (Int32.ofNat o), .ref d, .int (Int32.ofNat q), .int (Int32.ofNat len)] ∧ Ch b A s ∧ Arr .byte d B s ∧ b ≠ d ∧ o + len ≤ A.slots.size ∧ q + len ≤ B.slots.size ∧ ∀ i, i < len → ¬ 255 < cv A (o + i)
def E (b : Addr) (A : Cell) (d : Addr) (B : Cell) (o q len : Nat) (r : Option Value) (s u : State) : Prop := r = some (.int (Int32.ofNat len)) ∧ ∃ B', Put d B' s u ∧ Laid B B' q (q + len) (fun j => Value.int (lo8 (cv A (o + (j - q)))))
/-- no char of the range above 255: len; the places written hold each char's low byte -/
theorem law (l : Launch) (b : Addr) (A : Cell) (d : Addr) (B : Cell) (o q len : Nat) : Law l yN 5 5 0 0 yB 7 (some .int) site (P b A d B o q len) (E b A d B o q len) (copyLocs d q len) 0 0 := by
  refine Law.of_walk (plainFor_of_name (by decide +kernel)) (by decide +kernel) (by decide +kernel) (by decide) (fun _ _ h => by rw [h.1]; rfl) (fun _ U U' hal hh h => ⟨h.1, h.2.1.mv hal hh, h.2.2.1.mv hal hh, h.2.2.2⟩) (fun r U U' V V' h1 hal h2 h => ⟨h.1, h.2.elim fun B' q => ⟨B', q.1.mv h1 h2, q.2⟩⟩) ?_
  intro p e s m args below meth c s₁ X0 hexec hbytes hml hret hlk hnm hown hh0 W hP
  obtain ⟨rfl, hA, hB, hne, l1, l2, hp⟩ := hP
  have c1 : Steps p.tables e below (s₁.setTop (entryFrame m #[.ref b, .int (Int32.ofNat o), .ref d, .int (Int32.ofNat q), .int (Int32.ofNat len)] 7)) (s₁.setTop (mkF m 0 #[.val (.ref b), .val (.int (Int32.ofNat o)), .val (.ref d), .val (.int (Int32.ofNat q)), .val (.int (Int32.ofNat len)), .unset, .unset] [])) := entry rfl
  have hA0 := hA.1.mv X0.warmed.alike hh0
  have hB0 := hB.mv X0.warmed.alike hh0
  have a31 := hA.1.2.2.2
  have c2 : Steps p.tables e below (s₁.setTop (entryFrame m #[.ref b, .int (Int32.ofNat o), .ref d, .int (Int32.ofNat q), .int (Int32.ofNat len)] 7)) (s₁.setTop (mkF m 3 #[.val (.ref b), .val (.int (Int32.ofNat o)), .val (.ref d), .val (.int (Int32.ofNat q)), .val (.int (Int32.ofNat len)), .val (.int 0), .unset] [])) := c1.trans (by
    refine iconstV X0.here hexec rfl 0 (hb hbytes d0) (by decide) ?_
    refine XS.istore X0.here hexec rfl (hb hbytes d1) rfl rfl ?_
    exact Steps.refl _)
  have loop : ∀ (r i : Nat), i + r = len → ∀ (z : Slot), (z = .unset ∨ ∃ w, z = .val w ∧ w.category = 1) → ∀ (Tl : State) (Bk : Cell), Stand p l e { frames := 0, locals := 0, cells := 0, slots := 0 } s m #[.ref b, .int (Int32.ofNat o), .ref d, .int (Int32.ofNat q), .int (Int32.ofNat len)] below meth c Tl ([] ++ copyLocs d q i) 0 0 → Put d Bk s₁ Tl → Laid B Bk q (q + i) (fun j => Value.int (lo8 (cv A (o + (j - q))))) →
      Steps p.tables e below (s₁.setTop (entryFrame m #[.ref b, .int (Int32.ofNat o), .ref d, .int (Int32.ofNat q), .int (Int32.ofNat len)] 7)) (Tl.setTop (mkF m 3 #[.val (.ref b), .val (.int (Int32.ofNat (o + i))), .val (.ref d), .val (.int (Int32.ofNat (q + i))), .val (.int (Int32.ofNat len)), .val (.int (Int32.ofNat i)), z] [])) → ∃ (T' : State) (B' : Cell) (z' : Slot), Stand p l e { frames := 0, locals := 0, cells := 0, slots := 0 } s m #[.ref b, .int (Int32.ofNat o), .ref d, .int (Int32.ofNat q), .int (Int32.ofNat len)] below meth c T' ([] ++ copyLocs d q len) 0 0 ∧ Put d B' s₁ T' ∧ Laid B B' q (q + len) (fun j => Value.int (lo8 (cv A (o + (j - q))))) ∧
      Steps p.tables e below (s₁.setTop (entryFrame m #[.ref b, .int (Int32.ofNat o), .ref d, .int (Int32.ofNat q), .int (Int32.ofNat len)] 7)) (T'.setTop (mkF m 3 #[.val (.ref b), .val (.int (Int32.ofNat (o + len))), .val (.ref d), .val (.int (Int32.ofNat (q + len))), .val (.int (Int32.ofNat len)), .val (.int (Int32.ofNat len)), z'] [])) := by
    intro r
    induction r with
    | zero =>
      intro i hi z hz Tl Bk Xl pl fl cl
      have hil : i = len := by omega
      rw [hil] at Xl fl cl
      exact ⟨Tl, Bk, z, Xl, pl, fl, cl⟩
    | succ r ih =>
      intro i hi z hz Tl Bk Xl pl fl cl
      have all := X0.warmed.alike.symm.trans Xl.warmed.alike
      have hAl := hA0.keep all (pl.other hne hA0.1)
      have hBk := hB0.like all pl.1 fl.1 fl.2.1 fl.2.2.1
      have hlt : q + i < Bk.slots.size := by rw [fl.2.2.1]; omega
      have c3 : Steps p.tables e below (s₁.setTop (entryFrame m #[.ref b, .int (Int32.ofNat o), .ref d, .int (Int32.ofNat q), .int (Int32.ofNat len)] 7)) (Tl.setTop (mkF m 12 #[.val (.ref b), .val (.int (Int32.ofNat (o + i))), .val (.ref d), .val (.int (Int32.ofNat (q + i))), .val (.int (Int32.ofNat len)), .val (.int (Int32.ofNat i)), z] [.int (Int32.ofNat (o + i)), .ref b])) := cl.trans (by
        refine XS.iload Xl.here hexec rfl (hb hbytes d3) rfl ?_
        refine XS.iload Xl.here hexec rfl (hb hbytes d5) rfl ?_
        refine XS.icmpNo Xl.here hexec rfl (hb hbytes d7) rfl (ii_ge_f (lt32 (by omega) (by omega))) ?_
        refine XS.aloadN Xl.here hexec rfl (hb hbytes d10) rfl rfl ?_
        refine XS.iloadN Xl.here hexec rfl (hb hbytes d11) rfl ?_
        exact Steps.refl _)
      have c4 : Steps p.tables e below (s₁.setTop (entryFrame m #[.ref b, .int (Int32.ofNat o), .ref d, .int (Int32.ofNat q), .int (Int32.ofNat len)] 7)) (Tl.setTop (mkF m 13 #[.val (.ref b), .val (.int (Int32.ofNat (o + i))), .val (.ref d), .val (.int (Int32.ofNat (q + i))), .val (.int (Int32.ofNat len)), .val (.int (Int32.ofNat i)), z] [.int (cv A (o + i))])) := c3.trans (by
        refine Xl.aget hexec hAl rfl (hA.get (i := o + i) (by omega)) rfl rfl (hb hbytes d12) ?_
        exact Steps.refl _)
      have c5 : Steps p.tables e below (s₁.setTop (entryFrame m #[.ref b, .int (Int32.ofNat o), .ref d, .int (Int32.ofNat q), .int (Int32.ofNat len)] 7)) (Tl.setTop (mkF m 15 #[.val (.ref b), .val (.int (Int32.ofNat (o + i))), .val (.ref d), .val (.int (Int32.ofNat (q + i))), .val (.int (Int32.ofNat len)), .val (.int (Int32.ofNat i)), .val (.int (cv A (o + i)))] [])) := c4.trans (by
        refine XS.istoreS Xl.here hexec rfl (hb hbytes d13) rfl rfl hz ?_
        exact Steps.refl _)
      have c6 : Steps p.tables e below (s₁.setTop (entryFrame m #[.ref b, .int (Int32.ofNat o), .ref d, .int (Int32.ofNat q), .int (Int32.ofNat len)] 7)) (Tl.setTop (mkF m 31 #[.val (.ref b), .val (.int (Int32.ofNat (o + i))), .val (.ref d), .val (.int (Int32.ofNat (q + i))), .val (.int (Int32.ofNat len)), .val (.int (Int32.ofNat i)), .val (.int (cv A (o + i)))] [.int (lo8 (cv A (o + i))), .int (Int32.ofNat (q + i)), .ref d])) := c5.trans (by
        refine XS.iload Xl.here hexec rfl (hb hbytes d15) rfl ?_
        refine sipushV Xl.here hexec rfl 255 (hb hbytes d17) (by decide) ?_
        refine XS.icmpYes Xl.here hexec rfl (pc0 := 20) rfl (hb hbytes d20) rfl (ii_le_t (hp i (by omega))) (by decide) rfl ?_
        refine XS.aloadN Xl.here hexec rfl (hb hbytes d26) rfl rfl ?_
        refine XS.iloadN Xl.here hexec rfl (hb hbytes d27) rfl ?_
        refine XS.iload Xl.here hexec rfl (hb hbytes d28) rfl ?_
        refine i2b Xl.here hexec rfl (hb hbytes d30) rfl ?_
        exact Steps.refl _)
      obtain ⟨T7, X7, p7, st7⟩ := Xl.aput hexec hBk rfl hlt rfl (fits_lo8 (cv A (o + i))) (g := (mkF m 31 #[.val (.ref b), .val (.int (Int32.ofNat (o + i))), .val (.ref d), .val (.int (Int32.ofNat (q + i))), .val (.int (Int32.ofNat len)), .val (.int (Int32.ofNat i)), .val (.int (cv A (o + i)))] [.int (lo8 (cv A (o + i))), .int (Int32.ofNat (q + i)), .ref d])) rfl (rest := []) rfl (hb hbytes d31)
      have c8 : Steps p.tables e below (s₁.setTop (entryFrame m #[.ref b, .int (Int32.ofNat o), .ref d, .int (Int32.ofNat q), .int (Int32.ofNat len)] 7)) (T7.setTop (mkF m 32 #[.val (.ref b), .val (.int (Int32.ofNat (o + i))), .val (.ref d), .val (.int (Int32.ofNat (q + i))), .val (.int (Int32.ofNat len)), .val (.int (Int32.ofNat i)), .val (.int (cv A (o + i)))] [])) := c6.trans (st7 _ (Steps.refl _))
      have c9 : Steps p.tables e below (s₁.setTop (entryFrame m #[.ref b, .int (Int32.ofNat o), .ref d, .int (Int32.ofNat q), .int (Int32.ofNat len)] 7)) (T7.setTop (mkF m 3 #[.val (.ref b), .val (.int (Int32.ofNat (o + i) + 1)), .val (.ref d), .val (.int (Int32.ofNat (q + i) + 1)), .val (.int (Int32.ofNat len)), .val (.int (Int32.ofNat i + 1)), .val (.int (cv A (o + i)))] [])) := c8.trans (by
        refine iincV X7.here hexec rfl 1 (hb hbytes d32) (by decide) rfl rfl ?_
        refine iincV X7.here hexec rfl 1 (hb hbytes d35) (by decide) rfl rfl ?_
        refine iincV X7.here hexec rfl 1 (hb hbytes d38) (by decide) rfl rfl ?_
        refine XS.goto X7.here hexec rfl (pc0 := 41) rfl (hb hbytes d41) (by decide) rfl ?_
        exact Steps.refl _)
      have c10 : Steps p.tables e below (s₁.setTop (entryFrame m #[.ref b, .int (Int32.ofNat o), .ref d, .int (Int32.ofNat q), .int (Int32.ofNat len)] 7)) (T7.setTop (mkF m 3 #[.val (.ref b), .val (.int (Int32.ofNat (o + (i + 1)))), .val (.ref d), .val (.int (Int32.ofNat (q + (i + 1)))), .val (.int (Int32.ofNat len)), .val (.int (Int32.ofNat (i + 1))), .val (.int (cv A (o + i)))] [])) := by
        have := c9
        rw [succ32, succ32, succ32] at this
        exact this
      exact ih (i + 1) (by omega) _ (Or.inr ⟨_, rfl, rfl⟩) T7 _ (by rw [copyLocs_step, ← List.append_assoc]; exact X7) (pl.trans p7) (fl.step (by omega) hlt (by simp)) c10
  obtain ⟨T9, B9, z9, X9, p9, f9, g9⟩ := loop len 0 (by omega) .unset (Or.inl rfl) s₁ B (by simpa [copyLocs] using X0) ⟨hB0.1, fun _ _ => rfl, rfl⟩ (Laid.zero _ _ _) c2
  have c11 : Steps p.tables e below (s₁.setTop (entryFrame m #[.ref b, .int (Int32.ofNat o), .ref d, .int (Int32.ofNat q), .int (Int32.ofNat len)] 7)) (T9.setTop (mkF m 46 #[.val (.ref b), .val (.int (Int32.ofNat (o + len))), .val (.ref d), .val (.int (Int32.ofNat (q + len))), .val (.int (Int32.ofNat len)), .val (.int (Int32.ofNat len)), z9] [.int (Int32.ofNat len)])) := g9.trans (by
    refine XS.iload X9.here hexec rfl (hb hbytes d3) rfl ?_
    refine XS.iload X9.here hexec rfl (hb hbytes d5) rfl ?_
    refine XS.icmpYes X9.here hexec rfl (pc0 := 7) rfl (hb hbytes d7) rfl (ii_ge_t (nlt32 (by omega) (Nat.le_refl _))) (by decide) rfl ?_
    refine XS.iload X9.here hexec rfl (hb hbytes d44) rfl ?_
    exact Steps.refl _)
  exact ⟨T9, some (.int (Int32.ofNat len)), _, _, _, X9, by simp, rfl, rfl, (fun h => by cases h), ⟨rfl, B9, p9.from hh0, f9⟩, fun fs hl => c11.trans (X9.ireturnOut hexec hret rfl (Or.inl rfl) (hb hbytes d46) hl)⟩
end Cmp5
namespace Cmp3
def yN : MethodName := ⟨"java/lang/StringUTF16", "compress", "([CII)[B"⟩
abbrev yB : ByteArray := jdk_52_method_16_code
theorem d0 : decode yB 0 = .ok (.iload_n 2, 1) := by decide +kernel
theorem d1 : decode yB 1 = .ok (.newarray .byte, 2) := by decide +kernel
theorem d3 : decode yB 3 = .ok (.astore_n 3, 1) := by decide +kernel
theorem d4 : decode yB 4 = .ok (.aload_n 0, 1) := by decide +kernel
theorem d5 : decode yB 5 = .ok (.iload_n 1, 1) := by decide +kernel
theorem d6 : decode yB 6 = .ok (.aload_n 3, 1) := by decide +kernel
theorem d7 : decode yB 7 = .ok (.iconst 0, 1) := by decide +kernel
theorem d8 : decode yB 8 = .ok (.iload_n 2, 1) := by decide +kernel
theorem d9 : decode yB 9 = .ok (.invokestatic 115, 3) := by decide +kernel
theorem d12 : decode yB 12 = .ok (.istore 4, 2) := by decide +kernel
theorem d14 : decode yB 14 = .ok (.iload 4, 2) := by decide +kernel
theorem d16 : decode yB 16 = .ok (.iload_n 2, 1) := by decide +kernel
theorem d17 : decode yB 17 = .ok (.if_icmp (.eq) 40, 3) := by decide +kernel
theorem d57 : decode yB 57 = .ok (.aload_n 3, 1) := by decide +kernel
theorem d58 : decode yB 58 = .ok (.areturn, 1) := by decide +kernel
def site : List Cond := [.arrayClass .byte, Cmp5.tab] ++ staticW U16 115 Cmp5.yN
def tab : Cond := tabOf yN yB 6 (some (.array .byte)) site
def P (b : Addr) (A : Cell) (o len : Nat) (args : Array Value) (s : State) : Prop := args = #[.ref b, .int (Int32.ofNat o), .int (Int32.ofNat len)] ∧ Ch b A s ∧ o + len ≤ A.slots.size ∧ len ≤ 536870912 ∧ ∀ i, i < len → ¬ 255 < cv A (o + i)
def E (b : Addr) (A : Cell) (o len : Nat) (r : Option Value) (s u : State) : Prop := NewArr .byte "[B" len (fun j => .int (lo8 (cv A (o + j)))) r s u ∧ u.heap.size = s.heap.size + 1
/-- no char of the range above 255: a new byte[] of their low bytes -/
theorem law (l : Launch) (b : Addr) (A : Cell) (o len : Nat) : Law l yN 3 3 1 18 yB 6 (some (.array .byte)) site (P b A o len) (E b A o len) [] 1 len := by
  refine Law.of_walk (plainFor_of_name (by decide +kernel)) (by decide +kernel) (by decide +kernel) (by decide) (fun _ _ h => by rw [h.1]; rfl) (fun _ U U' hal hh h => ⟨h.1, h.2.1.mv hal hh, h.2.2⟩) (fun r U U' V V' h1 hal h2 h => ⟨NewArr.mv r U U' V V' h1 hal h2 h.1, by rw [h1, h2]; exact h.2⟩) ?_
  intro p e s m args below meth c s₁ X0 hexec hbytes hml hret hlk hnm hown hh0 W hP
  obtain ⟨rfl, hA, l1, l2, hp⟩ := hP
  have a31 := hA.1.2.2.2
  have c1 : Steps p.tables e below (s₁.setTop (entryFrame m #[.ref b, .int (Int32.ofNat o), .int (Int32.ofNat len)] 6)) (s₁.setTop (mkF m 0 #[.val (.ref b), .val (.int (Int32.ofNat o)), .val (.int (Int32.ofNat len)), .unset, .unset, .unset] [])) := entry rfl
  have c2 : Steps p.tables e below (s₁.setTop (entryFrame m #[.ref b, .int (Int32.ofNat o), .int (Int32.ofNat len)] 6)) (s₁.setTop (mkF m 1 #[.val (.ref b), .val (.int (Int32.ofNat o)), .val (.int (Int32.ofNat len)), .unset, .unset, .unset] [.int (Int32.ofNat len)])) := c1.trans (by
    refine XS.iloadN X0.here hexec rfl (hb hbytes d0) rfl ?_
    exact Steps.refl _)
  obtain ⟨T3, B3, X3, ba3, bs3, bv3, bh3, bf3, st3⟩ := X0.anew hexec (atype := .byte) (wk W (.arrayClass .byte)) rfl (by show len * 1 ≤ _; omega) (by omega) (g := (mkF m 1 #[.val (.ref b), .val (.int (Int32.ofNat o)), .val (.int (Int32.ofNat len)), .unset, .unset, .unset] [.int (Int32.ofNat len)])) rfl (hb hbytes d1) (rest := []) rfl (Nat.le_refl _) (by show 0 + len ≤ len; omega)
  rw [hh0] at ba3 st3
  have kp3 : XT.Kept s T3 := (XT.Kept.of_eq hh0).push bh3
  have hA3 := hA.keep X3.warmed.alike (kp3 _ _ hA.1.1)
  have hne : b ≠ s.heap.size := hA.1.ne
  have c4 : Steps p.tables e below (s₁.setTop (entryFrame m #[.ref b, .int (Int32.ofNat o), .int (Int32.ofNat len)] 6)) (T3.setTop (mkF m 3 #[.val (.ref b), .val (.int (Int32.ofNat o)), .val (.int (Int32.ofNat len)), .unset, .unset, .unset] [.ref s.heap.size])) := c2.trans (st3 _ (Steps.refl _))
  have c5 : Steps p.tables e below (s₁.setTop (entryFrame m #[.ref b, .int (Int32.ofNat o), .int (Int32.ofNat len)] 6)) (T3.setTop (mkF m 9 #[.val (.ref b), .val (.int (Int32.ofNat o)), .val (.int (Int32.ofNat len)), .val (.ref s.heap.size), .unset, .unset] [.int (Int32.ofNat len), .int 0, .ref s.heap.size, .int (Int32.ofNat o), .ref b])) := c4.trans (by
    refine XS.astoreN X3.here hexec rfl (hb hbytes d3) rfl rfl rfl ?_
    refine XS.aloadN X3.here hexec rfl (hb hbytes d4) rfl rfl ?_
    refine XS.iloadN X3.here hexec rfl (hb hbytes d5) rfl ?_
    refine XS.aloadN X3.here hexec rfl (hb hbytes d6) rfl rfl ?_
    refine iconstV X3.here hexec rfl 0 (hb hbytes d7) (by decide) ?_
    refine XS.iloadN X3.here hexec rfl (hb hbytes d8) rfl ?_
    exact Steps.refl _)
  obtain ⟨v6, T6, X6, E6, g6⟩ := X3.callS hexec (Cmp5.law l b A s.heap.size B3 o 0 len) hown (wks W (staticW U16 115 Cmp5.yN)) (wk W Cmp5.tab) (W := 0) (Nat.le_of_ble_eq_true rfl) (Nat.le_of_ble_eq_true rfl) (Nat.le_refl _) (by show 0 + len + 0 ≤ len; omega) (g := (mkF m 9 #[.val (.ref b), .val (.int (Int32.ofNat o)), .val (.int (Int32.ofNat len)), .val (.ref s.heap.size), .unset, .unset] [.int (Int32.ofNat len), .int (Int32.ofNat 0), .ref s.heap.size, .int (Int32.ofNat o), .ref b])) rfl (by rw [hml]; rfl) c5 (argsL := [.ref b, .int (Int32.ofNat o), .ref s.heap.size, .int (Int32.ofNat 0), .int (Int32.ofNat len)]) (rest := []) rfl rfl (by show 2 * 0 + 0 ≤ _; decide) (hb hbytes d9) (⟨rfl, hA3, ba3, hne, l1, by rw [bs3]; simp, hp⟩)
  obtain ⟨rfl, B6, p6, f6⟩ := E6
  have c7 : Steps p.tables e below (s₁.setTop (entryFrame m #[.ref b, .int (Int32.ofNat o), .int (Int32.ofNat len)] 6)) (T6.setTop (mkF m 12 #[.val (.ref b), .val (.int (Int32.ofNat o)), .val (.int (Int32.ofNat len)), .val (.ref s.heap.size), .unset, .unset] [.int (Int32.ofNat len)])) := g6
  have c8 : Steps p.tables e below (s₁.setTop (entryFrame m #[.ref b, .int (Int32.ofNat o), .int (Int32.ofNat len)] 6)) (T6.setTop (mkF m 58 #[.val (.ref b), .val (.int (Int32.ofNat o)), .val (.int (Int32.ofNat len)), .val (.ref s.heap.size), .val (.int (Int32.ofNat len)), .unset] [.ref s.heap.size])) := c7.trans (by
    refine XS.istore X6.here hexec rfl (hb hbytes d12) rfl rfl ?_
    refine XS.iload X6.here hexec rfl (hb hbytes d14) rfl ?_
    refine XS.iloadN X6.here hexec rfl (hb hbytes d16) rfl ?_
    refine XS.icmpYes X6.here hexec rfl (pc0 := 17) rfl (hb hbytes d17) rfl (ii_eq_t rfl) (by decide) rfl ?_
    refine XS.aloadN X6.here hexec rfl (hb hbytes d57) rfl rfl ?_
    exact Steps.refl _)
  have X8 := X6.wide (L' := []) (cells' := 1) (slots' := len) (fun x hx hlt => by
    simp only [List.nil_append, copyLocs, List.mem_map, List.mem_range] at hx
    obtain ⟨i, -, rfl⟩ := hx
    exact absurd hlt (Nat.lt_irrefl _)) (Nat.le_refl _) (by omega)
  exact ⟨T6, some (.ref s.heap.size), _, _, _, X8, rfl, rfl, rfl, (fun h => by cases h), ⟨⟨rfl, B6, ba3.like (X3.warmed.alike.symm.trans X6.warmed.alike) p6.1 f6.1 f6.2.1 f6.2.2.1, f6.2.1.trans bv3, by rw [X6.warmed.alike.findClass, f6.1]; exact bf3, by rw [f6.2.2.1, bs3]; simp, fun j hj => by rw [f6.2.2.2 j, if_pos (by omega)]; rfl, kp3.put p6 (Nat.le_refl _)⟩, by rw [p6.2.2, bh3, hh0]; simp⟩, fun fs hl => c8.trans (X8.areturnOut hexec rfl hret rfl (hb hbytes d58) hl)⟩
end Cmp3
namespace CodL
def yN : MethodName := ⟨"java/lang/StringUTF16", "coderFromArrayLen", "([BI)B"⟩
abbrev yB : ByteArray := jdk_52_method_15_code
theorem d0 : decode yB 0 = .ok (.iload_n 1, 1) := by decide +kernel
theorem d1 : decode yB 1 = .ok (.aload_n 0, 1) := by decide +kernel
theorem d2 : decode yB 2 = .ok (.arraylength, 1) := by decide +kernel
theorem d3 : decode yB 3 = .ok (.isub, 1) := by decide +kernel
theorem d4 : decode yB 4 = .ok (.bipush 31, 2) := by decide +kernel
theorem d6 : decode yB 6 = .ok (.iushr, 1) := by decide +kernel
theorem d7 : decode yB 7 = .ok (.i2b, 1) := by decide +kernel
theorem d8 : decode yB 8 = .ok (.ireturn, 1) := by decide +kernel
def site : List Cond := []
def tab : Cond := tabOf yN yB 2 (some .byte) site
def P (d : Addr) (B : Cell) (args : Array Value) (s : State) : Prop := args = #[.ref d, .int (Int32.ofNat B.slots.size)] ∧ Arr .byte d B s
def E (r : Option Value) (s u : State) : Prop := XT.PureE (some (.int 0)) r s u
/-- an array as long as the number of chars: LATIN1 -/
theorem law (l : Launch) (d : Addr) (B : Cell) : Law l yN 2 2 0 0 yB 2 (some .byte) site (P d B) E [] 0 0 := by
  refine Law.of_walk (plainFor_of_name (by decide +kernel)) (by decide +kernel) (by decide +kernel) (by decide) (fun _ _ h => by rw [h.1]; rfl) (fun _ U U' hal hh h => ⟨h.1, h.2.mv hal hh⟩) (fun r U U' V V' h1 hal h2 h => XT.PureE.mv r U U' V V' h1 hal h2 h) ?_
  intro p e s m args below meth c s₁ X0 hexec hbytes hml hret hlk hnm hown hh0 W hP
  obtain ⟨rfl, hB⟩ := hP
  have hB0 := hB.mv X0.warmed.alike hh0
  have c1 : Steps p.tables e below (s₁.setTop (entryFrame m #[.ref d, .int (Int32.ofNat B.slots.size)] 2)) (s₁.setTop (mkF m 0 #[.val (.ref d), .val (.int (Int32.ofNat B.slots.size))] [])) := entry rfl
  have c2 : Steps p.tables e below (s₁.setTop (entryFrame m #[.ref d, .int (Int32.ofNat B.slots.size)] 2)) (s₁.setTop (mkF m 2 #[.val (.ref d), .val (.int (Int32.ofNat B.slots.size))] [.ref d, .int (Int32.ofNat B.slots.size)])) := c1.trans (by
    refine XS.iloadN X0.here hexec rfl (hb hbytes d0) rfl ?_
    refine XS.aloadN X0.here hexec rfl (hb hbytes d1) rfl rfl ?_
    exact Steps.refl _)
  have c3 : Steps p.tables e below (s₁.setTop (entryFrame m #[.ref d, .int (Int32.ofNat B.slots.size)] 2)) (s₁.setTop (mkF m 8 #[.val (.ref d), .val (.int (Int32.ofNat B.slots.size))] [.int (lo8 (ushr (Int32.ofNat B.slots.size - Int32.ofNat B.slots.size) 31))])) := c2.trans (by
    refine X0.alen hexec hB0 rfl rfl (hb hbytes d2) ?_
    refine XS.isub X0.here hexec rfl (hb hbytes d3) rfl ?_
    refine bipushV X0.here hexec rfl 31 (hb hbytes d4) (by decide) ?_
    refine iushr X0.here hexec rfl (hb hbytes d6) rfl ?_
    refine i2b X0.here hexec rfl (hb hbytes d7) rfl ?_
    exact Steps.refl _)
  have e0 : lo8 (ushr (Int32.ofNat B.slots.size - Int32.ofNat B.slots.size) 31) = 0 := by rw [Int32.sub_self]; decide
  rw [e0] at c3
  exact ⟨s₁, some (.int 0), _, _, _, X0, rfl, rfl, rfl, (fun h => by cases h), ⟨rfl, hh0⟩, fun fs hl => c3.trans (X0.ireturnOut hexec hret rfl (Or.inr (Or.inr (Or.inl rfl))) (hb hbytes d8) hl)⟩
end CodL
/-- the String at a is Latin-1 over a new byte[] (the heap's one new cell): the low bytes of the len chars of A from o on; every cell but a is kept -/
def Got (a : Addr) (D : Cell) (fV fC : Field) (A : Cell) (o len : Nat) (r : Option Value) (s u : State) : Prop := r = none ∧ ∃ D' V : Cell, Blank "java/lang/String" a D' u ∧ Same D D' [fV.slot, fC.slot] ∧ D'.slots[fV.slot]? = some (.ref s.heap.size) ∧ D'.slots[fC.slot]? = some (.int 0) ∧ Arr .byte s.heap.size V u ∧ V.vm = .none ∧ u.vm.findClass "[B" = some V.cls ∧ V.slots.size = len ∧ (∀ j, j < len → V.slots[j]? = some (.int (lo8 (cv A (o + j))))) ∧ (∀ (y : Addr) (c : Cell), y ≠ a → s.heap[y]? = some c → u.heap[y]? = some c) ∧ u.heap.size = s.heap.size + 1
theorem Got.mv {a : Addr} {D A : Cell} {fV fC : Field} {o len : Nat} : ∀ r (U U' V V' : State), U'.heap = U.heap → V.vm.Alike V'.vm → V'.heap = V.heap → Got a D fV fC A o len r U V → Got a D fV fC A o len r U' V' :=
  fun r U U' V V' h1 hal h2 ⟨e0, D', X, a1, a2, a3, a4, a5, a6, a7, a8, a9, a10, a11⟩ => ⟨e0, D', X, a1.mv hal h2, a2, by rw [h1]; exact a3, a4, by rw [h1]; exact a5.mv hal h2, a6, by rw [hal.findClass]; exact a7, a8, a9, by rw [h1, h2]; exact a10, by rw [h1, h2]; exact a11⟩
namespace New4
def yN : MethodName := ⟨"java/lang/String", "<init>", "([CIILjava/lang/Void;)V"⟩
abbrev yB : ByteArray := jdk_42_method_149_code
theorem d0 : decode yB 0 = .ok (.aload_n 0, 1) := by decide +kernel
theorem d1 : decode yB 1 = .ok (.invokespecial 1, 3) := by decide +kernel
theorem d4 : decode yB 4 = .ok (.iload_n 3, 1) := by decide +kernel
theorem d5 : decode yB 5 = .ok (.ifCond (.ne) 22, 3) := by decide +kernel
theorem d27 : decode yB 27 = .ok (.getstatic 38, 3) := by decide +kernel
theorem d30 : decode yB 30 = .ok (.ifCond (.eq) 28, 3) := by decide +kernel
theorem d33 : decode yB 33 = .ok (.aload_n 1, 1) := by decide +kernel
theorem d34 : decode yB 34 = .ok (.iload_n 2, 1) := by decide +kernel
theorem d35 : decode yB 35 = .ok (.iload_n 3, 1) := by decide +kernel
theorem d36 : decode yB 36 = .ok (.invokestatic 177, 3) := by decide +kernel
theorem d39 : decode yB 39 = .ok (.astore 5, 2) := by decide +kernel
theorem d41 : decode yB 41 = .ok (.aload_n 0, 1) := by decide +kernel
theorem d42 : decode yB 42 = .ok (.aload 5, 2) := by decide +kernel
theorem d44 : decode yB 44 = .ok (.iload_n 3, 1) := by decide +kernel
theorem d45 : decode yB 45 = .ok (.invokestatic 47, 3) := by decide +kernel
theorem d48 : decode yB 48 = .ok (.putfield 15, 3) := by decide +kernel
theorem d51 : decode yB 51 = .ok (.aload_n 0, 1) := by decide +kernel
theorem d52 : decode yB 52 = .ok (.aload 5, 2) := by decide +kernel
theorem d54 : decode yB 54 = .ok (.putfield 9, 3) := by decide +kernel
theorem d57 : decode yB 57 = .ok (.return_, 1) := by decide +kernel
def site : List Cond := [.fieldLink "java/lang/String" 38 "java/lang/String" "COMPACT_STRINGS" "Z", Cmp3.tab, CodL.tab, .laysFinal "java/lang/String" "java/lang/String" "value" "[B", .fieldLink "java/lang/String" 9 "java/lang/String" "value" "[B", .laysFinal "java/lang/String" "java/lang/String" "coder" "B", .fieldLink "java/lang/String" 15 "java/lang/String" "coder" "B"] ++ objW "java/lang/String" 1 ++ staticW "java/lang/String" 177 Cmp3.yN ++ staticW "java/lang/String" 47 CodL.yN
def tab : Cond := tabOf yN yB 6 none site
def P (a : Addr) (D : Cell) (fV fC : Field) (b : Addr) (A : Cell) (z : Int32) (o len : Nat) (args : Array Value) (s : State) : Prop := args = #[.ref a, .ref b, .int (Int32.ofNat o), .int (Int32.ofNat len), .null] ∧ Blank "java/lang/String" a D s ∧ Found "java/lang/String" "value" "[B" fV s ∧ Found "java/lang/String" "coder" "B" fC s ∧ Ch b A s ∧ StaticIs s "java/lang/String" "COMPACT_STRINGS" "Z" (.int z) ∧ ¬ z = 0 ∧ 0 < len ∧ o + len ≤ A.slots.size ∧ len ≤ 536870912 ∧ ∀ i, i < len → ¬ 255 < cv A (o + i)
def E (a : Addr) (D : Cell) (fV fC : Field) (A : Cell) (o len : Nat) (r : Option Value) (s u : State) : Prop := Got a D fV fC A o len r s u
/-- len > 0, no char of the range above 255: a Latin-1 String of their low bytes -/
theorem law (l : Launch) (a : Addr) (D : Cell) (fV fC : Field) (b : Addr) (A : Cell) (z : Int32) (o len : Nat) : Law l yN 5 4 2 35 yB 6 none site (P a D fV fC b A z o len) (E a D fV fC A o len) [⟨a, fC.slot⟩, ⟨a, fV.slot⟩] 1 len := by
  refine Law.of_walk (plainFor_of_name (by decide +kernel)) (by decide +kernel) (by decide +kernel) (by decide) (fun _ _ h => by rw [h.1]; rfl) (fun _ U U' hal hh h => ⟨h.1, h.2.1.mv hal hh, h.2.2.1.al hal, h.2.2.2.1.al hal, h.2.2.2.2.1.mv hal hh, h.2.2.2.2.2.1.there hal hh, h.2.2.2.2.2.2⟩) (fun r U U' V V' h1 hal h2 h => Got.mv r U U' V V' h1 hal h2 h) ?_
  intro p e s m args below meth c s₁ X0 hexec hbytes hml hret hlk hnm hown hh0 W hP
  obtain ⟨rfl, hB, f1, f2, hA, s1, hz, l0, l1, l2, hp⟩ := hP
  have a31 := hA.1.2.2.2
  have c1 : Steps p.tables e below (s₁.setTop (entryFrame m #[.ref a, .ref b, .int (Int32.ofNat o), .int (Int32.ofNat len), .null] 6)) (s₁.setTop (mkF m 0 #[.val (.ref a), .val (.ref b), .val (.int (Int32.ofNat o)), .val (.int (Int32.ofNat len)), .val .null, .unset] [])) := entry rfl
  have c2 : Steps p.tables e below (s₁.setTop (entryFrame m #[.ref a, .ref b, .int (Int32.ofNat o), .int (Int32.ofNat len), .null] 6)) (s₁.setTop (mkF m 1 #[.val (.ref a), .val (.ref b), .val (.int (Int32.ofNat o)), .val (.int (Int32.ofNat len)), .val .null, .unset] [.ref a])) := c1.trans (by
    refine XS.aloadN X0.here hexec rfl (hb hbytes d0) rfl rfl ?_
    exact Steps.refl _)
  obtain ⟨T3, X3, q3, st3⟩ := X0.oinit hexec hown (wks W (objW "java/lang/String" 1)) (g := (mkF m 1 #[.val (.ref a), .val (.ref b), .val (.int (Int32.ofNat o)), .val (.int (Int32.ofNat len)), .val .null, .unset] [.ref a])) rfl (by rw [hml]; rfl) (rest := []) rfl (hb hbytes d1) (W := 0) (by show 2 * 0 + 0 ≤ _; decide) (Nat.le_of_ble_eq_true rfl) (Nat.le_of_ble_eq_true rfl)
  have hh3 := q3.trans hh0
  have c4 : Steps p.tables e below (s₁.setTop (entryFrame m #[.ref a, .ref b, .int (Int32.ofNat o), .int (Int32.ofNat len), .null] 6)) (T3.setTop (mkF m 27 #[.val (.ref a), .val (.ref b), .val (.int (Int32.ofNat o)), .val (.int (Int32.ofNat len)), .val .null, .unset] [])) := (c2.trans (st3 _ (Steps.refl _))).trans (by
    refine XS.iloadN X3.here hexec rfl (hb hbytes d4) rfl ?_
    refine XS.ifYes X3.here hexec rfl (pc0 := 5) rfl (hb hbytes d5) rfl (i0_ne_t (nz32 (by omega) l0)) (by decide) rfl ?_
    exact Steps.refl _)
  obtain ⟨T5, X5, q5, st5⟩ := X3.sget hexec hown (wk W (.fieldLink "java/lang/String" 38 "java/lang/String" "COMPACT_STRINGS" "Z")) s1 (fun _ _ h => by rw [hh3]; exact h) (g := (mkF m 27 #[.val (.ref a), .val (.ref b), .val (.int (Int32.ofNat o)), .val (.int (Int32.ofNat len)), .val .null, .unset] [])) rfl (hb hbytes d27)
  have hh5 := q5.trans hh3
  have c6 : Steps p.tables e below (s₁.setTop (entryFrame m #[.ref a, .ref b, .int (Int32.ofNat o), .int (Int32.ofNat len), .null] 6)) (T5.setTop (mkF m 30 #[.val (.ref a), .val (.ref b), .val (.int (Int32.ofNat o)), .val (.int (Int32.ofNat len)), .val .null, .unset] [.int z])) := c4.trans (st5 _ (Steps.refl _))
  have c7 : Steps p.tables e below (s₁.setTop (entryFrame m #[.ref a, .ref b, .int (Int32.ofNat o), .int (Int32.ofNat len), .null] 6)) (T5.setTop (mkF m 36 #[.val (.ref a), .val (.ref b), .val (.int (Int32.ofNat o)), .val (.int (Int32.ofNat len)), .val .null, .unset] [.int (Int32.ofNat len), .int (Int32.ofNat o), .ref b])) := c6.trans (by
    refine XS.ifNo X5.here hexec rfl (hb hbytes d30) rfl (i0_eq_f hz) ?_
    refine XS.aloadN X5.here hexec rfl (hb hbytes d33) rfl rfl ?_
    refine XS.iloadN X5.here hexec rfl (hb hbytes d34) rfl ?_
    refine XS.iloadN X5.here hexec rfl (hb hbytes d35) rfl ?_
    exact Steps.refl _)
  obtain ⟨v8, T8, X8, E8, g8⟩ := X5.callS hexec (Cmp3.law l b A o len) hown (wks W (staticW "java/lang/String" 177 Cmp3.yN)) (wk W Cmp3.tab) (W := 0) (Nat.le_of_ble_eq_true rfl) (Nat.le_of_ble_eq_true rfl) (Nat.le_refl _) (by show 0 + len ≤ len; omega) (g := (mkF m 36 #[.val (.ref a), .val (.ref b), .val (.int (Int32.ofNat o)), .val (.int (Int32.ofNat len)), .val .null, .unset] [.int (Int32.ofNat len), .int (Int32.ofNat o), .ref b])) rfl (by rw [hml]; rfl) c7 (argsL := [.ref b, .int (Int32.ofNat o), .int (Int32.ofNat len)]) (rest := []) rfl rfl (by show 2 * 0 + 0 ≤ _; decide) (hb hbytes d36) (⟨rfl, hA.mv X5.warmed.alike hh5, l1, l2, hp⟩)
  obtain ⟨e8, z8⟩ := E8
  obtain ⟨rfl, N, n1, n2, n3, n4, n5, n6⟩ := NewArr.mv _ T5 s _ _ hh5.symm (Vm.Alike.refl _) rfl e8
  rw [hh5] at z8
  have hB1 := hB.keep X8.warmed.alike (n6 _ _ hB.1)
  have hne : s.heap.size ≠ a := (Nat.ne_of_lt (Array.getElem?_eq_some_iff.mp hB.1).1).symm
  have c9 : Steps p.tables e below (s₁.setTop (entryFrame m #[.ref a, .ref b, .int (Int32.ofNat o), .int (Int32.ofNat len), .null] 6)) (T8.setTop (mkF m 39 #[.val (.ref a), .val (.ref b), .val (.int (Int32.ofNat o)), .val (.int (Int32.ofNat len)), .val .null, .unset] [.ref s.heap.size])) := g8
  have c10 : Steps p.tables e below (s₁.setTop (entryFrame m #[.ref a, .ref b, .int (Int32.ofNat o), .int (Int32.ofNat len), .null] 6)) (T8.setTop (mkF m 45 #[.val (.ref a), .val (.ref b), .val (.int (Int32.ofNat o)), .val (.int (Int32.ofNat len)), .val .null, .val (.ref s.heap.size)] [.int (Int32.ofNat N.slots.size), .ref s.heap.size, .ref a])) := by
    have hc : Steps p.tables e below (s₁.setTop (entryFrame m #[.ref a, .ref b, .int (Int32.ofNat o), .int (Int32.ofNat len), .null] 6)) (T8.setTop (mkF m 45 #[.val (.ref a), .val (.ref b), .val (.int (Int32.ofNat o)), .val (.int (Int32.ofNat len)), .val .null, .val (.ref s.heap.size)] [.int (Int32.ofNat len), .ref s.heap.size, .ref a])) := c9.trans (by
      refine XS.astore X8.here hexec rfl (hb hbytes d39) rfl rfl rfl ?_
      refine XS.aloadN X8.here hexec rfl (hb hbytes d41) rfl rfl ?_
      refine XS.aload X8.here hexec rfl (hb hbytes d42) rfl rfl ?_
      refine XS.iloadN X8.here hexec rfl (hb hbytes d44) rfl ?_
      exact Steps.refl _)
    rw [n4]; exact hc
  obtain ⟨v11, T11, X11, E11, g11⟩ := X8.callS hexec (CodL.law l s.heap.size N) hown (wks W (staticW "java/lang/String" 47 CodL.yN)) (wk W CodL.tab) (W := 1) (Nat.le_of_ble_eq_true rfl) (Nat.le_of_ble_eq_true rfl) (Nat.le_refl _) (by show 0 + len + 0 ≤ len; omega) (g := (mkF m 45 #[.val (.ref a), .val (.ref b), .val (.int (Int32.ofNat o)), .val (.int (Int32.ofNat len)), .val .null, .val (.ref s.heap.size)] [.int (Int32.ofNat N.slots.size), .ref s.heap.size, .ref a])) rfl (by rw [hml]; rfl) c10 (argsL := [.ref s.heap.size, .int (Int32.ofNat N.slots.size)]) (rest := [.ref a]) rfl rfl (by show 2 * 0 + (1 + 0) ≤ _; decide) (hb hbytes d45) (⟨rfl, n1⟩)
  obtain ⟨rfl, q11⟩ := E11
  have hB11 := hB1.mv (X8.warmed.alike.symm.trans X11.warmed.alike) q11
  have c12 : Steps p.tables e below (s₁.setTop (entryFrame m #[.ref a, .ref b, .int (Int32.ofNat o), .int (Int32.ofNat len), .null] 6)) (T11.setTop (mkF m 48 #[.val (.ref a), .val (.ref b), .val (.int (Int32.ofNat o)), .val (.int (Int32.ofNat len)), .val .null, .val (.ref s.heap.size)] [.int 0, .ref a])) := g11
  obtain ⟨T13, X13, p13, bl13, sl13, st13⟩ := X11.finit hexec hown (wk W (.fieldLink "java/lang/String" 15 "java/lang/String" "coder" "B")) (Or.inr ⟨_, (wk W (.laysFinal "java/lang/String" "java/lang/String" "coder" "B"))⟩) (Or.inl ⟨rfl, hnm⟩) f2 (Or.inl rfl) hB11 (t := .byte) (by decide +kernel) rfl (g := (mkF m 48 #[.val (.ref a), .val (.ref b), .val (.int (Int32.ofNat o)), .val (.int (Int32.ofNat len)), .val .null, .val (.ref s.heap.size)] [.int 0, .ref a])) rfl (rest := []) rfl (hb hbytes d48)
  have c14 : Steps p.tables e below (s₁.setTop (entryFrame m #[.ref a, .ref b, .int (Int32.ofNat o), .int (Int32.ofNat len), .null] 6)) (T13.setTop (mkF m 54 #[.val (.ref a), .val (.ref b), .val (.int (Int32.ofNat o)), .val (.int (Int32.ofNat len)), .val .null, .val (.ref s.heap.size)] [.ref s.heap.size, .ref a])) := (c12.trans (st13 _ (Steps.refl _))).trans (by
    refine XS.aloadN X13.here hexec rfl (hb hbytes d51) rfl rfl ?_
    refine XS.aload X13.here hexec rfl (hb hbytes d52) rfl rfl ?_
    exact Steps.refl _)
  obtain ⟨T15, X15, p15, bl15, sl15, st15⟩ := X13.finit hexec hown (wk W (.fieldLink "java/lang/String" 9 "java/lang/String" "value" "[B")) (Or.inr ⟨_, (wk W (.laysFinal "java/lang/String" "java/lang/String" "value" "[B"))⟩) (Or.inl ⟨rfl, hnm⟩) f1 (Or.inl rfl) bl13 (t := (.array .byte)) (by decide +kernel) rfl (g := (mkF m 54 #[.val (.ref a), .val (.ref b), .val (.int (Int32.ofNat o)), .val (.int (Int32.ofNat len)), .val .null, .val (.ref s.heap.size)] [.ref s.heap.size, .ref a])) rfl (rest := []) rfl (hb hbytes d54)
  have c16 : Steps p.tables e below (s₁.setTop (entryFrame m #[.ref a, .ref b, .int (Int32.ofNat o), .int (Int32.ofNat len), .null] 6)) (T15.setTop (mkF m 57 #[.val (.ref a), .val (.ref b), .val (.int (Int32.ofNat o)), .val (.int (Int32.ofNat len)), .val .null, .val (.ref s.heap.size)] [])) := c14.trans (st15 _ (Steps.refl _))
  have ap := apart (Or.inr ⟨_, (wk W (.laysFinal "java/lang/String" "java/lang/String" "value" "[B"))⟩) (Or.inr ⟨_, (wk W (.laysFinal "java/lang/String" "java/lang/String" "coder" "B"))⟩) f1 f2 (t₁ := .array .byte) (t₂ := .byte) (by decide +kernel) (by decide +kernel) (by decide)
  have al := X8.warmed.alike.symm.trans X15.warmed.alike
  have n7 : T11.heap[s.heap.size]? = some N := by rw [q11]; exact n1.1
  exact ⟨T15, none, _, _, _, X15, by simp, rfl, by omega, (fun _ => rfl), ⟨rfl, _, N, bl15, ((Same.refl D _).set _ (by simp)).set _ (by simp), sl15, (Cell.slots_setSlot_ne _ ap).trans sl13, n1.keep al (p15.other hne (p13.other hne n7)), n2, by rw [al.findClass]; exact n3, n4, n5, fun y c h1 h2 => p15.other h1 (p13.other h1 (by rw [q11]; exact n6 y c h2)), by rw [p15.2.2, p13.2.2, q11]; exact z8⟩, fun fs hl => c16.trans (X15.returnOut hexec hret (hb hbytes d57) hl)⟩
end New4
namespace New1
def yN : MethodName := ⟨"java/lang/String", "<init>", "([C)V"⟩
abbrev yB : ByteArray := jdk_42_method_3_code
theorem d0 : decode yB 0 = .ok (.aload_n 0, 1) := by decide +kernel
theorem d1 : decode yB 1 = .ok (.aload_n 1, 1) := by decide +kernel
theorem d2 : decode yB 2 = .ok (.iconst 0, 1) := by decide +kernel
theorem d3 : decode yB 3 = .ok (.aload_n 1, 1) := by decide +kernel
theorem d4 : decode yB 4 = .ok (.arraylength, 1) := by decide +kernel
theorem d5 : decode yB 5 = .ok (.aconst_null, 1) := by decide +kernel
theorem d6 : decode yB 6 = .ok (.invokespecial 27, 3) := by decide +kernel
theorem d9 : decode yB 9 = .ok (.return_, 1) := by decide +kernel
def site : List Cond := [New4.tab] ++ initW "java/lang/String" 27 New4.yN
def tab : Cond := tabOf yN yB 2 none site
def P (a : Addr) (D : Cell) (fV fC : Field) (b : Addr) (A : Cell) (z : Int32) (args : Array Value) (s : State) : Prop := args = #[.ref a, .ref b] ∧ Blank "java/lang/String" a D s ∧ Found "java/lang/String" "value" "[B" fV s ∧ Found "java/lang/String" "coder" "B" fC s ∧ Ch b A s ∧ StaticIs s "java/lang/String" "COMPACT_STRINGS" "Z" (.int z) ∧ ¬ z = 0 ∧ 0 < A.slots.size ∧ A.slots.size ≤ 536870912 ∧ ∀ i, i < A.slots.size → ¬ 255 < cv A i
def E (a : Addr) (D : Cell) (fV fC : Field) (A : Cell) (r : Option Value) (s u : State) : Prop := Got a D fV fC A 0 A.slots.size r s u
/-- new String(chars), not empty, no char above 255: a Latin-1 String of their low bytes -/
theorem law (l : Launch) (a : Addr) (D : Cell) (fV fC : Field) (b : Addr) (A : Cell) (z : Int32) : Law l yN 2 1 3 52 yB 2 none site (P a D fV fC b A z) (E a D fV fC A) [⟨a, fC.slot⟩, ⟨a, fV.slot⟩] 1 A.slots.size := by
  refine Law.of_walk (plainFor_of_name (by decide +kernel)) (by decide +kernel) (by decide +kernel) (by decide) (fun _ _ h => by rw [h.1]; rfl) (fun _ U U' hal hh h => ⟨h.1, h.2.1.mv hal hh, h.2.2.1.al hal, h.2.2.2.1.al hal, h.2.2.2.2.1.mv hal hh, h.2.2.2.2.2.1.there hal hh, h.2.2.2.2.2.2⟩) (fun r U U' V V' h1 hal h2 h => Got.mv r U U' V V' h1 hal h2 h) ?_
  intro p e s m args below meth c s₁ X0 hexec hbytes hml hret hlk hnm hown hh0 W hP
  obtain ⟨rfl, hB, f1, f2, hA, s1, hz, l0, l2, hp⟩ := hP
  have c1 : Steps p.tables e below (s₁.setTop (entryFrame m #[.ref a, .ref b] 2)) (s₁.setTop (mkF m 0 #[.val (.ref a), .val (.ref b)] [])) := entry rfl
  have c2 : Steps p.tables e below (s₁.setTop (entryFrame m #[.ref a, .ref b] 2)) (s₁.setTop (mkF m 6 #[.val (.ref a), .val (.ref b)] [.null, .int (Int32.ofNat A.slots.size), .int 0, .ref b, .ref a])) := c1.trans (by
    refine XS.aloadN X0.here hexec rfl (hb hbytes d0) rfl rfl ?_
    refine XS.aloadN X0.here hexec rfl (hb hbytes d1) rfl rfl ?_
    refine iconstV X0.here hexec rfl 0 (hb hbytes d2) (by decide) ?_
    refine XS.aloadN X0.here hexec rfl (hb hbytes d3) rfl rfl ?_
    refine X0.alen hexec (hA.1.mv X0.warmed.alike hh0) rfl rfl (hb hbytes d4) ?_
    refine XS.aconstNull X0.here hexec rfl (hb hbytes d5) ?_
    exact Steps.refl _)
  obtain ⟨v3, T3, X3, E3, g3⟩ := X0.callN hexec (New4.law l a D fV fC b A z 0 A.slots.size) rfl hown (wks W (initW "java/lang/String" 27 New4.yN)) (W New4.tab (by simp only [site, List.mem_cons, List.mem_append, true_or, or_true])) (W := 0) (Nat.le_of_ble_eq_true rfl) (Nat.le_of_ble_eq_true rfl) (Nat.le_refl _) (by show 0 + A.slots.size ≤ A.slots.size; omega) (g := (mkF m 6 #[.val (.ref a), .val (.ref b)] [.null, .int (Int32.ofNat A.slots.size), .int (Int32.ofNat 0), .ref b, .ref a])) rfl (by rw [hml]; rfl) c2 (argsL := [.ref b, .int (Int32.ofNat 0), .int (Int32.ofNat A.slots.size), .null]) (rest := []) rfl rfl (by show 2 * 0 + 0 ≤ _; decide) (hb hbytes d6) (⟨rfl, hB.mv X0.warmed.alike hh0, f1.al X0.warmed.alike, f2.al X0.warmed.alike, hA.mv X0.warmed.alike hh0, s1.there X0.warmed.alike hh0, hz, l0, by omega, l2, fun i hi => by rw [Nat.zero_add]; exact hp i hi⟩)
  have e0 := Got.mv _ s₁ s _ _ hh0.symm (Vm.Alike.refl _) rfl E3
  obtain rfl := e0.1
  have c4 : Steps p.tables e below (s₁.setTop (entryFrame m #[.ref a, .ref b] 2)) (T3.setTop (mkF m 9 #[.val (.ref a), .val (.ref b)] [])) := g3
  exact ⟨T3, none, _, _, _, X3, by simp, rfl, by omega, (fun _ => rfl), e0, fun fs hl => c4.trans (X3.returnOut hexec hret (hb hbytes d9) hl)⟩
theorem pays {l : Launch} {R : Room} {p : Program} {e : Env} {below : List Frame} {s : State} {sargs : Array Value} {len W : Nat} (a : Addr) (D : Cell) (fV fC : Field) (b : Addr) (A : Cell) (z : Int32) (htab : tab.before sargs s = true) (hfr : 4 ≤ R.frames) (hlo : W + 65 ≤ R.locals) :
    Back l R p e below s sargs yN len W (fun A₁ a₁ => A₁.cells + 1 ≤ R.cells ∧ A₁.slots + A.slots.size ≤ R.slots ∧ P a D fV fC b A z a₁ A₁.U) (fun A₁ _ v₁ B₁ => E a D fV fC A v₁ A₁.U B₁.U ∧ B₁.locs = A₁.locs ++ [⟨a, fC.slot⟩, ⟨a, fV.slot⟩] ∧ B₁.cells = A₁.cells + 1 ∧ B₁.slots = A₁.slots + A.slots.size) :=
  (law l a D fV fC b A z).pays htab hfr (by omega)
end New1
/-- the byte, read back as charAt reads it, is the char -/
theorem lo8_mask {x : Int32} (h0 : ¬ x < 0) (h1 : ¬ 255 < x) : lo8 x &&& 255 = x := by
  have t : ∀ k : Fin 256, lo8 (Int32.ofNat k.val) &&& 255 = Int32.ofNat k.val := by decide +kernel
  rw [Int32.lt_iff_toInt_lt] at h0 h1
  have e0 : (0 : Int32).toInt = 0 := rfl
  have e1 : (255 : Int32).toInt = 255 := rfl
  obtain ⟨k, hk⟩ : ∃ k : Nat, x.toInt = k := ⟨x.toInt.toNat, by omega⟩
  have hx : x = Int32.ofNat k := Int32.toInt_inj.mp (by rw [hk, Int32.toInt_ofNat_small (by omega)])
  rw [hx]
  exact t ⟨k, by omega⟩
end StrChars
namespace StrChars.Road
open Jvm Sem ClassFile Op Lib Jvm.Stand Jvm.Free Jvm.Free.XT
open Jvm.Lib.Cold (StaticIs)
abbrev ST : String := "java/lang/String"
/-- every table word that New1's law asks, flat -/
abbrev words : List Jvm.Cond := [.code New1.yN New1.yB 2 none, .initialized ST, .methodLink ST 27 New4.yN, .instanceMethod New4.yN,
  .code New4.yN New4.yB 6 none, .fieldLink ST 38 ST "COMPACT_STRINGS" "Z", .laysFinal ST ST "value" "[B", .fieldLink ST 9 ST "value" "[B", .laysFinal ST ST "coder" "B", .fieldLink ST 15 ST "coder" "B",
  .methodLink ST 1 Lib.objectInit, .instanceMethod Lib.objectInit, .code Lib.objectInit ⟨#[0xb1]⟩ 1 none, .methodLink ST 177 Cmp3.yN, .static Cmp3.yN, .methodLink ST 47 CodL.yN, .static CodL.yN,
  .code Cmp3.yN Cmp3.yB 6 (some (.array .byte)), .initialized U16, .arrayClass .byte, .methodLink U16 115 Cmp5.yN, .static Cmp5.yN, .code Cmp5.yN Cmp5.yB 7 (some .int), .code CodL.yN CodL.yB 2 (some .byte)]
theorem tab_of {a : Array Value} {s : State} (h : ∀ w ∈ words, w.before a s = true) : New1.tab.before a s = true := by
  have h5 : Cmp5.tab.before a s = true := unparts (wk h (.code Cmp5.yN Cmp5.yB 7 (some .int))) (wks h (.initialized Cmp5.yN.cls :: Cmp5.site))
  have hc : CodL.tab.before a s = true := unparts (wk h (.code CodL.yN CodL.yB 2 (some .byte))) (wks h (.initialized CodL.yN.cls :: CodL.site))
  have q5 : ∀ w ∈ Cmp5.tab :: words, w.before a s = true := fun w hw => (List.mem_cons.mp hw).elim (fun e => e ▸ h5) (h w)
  have h3 : Cmp3.tab.before a s = true := unparts (wk q5 (.code Cmp3.yN Cmp3.yB 6 (some (.array .byte)))) (wks q5 (.initialized Cmp3.yN.cls :: Cmp3.site))
  have q3 : ∀ w ∈ Cmp3.tab :: CodL.tab :: words, w.before a s = true := fun w hw => (List.mem_cons.mp hw).elim (fun e => e ▸ h3) fun hw => (List.mem_cons.mp hw).elim (fun e => e ▸ hc) (h w)
  have h4 : New4.tab.before a s = true := unparts (wk q3 (.code New4.yN New4.yB 6 none)) (wks q3 (.initialized New4.yN.cls :: New4.site))
  have q4 : ∀ w ∈ New4.tab :: words, w.before a s = true := fun w hw => (List.mem_cons.mp hw).elim (fun e => e ▸ h4) (h w)
  exact unparts (wk q4 (.code New1.yN New1.yB 2 none)) (wks q4 (.initialized New1.yN.cls :: New1.site))
/-- the words ride from the start Z to the walk's own state -/
theorem moved {Z s : State} {a0 args : Array Value} (hZ : Z.Warmed39 s.vm) (hw : ∀ d ∈ words, d.before a0 Z = true) : ∀ d ∈ words, d.before args s = true := fun d hd => by
  have q := hw d hd
  have t : ∀ d ∈ words, d = .arrayClass .byte ∨ (d.onTables && d.keepsFace) = true := by decide +kernel
  rcases t d hd with rfl | t
  · exact RoadKit.mvA hZ q
  · exact RoadKit.mv hZ q t
/-- WHAT COMES BACK, over the tables of the start Z: h the heap at the call, h' behind it -/
def Q (Z : State) (x : Addr) (A : Cell) (h : Heap) (v : Option Value) (h' : Heap) (L : List Loc) : Prop := v = none ∧ (∀ y ∈ L, y.base = x) ∧ RoadKit.Keep h h' [x] ∧ h'.size = h.size + 1 ∧ RoadKit.Exa Z h' x ST ∧ RoadKit.Fld Z h' x ST "value" "[B" (.ref h.size) ∧ RoadKit.Fld Z h' x ST "coder" "B" (.int 0) ∧
  (∃ V : Cell, RoadKit.Arr Z h' h.size V .byte ∧ V.vm = .none ∧ Z.vm.findClass "[B" = some V.cls ∧ V.slots.size = A.slots.size ∧ ∀ j, j < A.slots.size → V.slots[j]? = some (.int (lo8 (cv A j)))) ∧
  ∀ (O n d : String) (w : Value), RoadKit.Fld Z h x O n d w → RoadKit.slotOf Z O n d ≠ RoadKit.slotOf Z ST "value" "[B" → RoadKit.slotOf Z O n d ≠ RoadKit.slotOf Z ST "coder" "B" → RoadKit.Fld Z h' x O n d w
/-- **new String(chars) AT A CALL, IN THE ROAD'S FORM**: for specialBack behind newO: x the fresh String, b the char[] with the cell A -/
theorem back {p : Program} {l : Launch} {e : Env} {R : Room} {s : State} {args : Array Value} {below : List Frame} {len W : Nat} {Z : State} {a0 : Array Value} {h : Heap} (hZ : Z.Warmed39 s.vm) (hw : ∀ d ∈ words, d.before a0 Z = true) {kI : Nat} (wi : (Jvm.Cond.instantiable ST kI).before a0 Z = true)
    {x b : Addr} {A : Cell} {z : Int32} {v0 c0 : Value} (E : RoadKit.Exa Z h x ST) (V : RoadKit.Fld Z h x ST "value" "[B" v0) (C : RoadKit.Fld Z h x ST "coder" "B" c0) (K : RoadKit.Arr Z h b A .char) (hty : Typed .char A) (S : RoadKit.Sta Z h ST "COMPACT_STRINGS" "Z" (.int z)) (hz : ¬ z = 0)
    (l0 : 0 < A.slots.size) (l2 : A.slots.size ≤ 536870912) (hp : ∀ i, i < A.slots.size → ¬ 255 < cv A i) (hfr : 4 ≤ R.frames) (hlo : W + 65 ≤ R.locals) :
    Back l R p e below s args New1.yN len W (fun P a => a = #[.ref x, .ref b] ∧ P.U.heap = h ∧ P.cells + 1 ≤ R.cells ∧ P.slots + A.slots.size ≤ R.slots)
      (fun P _ v B => ∃ L, Q Z x A h v B.U.heap L ∧ B.locs = P.locs ++ L ∧ B.cells = P.cells + 1 ∧ B.slots = P.slots + A.slots.size) := by
  intro m meth c P g ig mk a X hg hsize hdg hW hn hp'
  obtain ⟨rfl, rfl, r1, r2⟩ := hp'
  have al : Z.vm.Alike P.U.vm := hZ.alike.trans X.warmed.alike
  obtain ⟨D, cfV, kV, iV, fV, hD, gV, stV, knV, obV, asV, slV⟩ := id V
  obtain ⟨D', cfC, kC, iC, fC, hD', gC, stC, -, -, asC, slC⟩ := id C
  cases hD.symm.trans hD'
  obtain ⟨D2, kD, e1, e2, e3, e4, e5⟩ := id E
  cases hD.symm.trans e1
  obtain ⟨c2, k2, i1, i2, i3, -⟩ := Cond.instantiable_spec wi
  cases e2.symm.trans i1
  cases e3.symm.trans i2
  obtain ⟨kU, u1, u2⟩ := al.2.2 _ _ e3
  have hB : Blank ST x D P.U := ⟨hD, ⟨knV, fun q hq => by rw [hq] at obV; cases obV⟩, by rw [al.findClass]; exact e2, kU, u1, by rw [u2]; exact i3, by rw [u2]; exact e5 i3⟩
  have F1 : Found ST "value" "[B" fV P.U := ⟨SBG.found_only al ⟨cfV, kV, iV, gV⟩, stV⟩
  have F2 : Found ST "coder" "B" fC P.U := ⟨SBG.found_only al ⟨cfC, kC, iC, gC⟩, stC⟩
  have hA : Ch b A P.U := ⟨⟨K.1, State.isArrayOf_alike al K.2.1, K.2.2, by omega⟩, hty⟩
  have hS : StaticIs P.U ST "COMPACT_STRINGS" "Z" (.int z) := by
    obtain ⟨cfS, iS, kS, fS, st, cS, t1, t2, t3, t4, t5, t6, t7⟩ := S
    exact StaticIs.there (s := { Z with heap := P.U.heap }) ⟨cfS, iS, kS, fS, st, cS, t1, t2, t3, t4, t5, (fun q => by rw [q] at t6; cases t6), t7⟩ al rfl
  obtain ⟨v, B, X', ⟨⟨hv, E', V', q1, q2, q3, q4, q5, q6, q7, q8, q9, q10, q11⟩, hl, hc, hs⟩, st⟩ := New1.pays x D fV fC b A z (tab_of (moved hZ hw)) hfr hlo m meth c P g ig mk _ X hg hsize hdg hW hn ⟨r1, r2, rfl, hB, F1, F2, hA, hS, hz, l0, l2, hp⟩
  have al' : Z.vm.Alike B.U.vm := hZ.alike.trans X'.warmed.alike
  have hsz : E'.slots.size = D.slots.size := by
    obtain ⟨-, -, -, kB, w1, w2, w3⟩ := q1
    obtain ⟨kB', y1, y2⟩ := al'.2.2 _ _ e3
    rw [q2.2.1] at w1
    cases w1.symm.trans y1
    rw [w3, e5 i3, y2]
  refine ⟨v, B, X', ⟨_, ⟨hv, ?_, ⟨by omega, fun y cy hy hn' => q10 y cy (by simpa using hn') hy, fun y cy hy => ?_⟩, q11, ⟨E', _, q1.1, by rw [q2.2.1]; exact e2, by rw [q2.2.1]; exact e3, by rw [q2.1]; exact obV, fun _ => by rw [hsz]; exact e5 i3⟩,
    ⟨E', cfV, kV, iV, fV, q1.1, gV, stV, by rw [q2.1]; exact knV, by rw [q2.1]; exact obV, by rw [q2.2.1]; exact asV, q3⟩, ⟨E', cfC, kC, iC, fC, q1.1, gC, stC, by rw [q2.1]; exact knV, by rw [q2.1]; exact obV, by rw [q2.2.1]; exact asC, q4⟩,
    ⟨V', ⟨q5.1, State.isArrayOf_alike al'.symm q5.2.1, q5.2.2.1⟩, q6, by rw [← al'.findClass]; exact q7, q8, fun j hj => by have := q9 j hj; rwa [Nat.zero_add] at this⟩, fun O n d w F n1 n2 => ?_⟩, hl, hc, hs⟩, st⟩
  · intro y hy
    simp only [List.mem_cons, List.not_mem_nil, or_false] at hy
    rcases hy with rfl | rfl <;> rfl
  · by_cases q : y = x
    · subst q
      cases hD.symm.trans hy
      exact ⟨E', q1.1, q2.2.1, q2.1, hsz⟩
    · exact ⟨cy, q10 y cy q hy, rfl, rfl, rfl⟩
  · obtain ⟨D3, cf, k, i, f, g1, g2, g3, g4, g5, g6, g7⟩ := F
    cases hD.symm.trans g1
    simp only [RoadKit.slotOf, g2, gV, gC, Option.map_some, Option.getD_some] at n1 n2
    exact ⟨E', cf, k, i, f, q1.1, g2, g3, by rw [q2.1]; exact g4, by rw [q2.1]; exact g5, by rw [q2.2.1]; exact g6, by rw [q2.2.2 f.slot (by simp [n1, n2])]; exact g7⟩
end StrChars.Road
namespace StrChars.Road
open Jvm Sem ClassFile Op Lib Jvm.Stand Jvm.Free Jvm.Free.XT
/-- WHAT COMES BACK, the byte[] as a list of values -/
def QA (Z : State) (x : Addr) (zn : Int32) (cs : List Int32) (h : Heap) (v : Option Value) (h' : Heap) (L : List Loc) : Prop := v = none ∧ (∀ y ∈ L, y.base = x) ∧ RoadKit.Keep h h' [x] ∧ h'.size = h.size + 1 ∧ RoadKit.Exa Z h' x ST ∧ RoadKit.Fld Z h' x ST "value" "[B" (.ref h.size) ∧ RoadKit.Fld Z h' x ST "coder" "B" (.int 0) ∧
  (∃ kb, Z.vm.findClass "[B" = some kb ∧ RoadKit.Arv Z h' h.size kb .byte zn (cs.map fun c => .int (lo8 c)) (.int 0)) ∧
  ∀ (O n d : String) (w : Value), RoadKit.Fld Z h x O n d w → RoadKit.slotOf Z O n d ≠ RoadKit.slotOf Z ST "value" "[B" → RoadKit.slotOf Z O n d ≠ RoadKit.slotOf Z ST "coder" "B" → RoadKit.Fld Z h' x O n d w
/-- **new String(chars) AT A CALL, THE ARRAYS AS LISTS**: the char[] at b holds cs, not empty, no char above 255 -/
theorem backArv {p : Program} {l : Launch} {e : Env} {R : Room} {s : State} {args : Array Value} {below : List Frame} {len W : Nat} {Z : State} {a0 : Array Value} {h : Heap} (hZ : Z.Warmed39 s.vm) (hw : ∀ d ∈ words, d.before a0 Z = true) {kI : Nat} (wi : (Jvm.Cond.instantiable ST kI).before a0 Z = true)
    {x b : Addr} {k : ClassId} {zn z : Int32} {cs : List Int32} {dv v0 c0 : Value} (E : RoadKit.Exa Z h x ST) (V : RoadKit.Fld Z h x ST "value" "[B" v0) (C : RoadKit.Fld Z h x ST "coder" "B" c0) (K : RoadKit.Arv Z h b k .char zn (cs.map Value.int) dv) (S : RoadKit.Sta Z h ST "COMPACT_STRINGS" "Z" (.int z)) (hz : ¬ z = 0)
    (hlen : zn.toNatClampNeg = cs.length) (h0 : 0 < cs.length) (hbig : cs.length ≤ 536870912) (hall : ∀ c ∈ cs, ¬ 255 < c) (hfr : 4 ≤ R.frames) (hlo : W + 65 ≤ R.locals) :
    Back l R p e below s args New1.yN len W (fun P a => a = #[.ref x, .ref b] ∧ P.U.heap = h ∧ P.cells + 1 ≤ R.cells ∧ P.slots + cs.length ≤ R.slots)
      (fun P _ v B => ∃ L, QA Z x zn cs h v B.U.heap L ∧ B.locs = P.locs ++ L ∧ B.cells = P.cells + 1 ∧ B.slots = P.slots + cs.length) := by
  obtain ⟨A, K1, K2, K3, K4, K5, K6⟩ := K
  have e : A.slots.size = cs.length := K3.trans hlen
  have hat : ∀ (i : Nat) (hi : i < cs.length), A.slots[i]? = some (.int cs[i]) := fun i hi => by rw [K5 i (by omega)]; simp [List.getD_eq_getElem?_getD, hi]
  have hcv : ∀ (i : Nat) (hi : i < cs.length), cv A i = cs[i] := fun i hi => by unfold cv; rw [hat i hi]
  have hty : Typed .char A := fun i v hv => by
    have hi : i < A.slots.size := (Array.getElem?_eq_some_iff.mp hv).1
    have q := K5 i hi
    rw [hv] at q
    rw [Option.some.inj q]
    exact K6 i hi
  refine Back.mono (back hZ hw wi E V C K1 hty S hz (by omega) (by omega) (fun i hi => by rw [hcv i (by omega)]; exact hall _ (List.getElem_mem _)) hfr hlo) (fun P a hp => ⟨hp.1, hp.2.1, hp.2.2.1, by rw [e]; exact hp.2.2.2⟩) (fun P a v B hp hq => ?_)
  obtain ⟨L, ⟨q1, q2, q3, q4, q5, q6, q7, ⟨V', v1, v2, v3, v4, v5⟩, q9⟩, hl, hc, hs⟩ := hq
  refine ⟨L, ⟨q1, q2, q3, q4, q5, q6, q7, ⟨V'.cls, v3, V', v1, rfl, by rw [v4, e, hlen], K4, fun i hi => ?_, fun i hi => ?_⟩, q9⟩, hl, hc, by rw [hs, e]⟩
  · have hi' : i < cs.length := by omega
    rw [v5 i (by omega), hcv i hi']; simp [List.getD_eq_getElem?_getD, hi']
  · have hi' : i < cs.length := by omega
    simp only [List.getD_eq_getElem?_getD, List.getElem?_map, List.getElem?_eq_getElem hi', Option.map_some, Option.getD_some]
    exact fits_lo8 _
end StrChars.Road
namespace StrChars.Road
open Jvm Sem ClassFile Op Lib Jvm.Stand Jvm.Free Jvm.Free.XT
/-- WHAT COMES BACK, in the writer's own shape -/
def QV (Z : State) (x : Addr) (N : Int32) (bs : List Int32) (h : Heap) (n0 : Nat) (v : Option Value) (h' : Heap) (L : List Loc) : Prop := v = none ∧ RoadKit.Fr n0 L ∧ RoadKit.Keep h h' [x] ∧ RoadKit.Exa Z h' x ST ∧ RoadKit.Fld Z h' x ST "coder" "B" (.int 0) ∧
  ∃ (t : Addr) (kb : ClassId), n0 ≤ t ∧ h.size ≤ t ∧ ¬ t = x ∧ RoadKit.Fld Z h' x ST "value" "[B" (.ref t) ∧ RoadKit.Arv Z h' t kb .byte N (bs.map Value.int) (.int 0)
/-- **new String(chars) AT A CALL, FOR THE WRITER**: a char[] of n known ints, each 0 to 255 -/
theorem backV {p : Program} {l : Launch} {e : Env} {R : Room} {s : State} {args : Array Value} {below : List Frame} {len W : Nat} {Z : State} {a0 : Array Value} {h : Heap} (hZ : Z.Warmed39 s.vm) (hw : ∀ d ∈ words, d.before a0 Z = true) {kI : Nat} (wi : (Jvm.Cond.instantiable ST kI).before a0 Z = true)
    {x b : Addr} {kC : ClassId} {cs bs : List Int32} {d v0 c0 : Value} {z N : Int32} {n n0 : Nat} (hx0 : n0 ≤ x) (hh0 : n0 ≤ h.size) (E : RoadKit.Exa Z h x ST) (V : RoadKit.Fld Z h x ST "value" "[B" v0) (C : RoadKit.Fld Z h x ST "coder" "B" c0) (K : RoadKit.Arv Z h b kC .char N (cs.map Value.int) d) (S : RoadKit.Sta Z h ST "COMPACT_STRINGS" "Z" (.int z)) (hz : ¬ z = 0)
    (hn : cs.length = n) (hN : N = Int32.ofNat n) (l0 : 0 < n) (l2 : n ≤ 4000) (hp : ∀ c ∈ cs, ¬ c < 0 ∧ ¬ (255 : Int32) < c) (hb : bs = cs.map (fun c => c.toInt8.toInt32)) (hfr : 4 ≤ R.frames) (hlo : W + 65 ≤ R.locals) :
    Back l R p e below s args (⟨"java/lang/String", "<init>", "([C)V"⟩ : MethodName) len W (fun P a => a = #[.ref x, .ref b] ∧ P.U.heap = h ∧ P.cells + 1 ≤ R.cells ∧ P.slots + n ≤ R.slots)
      (fun P _ v B => ∃ L, QV Z x N bs h n0 v B.U.heap L ∧ B.locs = P.locs ++ L ∧ B.cells = P.cells + 1 ∧ B.slots = P.slots + n) := by
  subst hn hN hb
  refine Back.mono (backArv hZ hw wi E V C K S hz (n32 (by omega)) l0 (by omega) (fun c hc => (hp c hc).2) hfr hlo) (fun P a hp => hp) (fun P a v B hp hq => ?_)
  obtain ⟨L, ⟨q1, q2, q3, q4, q5, q6, q7, ⟨kb, v1, v2⟩, q9⟩, hl, hc, hs⟩ := hq
  exact ⟨L, ⟨q1, fun y hy => by rw [q2 y hy]; exact hx0, q3, q5, q7, h.size, kb, hh0, Nat.le_refl _, Nat.ne_of_gt E.lt, q6, by rw [List.map_map]; exact v2⟩, hl, hc, hs⟩
end StrChars.Road
namespace StrChars
open Jvm Sem ClassFile Op Lib Jvm.Stand Jvm.Free.XT Jvm.Free.ALB Jvm.Free.JM Jvm.Free
open Jvm.Lib.Cold (StaticIs)
def hi8 (x : Int32) : Int32 := lo8 (x >>> ((8 : Int32) &&& 31))
/-- what StringUTF16.getChar makes of two bytes -/
def pairCh (u v : Int32) : Int32 := (((u &&& 255) <<< ((0 : Int32) &&& 31)) ||| ((v &&& 255) <<< ((8 : Int32) &&& 31))).toUInt32.toUInt16.toUInt32.toInt32
theorem lo8_and (x : Int32) : (lo8 x &&& 255).toBitVec.toNat = x.toBitVec.toNat % 256 := by
  have h : (lo8 x).toBitVec = (x.toBitVec.signExtend 8).signExtend 32 := by rw [lo8, Int8.toBitVec_toInt32, Int32.toBitVec_toInt8]
  rw [Int32.toBitVec_and, BitVec.toNat_and, h]
  have e : ((x.toBitVec.signExtend 8).signExtend 32).toNat % 256 = x.toBitVec.toNat % 256 := by
    rw [BitVec.toNat_signExtend]
    have hlt := x.toBitVec.isLt
    simp only [BitVec.toNat_setWidth, BitVec.toNat_signExtend]
    split <;> split <;> omega
  rw [← e]
  exact Nat.and_two_pow_sub_one_eq_mod _ 8
theorem pair_says {c : Int32} (h0 : ¬ c < 0) (h1 : ¬ 65535 < c) : pairCh (lo8 c) (hi8 c) = c := by
  rw [Int32.lt_iff_toInt_lt] at h0 h1
  have e0 : (0 : Int32).toInt = 0 := rfl
  have e1 : (65535 : Int32).toInt = 65535 := rfl
  have hc : c.toInt = c.toBitVec.toNat := by
    have := c.toBitVec.isLt
    have e : c.toInt = c.toBitVec.toInt := rfl
    rw [e] at h0 h1
    rw [e]
    rw [BitVec.toInt_eq_toNat_cond] at h0 h1 ⊢
    split at h0 <;> split <;> omega
  have hn : c.toBitVec.toNat < 65536 := by omega
  have a1 := lo8_and c
  have a2 : (hi8 c &&& 255).toBitVec.toNat = c.toBitVec.toNat / 256 := by
    rw [hi8, lo8_and]
    have e : ((8 : Int32) &&& 31) = 8 := by decide
    rw [e, Int32.toBitVec_shiftRight]
    have e2 : ((8 : Int32).toBitVec.smod 32) = 8#32 := by decide
    rw [e2, BitVec.sshiftRight_eq', BitVec.toNat_sshiftRight_of_msb_false (by rw [BitVec.msb_eq_false_iff_two_mul_lt]; omega)]
    show c.toBitVec.toNat >>> 8 % 256 = _
    rw [Nat.shiftRight_eq_div_pow]
    omega
  unfold pairCh
  apply Int32.toBitVec_inj.mp
  apply BitVec.eq_of_toNat_eq
  have f0 : ((0 : Int32) &&& 31) = 0 := by decide
  have f8 : ((8 : Int32) &&& 31) = 8 := by decide
  rw [f0, f8]
  have g : (((lo8 c &&& 255) <<< (0 : Int32)) ||| ((hi8 c &&& 255) <<< (8 : Int32))).toBitVec.toNat = c.toBitVec.toNat := by
    rw [Int32.toBitVec_or, Int32.toBitVec_shiftLeft, Int32.toBitVec_shiftLeft]
    have s0 : ((0 : Int32).toBitVec.smod 32) = 0#32 := by decide
    have s8 : ((8 : Int32).toBitVec.smod 32) = 8#32 := by decide
    rw [s0, s8, BitVec.toNat_or]
    simp only [BitVec.shiftLeft_eq', BitVec.toNat_shiftLeft, a1, a2]
    show (c.toBitVec.toNat % 256) <<< 0 % 2 ^ 32 ||| (c.toBitVec.toNat / 256) <<< 8 % 2 ^ 32 = _
    rw [Nat.shiftLeft_zero, Nat.mod_eq_of_lt (show c.toBitVec.toNat % 256 < 2 ^ 32 by omega), Nat.mod_eq_of_lt (show (c.toBitVec.toNat / 256) <<< 8 < 2 ^ 32 by rw [Nat.shiftLeft_eq]; omega), Nat.or_comm, ← Nat.shiftLeft_add_eq_or_of_lt (by omega), Nat.shiftLeft_eq]
    omega
  show BitVec.toNat (((((lo8 c &&& 255) <<< (0 : Int32)) ||| ((hi8 c &&& 255) <<< (8 : Int32))).toBitVec.setWidth 16).setWidth 32) = _
  rw [BitVec.toNat_setWidth, BitVec.toNat_setWidth, g]
  omega
end StrChars
namespace StrChars
open Jvm Sem ClassFile Op Lib Jvm.Stand Jvm.Free.XT Jvm.Free.ALB Jvm.Free.JM Jvm.Free
open Jvm.Lib.Cold (StaticIs)
/-- the array's cell V codes the n chars f 0 .. f (n - 1) by the coder cd, as the JDK does: coder 1 just where some char is above 255 -/
def Cod (cd : Int32) (n : Nat) (f : Nat → Int32) (V : Cell) : Prop := (cd = 0 ∧ V.slots.size = n ∧ ∀ j, j < n → V.slots[j]? = some (.int (lo8 (f j))) ∧ ¬ 255 < f j) ∨ (cd = 1 ∧ V.slots.size = 2 * n ∧ (∀ j, j < n → V.slots[2 * j]? = some (.int (lo8 (f j))) ∧ V.slots[2 * j + 1]? = some (.int (hi8 (f j)))) ∧ ∃ j, j < n ∧ 255 < f j)
/-- **x is a String of the n chars f 0 .. f (n - 1)**, Latin-1 or UTF-16; its array at t has the cell V -/
def Txt (x t : Addr) (V : Cell) (cd : Int32) (n : Nat) (f : Nat → Int32) (U : State) : Prop := Exact "java/lang/String" x U ∧ Has x "java/lang/String" "value" "[B" (.ref t) U ∧ Has x "java/lang/String" "coder" "B" (.int cd) U ∧ XT.Arr .byte t V U ∧ Cod cd n f V ∧ ∀ j, j < n → ¬ f j < 0 ∧ ¬ 65535 < f j
theorem Txt.mv {x t : Addr} {V : Cell} {cd : Int32} {n : Nat} {f : Nat → Int32} {U U' : State} (h : Txt x t V cd n f U) (hal : U.vm.Alike U'.vm) (hh : U'.heap = U.heap) : Txt x t V cd n f U' := ⟨h.1.mv hal hh, h.2.1.mv hal hh, h.2.2.1.mv hal hh, h.2.2.2.1.mv hal hh, h.2.2.2.2⟩
end StrChars
namespace StrChars.Road
open Jvm Sem ClassFile Op Lib Jvm.Stand Jvm.Free Jvm.Free.XT
open Jvm.Lib.Cold (StaticIs)
theorem consq {a : Array Value} {s : State} {c : Jvm.Cond} {L : List Jvm.Cond} (h0 : c.before a s = true) (h : ∀ w ∈ L, w.before a s = true) : ∀ w ∈ c :: L, w.before a s = true := fun w hw => (List.mem_cons.mp hw).elim (fun e => e ▸ h0) (h w)
/-- the bytes of the chars cs, low before high -/
def wideBytes : List Int32 → List Value
  | [] => []
  | c :: cs => .int (lo8 c) :: .int (hi8 c) :: wideBytes cs
theorem wide_lo (d : Value) : ∀ (cs : List Int32) (j : Nat), j < cs.length → (wideBytes cs).getD (2 * j) d = .int (lo8 (cs.getD j 0))
  | [], j, h => absurd h (Nat.not_lt_zero j)
  | c :: cs, 0, _ => rfl
  | c :: cs, j + 1, h => by
    have q := wide_lo d cs j (by simpa using h)
    rw [show 2 * (j + 1) = 2 * j + 1 + 1 from by omega]
    simpa [wideBytes] using q
theorem wide_hi (d : Value) : ∀ (cs : List Int32) (j : Nat), j < cs.length → (wideBytes cs).getD (2 * j + 1) d = .int (hi8 (cs.getD j 0))
  | [], j, h => absurd h (Nat.not_lt_zero j)
  | c :: cs, 0, _ => rfl
  | c :: cs, j + 1, h => by
    have q := wide_hi d cs j (by simpa using h)
    rw [show 2 * (j + 1) + 1 = 2 * j + 1 + 1 + 1 from by omega]
    simpa [wideBytes] using q
theorem low_at (d : Value) (cs : List Int32) (j : Nat) (h : j < cs.length) : (cs.map fun c => Value.int (lo8 c)).getD j d = .int (lo8 (cs.getD j 0)) := by
  simp [List.getD_eq_getElem?_getD, h]
/-- an array of N2 bytes vs codes the chars cs by the coder cd -/
def CodA (cs : List Int32) (cd N2 : Int32) (vs : List Value) : Prop := (cd = 0 ∧ N2 = Int32.ofNat cs.length ∧ vs = (cs.map fun c => Value.int (lo8 c)) ∧ ∀ c ∈ cs, ¬ 255 < c) ∨ (cd = 1 ∧ N2 = Int32.ofNat (2 * cs.length) ∧ vs = wideBytes cs ∧ ∃ c ∈ cs, 255 < c)
theorem CodA.cod {cs : List Int32} {cd N2 : Int32} {vs : List Value} {V : Cell} (h : CodA cs cd N2 vs) (hn : 2 * cs.length < 2 ^ 31) (hs : V.slots.size = N2.toNatClampNeg) (hv : RoadKit.Has V vs (.int 0)) : Cod cd cs.length (fun j => cs.getD j 0) V := by
  rcases h with ⟨rfl, rfl, rfl, h⟩ | ⟨rfl, rfl, rfl, c, hc, hw⟩
  · rw [n32 (by omega)] at hs
    exact Or.inl ⟨rfl, hs, fun j hj => ⟨by rw [hv j (by omega), low_at _ _ _ hj], by
      have e : cs.getD j 0 = cs[j] := by simp [List.getD_eq_getElem?_getD, hj]
      show ¬ 255 < cs.getD j 0
      rw [e]; exact h _ (List.getElem_mem _)⟩⟩
  · rw [n32 (by omega)] at hs
    obtain ⟨j, hj, rfl⟩ := List.getElem_of_mem hc
    exact Or.inr ⟨rfl, hs, fun j hj => ⟨by rw [hv _ (by omega), wide_lo _ _ _ hj], by rw [hv _ (by omega), wide_hi _ _ _ hj]⟩, j, hj, by
      have e : cs.getD j 0 = cs[j] := by simp [List.getD_eq_getElem?_getD, hj]
      show 255 < cs.getD j 0
      rw [e]; exact hw⟩
/-- an object of exactly java/lang/String, its two fields found: as the laws ask it -/
theorem strObj {Z U : State} {a0 : Array Value} {kI : Nat} (wi : (Jvm.Cond.instantiable ST kI).before a0 Z = true) (al : Z.vm.Alike U.vm) {x : Addr} {v0 c0 : Value} (E : RoadKit.Exa Z U.heap x ST) (V : RoadKit.Fld Z U.heap x ST "value" "[B" v0) (C : RoadKit.Fld Z U.heap x ST "coder" "B" c0) :
    ∃ (D : Cell) (fV fC : Field), Blank ST x D U ∧ Found ST "value" "[B" fV U ∧ Found ST "coder" "B" fC U ∧ D.slots[fV.slot]? = some v0 ∧ D.slots[fC.slot]? = some c0 ∧ RoadKit.slotOf Z ST "value" "[B" = fV.slot ∧ RoadKit.slotOf Z ST "coder" "B" = fC.slot := by
  obtain ⟨D, cfV, kV, iV, fV, hD, gV, stV, knV, obV, asV, slV⟩ := V
  obtain ⟨D', cfC, kC, iC, fC, hD', gC, stC, -, -, asC, slC⟩ := C
  cases hD.symm.trans hD'
  obtain ⟨D2, kD, e1, e2, e3, e4, e5⟩ := E
  cases hD.symm.trans e1
  obtain ⟨c2, k2, i1, i2, i3, -⟩ := Cond.instantiable_spec wi
  cases e2.symm.trans i1
  cases e3.symm.trans i2
  obtain ⟨kU, u1, u2⟩ := al.2.2 _ _ e3
  exact ⟨D, fV, fC, ⟨hD, ⟨knV, fun q hq => by rw [hq] at obV; cases obV⟩, by rw [al.findClass]; exact e2, kU, u1, by rw [u2]; exact i3, by rw [u2]; exact e5 i3⟩, ⟨SBG.found_only al ⟨cfV, kV, iV, gV⟩, stV⟩, ⟨SBG.found_only al ⟨cfC, kC, iC, gC⟩, stC⟩, slV, slC, by simp [RoadKit.slotOf, gV], by simp [RoadKit.slotOf, gC]⟩
theorem sta_is {Z U : State} (al : Z.vm.Alike U.vm) {C n d : String} {v : Value} (S : RoadKit.Sta Z U.heap C n d v) : StaticIs U C n d v := by
  obtain ⟨cfS, iS, kS, fS, st, cS, t1, t2, t3, t4, t5, t6, t7⟩ := S
  exact StaticIs.there (s := { Z with heap := U.heap }) ⟨cfS, iS, kS, fS, st, cS, t1, t2, t3, t4, t5, (fun q => by rw [q] at t6; cases t6), t7⟩ al rfl
end StrChars.Road
namespace StrChars
open Jvm Sem ClassFile Op Lib Jvm.Stand Jvm.Free.XT Jvm.Free.ALB Jvm.Free.JM Jvm.Free
open Jvm.Lib.Cold (StaticIs)
/-- what place i of a byte[]'s cell holds -/
def yv (A : Cell) (i : Nat) : Int32 := match A.slots[i]? with | some (.int x) => x | _ => 0
theorem yv_get {a : Addr} {A : Cell} {U : State} (h : XT.Arr .byte a A U) (ht : Typed .byte A) {i : Nat} (hi : i < A.slots.size) : A.slots[i]? = some (.int (yv A i)) := by
  have e := Array.getElem?_eq_getElem hi
  have f := ht i _ e
  unfold yv; rw [e]
  generalize A.slots[i] = v at f
  cases v <;> simp [fits] at f ⊢
/-- the two arrays are equal, place for place -/
def EqC (A B : Cell) : Prop := A.slots.size = B.slots.size ∧ ∀ i, i < A.slots.size → yv A i = yv B i
/-- a boolean that says whether p -/
def Says01 (q : Prop) (r : Option Value) (s u : State) : Prop := ∃ v : Int32, r = some (.int v) ∧ u.heap = s.heap ∧ ((v = 1 ∧ q) ∨ (v = 0 ∧ ¬ q))
theorem Says01.mv {q : Prop} : ∀ r (U U' V V' : State), U'.heap = U.heap → V.vm.Alike V'.vm → V'.heap = V.heap → Says01 q r U V → Says01 q r U' V' :=
  fun r U U' V V' h1 _ h2 ⟨v, a, b, c⟩ => ⟨v, a, by rw [h1, h2]; exact b, c⟩
namespace LEq
def yN : MethodName := ⟨"java/lang/StringLatin1", "equals", "([B[B)Z"⟩
abbrev yB : ByteArray := jdk_43_method_13_code
theorem d0 : decode yB 0 = .ok (.aload_n 0, 1) := by decide +kernel
theorem d1 : decode yB 1 = .ok (.arraylength, 1) := by decide +kernel
theorem d2 : decode yB 2 = .ok (.aload_n 1, 1) := by decide +kernel
theorem d3 : decode yB 3 = .ok (.arraylength, 1) := by decide +kernel
theorem d4 : decode yB 4 = .ok (.if_icmp (.ne) 30, 3) := by decide +kernel
theorem d7 : decode yB 7 = .ok (.iconst 0, 1) := by decide +kernel
theorem d8 : decode yB 8 = .ok (.istore_n 2, 1) := by decide +kernel
theorem d9 : decode yB 9 = .ok (.iload_n 2, 1) := by decide +kernel
theorem d10 : decode yB 10 = .ok (.aload_n 0, 1) := by decide +kernel
theorem d11 : decode yB 11 = .ok (.arraylength, 1) := by decide +kernel
theorem d12 : decode yB 12 = .ok (.if_icmp (.ge) 20, 3) := by decide +kernel
theorem d15 : decode yB 15 = .ok (.aload_n 0, 1) := by decide +kernel
theorem d16 : decode yB 16 = .ok (.iload_n 2, 1) := by decide +kernel
theorem d17 : decode yB 17 = .ok (.baload, 1) := by decide +kernel
theorem d18 : decode yB 18 = .ok (.aload_n 1, 1) := by decide +kernel
theorem d19 : decode yB 19 = .ok (.iload_n 2, 1) := by decide +kernel
theorem d20 : decode yB 20 = .ok (.baload, 1) := by decide +kernel
theorem d21 : decode yB 21 = .ok (.if_icmp (.eq) 5, 3) := by decide +kernel
theorem d24 : decode yB 24 = .ok (.iconst 0, 1) := by decide +kernel
theorem d25 : decode yB 25 = .ok (.ireturn, 1) := by decide +kernel
theorem d26 : decode yB 26 = .ok (.iinc 2 1, 3) := by decide +kernel
theorem d29 : decode yB 29 = .ok (.goto (-20), 3) := by decide +kernel
theorem d32 : decode yB 32 = .ok (.iconst 1, 1) := by decide +kernel
theorem d33 : decode yB 33 = .ok (.ireturn, 1) := by decide +kernel
theorem d34 : decode yB 34 = .ok (.iconst 0, 1) := by decide +kernel
theorem d35 : decode yB 35 = .ok (.ireturn, 1) := by decide +kernel
def site : List Cond := []
def tab : Cond := tabOf yN yB 3 (some .boolean) site
def P (a : Addr) (A : Cell) (b : Addr) (B : Cell) (args : Array Value) (s : State) : Prop := args = #[.ref a, .ref b] ∧ XT.Arr .byte a A s ∧ Typed .byte A ∧ XT.Arr .byte b B s ∧ Typed .byte B
/-- whether two byte[] are equal, place for place -/
theorem law (l : Launch) (a : Addr) (A : Cell) (b : Addr) (B : Cell) : Law l yN 2 2 0 0 yB 3 (some .boolean) site (P a A b B) (Says01 (EqC A B)) [] 0 0 := by
  refine Law.of_walk (plainFor_of_name (by decide +kernel)) (by decide +kernel) (by decide +kernel) (by decide) (fun _ _ h => by rw [h.1]; rfl) (fun _ U U' hal hh h => ⟨h.1, h.2.1.mv hal hh, h.2.2.1, h.2.2.2.1.mv hal hh, h.2.2.2.2⟩) (fun r U U' V V' h1 hal h2 h => Says01.mv r U U' V V' h1 hal h2 h) ?_
  intro p e s m args below meth c s₁ X0 hexec hbytes hml hret hlk hnm hown hh0 W hP
  obtain ⟨rfl, hA, tA, hB, tB⟩ := hP
  have a31 := hA.2.2.2
  have b31 := hB.2.2.2
  have hA0 := hA.mv X0.warmed.alike hh0
  have hB0 := hB.mv X0.warmed.alike hh0
  have c1 : Steps p.tables e below (s₁.setTop (entryFrame m #[.ref a, .ref b] 3)) (s₁.setTop (mkF m 0 #[.val (.ref a), .val (.ref b), .unset] [])) := entry rfl
  have c2 : Steps p.tables e below (s₁.setTop (entryFrame m #[.ref a, .ref b] 3)) (s₁.setTop (mkF m 4 #[.val (.ref a), .val (.ref b), .unset] [.int (Int32.ofNat B.slots.size), .int (Int32.ofNat A.slots.size)])) := c1.trans (by
    refine XS.aloadN X0.here hexec rfl (hb hbytes d0) rfl rfl ?_
    refine X0.alen hexec hA0 rfl rfl (hb hbytes d1) ?_
    refine XS.aloadN X0.here hexec rfl (hb hbytes d2) rfl rfl ?_
    refine X0.alen hexec hB0 rfl rfl (hb hbytes d3) ?_
    exact Steps.refl _)
  by_cases hs : A.slots.size = B.slots.size
  · have c3 : Steps p.tables e below (s₁.setTop (entryFrame m #[.ref a, .ref b] 3)) (s₁.setTop (mkF m 9 #[.val (.ref a), .val (.ref b), .val (.int 0)] [])) := c2.trans (by
      refine XS.icmpNo X0.here hexec rfl (hb hbytes d4) rfl (ii_ne_f (by rw [hs])) ?_
      refine iconstV X0.here hexec rfl 0 (hb hbytes d7) (by decide) ?_
      refine XS.istoreN X0.here hexec rfl (hb hbytes d8) rfl rfl ?_
      exact Steps.refl _)
    have loop : ∀ (r i : Nat), i + r = A.slots.size → (∀ j, j < i → yv A j = yv B j) → Steps p.tables e below (s₁.setTop (entryFrame m #[.ref a, .ref b] 3)) (s₁.setTop (mkF m 9 #[.val (.ref a), .val (.ref b), .val (.int (Int32.ofNat i))] [])) → ∃ (pc : Nat) (Ls : Array Slot) (v : Int32), (pc = 25 ∨ pc = 33) ∧ ((v = 1 ∧ EqC A B) ∨ (v = 0 ∧ ¬ EqC A B)) ∧ Steps p.tables e below (s₁.setTop (entryFrame m #[.ref a, .ref b] 3)) (s₁.setTop (mkF m pc Ls [.int v])) := by
      intro r
      induction r with
      | zero =>
        intro i hi he cl
        exact ⟨33, _, 1, Or.inr rfl, Or.inl ⟨rfl, hs, fun j hj => he j (by omega)⟩, cl.trans (by
          refine XS.iloadN X0.here hexec rfl (hb hbytes d9) rfl ?_
          refine XS.aloadN X0.here hexec rfl (hb hbytes d10) rfl rfl ?_
          refine X0.alen hexec hA0 rfl rfl (hb hbytes d11) ?_
          refine XS.icmpYes X0.here hexec rfl (pc0 := 12) rfl (hb hbytes d12) rfl (ii_ge_t (nlt32 (by omega) (by omega))) (by decide) rfl ?_
          refine iconstV X0.here hexec rfl 1 (hb hbytes d32) (by decide) ?_
          exact Steps.refl _)⟩
      | succ r ih =>
        intro i hi he cl
        have c4 : Steps p.tables e below (s₁.setTop (entryFrame m #[.ref a, .ref b] 3)) (s₁.setTop (mkF m 21 #[.val (.ref a), .val (.ref b), .val (.int (Int32.ofNat i))] [.int (yv B i), .int (yv A i)])) := cl.trans (by
          refine XS.iloadN X0.here hexec rfl (hb hbytes d9) rfl ?_
          refine XS.aloadN X0.here hexec rfl (hb hbytes d10) rfl rfl ?_
          refine X0.alen hexec hA0 rfl rfl (hb hbytes d11) ?_
          refine XS.icmpNo X0.here hexec rfl (hb hbytes d12) rfl (ii_ge_f (lt32 (by omega) (by omega))) ?_
          refine XS.aloadN X0.here hexec rfl (hb hbytes d15) rfl rfl ?_
          refine XS.iloadN X0.here hexec rfl (hb hbytes d16) rfl ?_
          refine X0.aget hexec hA0 rfl (yv_get hA tA (i := i) (by omega)) rfl rfl (hb hbytes d17) ?_
          refine XS.aloadN X0.here hexec rfl (hb hbytes d18) rfl rfl ?_
          refine XS.iloadN X0.here hexec rfl (hb hbytes d19) rfl ?_
          refine X0.aget hexec hB0 rfl (yv_get hB tB (i := i) (by omega)) rfl rfl (hb hbytes d20) ?_
          exact Steps.refl _)
        by_cases hv : yv A i = yv B i
        · have c5 : Steps p.tables e below (s₁.setTop (entryFrame m #[.ref a, .ref b] 3)) (s₁.setTop (mkF m 9 #[.val (.ref a), .val (.ref b), .val (.int (Int32.ofNat i + 1))] [])) := c4.trans (by
            refine XS.icmpYes X0.here hexec rfl (pc0 := 21) rfl (hb hbytes d21) rfl (ii_eq_t hv) (by decide) rfl ?_
            refine iincV X0.here hexec rfl 1 (hb hbytes d26) (by decide) rfl rfl ?_
            refine XS.goto X0.here hexec rfl (pc0 := 29) rfl (hb hbytes d29) (by decide) rfl ?_
            exact Steps.refl _)
          rw [succ32] at c5
          exact ih (i + 1) (by omega) (fun j hj => by
            by_cases e : j = i
            · rw [e]; exact hv
            · exact he j (by omega)) c5
        · exact ⟨25, _, 0, Or.inl rfl, Or.inr ⟨rfl, fun q => hv (q.2 i (by omega))⟩, c4.trans (by
            refine XS.icmpNo X0.here hexec rfl (hb hbytes d21) rfl (ii_eq_f hv) ?_
            refine iconstV X0.here hexec rfl 0 (hb hbytes d24) (by decide) ?_
            exact Steps.refl _)⟩
    obtain ⟨pc, Ls, v, hpc, hv, cz⟩ := loop A.slots.size 0 (by omega) (fun j hj => absurd hj (Nat.not_lt_zero j)) c3
    have nv : narrow .boolean (.int v) = .int v := by rcases hv with ⟨rfl, -⟩ | ⟨rfl, -⟩ <;> rfl
    rcases hpc with rfl | rfl
    · exact ⟨s₁, some (.int v), _, _, _, X0, rfl, rfl, rfl, (fun h => by cases h), ⟨v, rfl, hh0, hv⟩, fun fs hl => cz.trans (X0.ireturnOut hexec hret nv (Or.inr (Or.inl rfl)) (hb hbytes d25) hl)⟩
    · exact ⟨s₁, some (.int v), _, _, _, X0, rfl, rfl, rfl, (fun h => by cases h), ⟨v, rfl, hh0, hv⟩, fun fs hl => cz.trans (X0.ireturnOut hexec hret nv (Or.inr (Or.inl rfl)) (hb hbytes d33) hl)⟩
  · have c3 : Steps p.tables e below (s₁.setTop (entryFrame m #[.ref a, .ref b] 3)) (s₁.setTop (mkF m 35 #[.val (.ref a), .val (.ref b), .unset] [.int 0])) := c2.trans (by
      refine XS.icmpYes X0.here hexec rfl (pc0 := 4) rfl (hb hbytes d4) rfl (ii_ne_t (ne32 a31 b31 hs)) (by decide) rfl ?_
      refine iconstV X0.here hexec rfl 0 (hb hbytes d34) (by decide) ?_
      exact Steps.refl _)
    exact ⟨s₁, some (.int 0), _, _, _, X0, rfl, rfl, rfl, (fun h => by cases h), ⟨0, rfl, hh0, Or.inr ⟨rfl, fun q => hs q.1⟩⟩, fun fs hl => c3.trans (X0.ireturnOut hexec hret rfl (Or.inr (Or.inl rfl)) (hb hbytes d35) hl)⟩
end LEq
theorem Cod.ty {cd : Int32} {n : Nat} {f : Nat → Int32} {V : Cell} (h : Cod cd n f V) : Typed .byte V := fun i v hv => by
  have hi : i < V.slots.size := (Array.getElem?_eq_some_iff.mp hv).1
  rcases h with ⟨-, k1, k2⟩ | ⟨-, k1, k2, -⟩
  · rw [(k2 i (by omega)).1] at hv; cases hv; exact fits_lo8 _
  · rcases Nat.mod_two_eq_zero_or_one i with e | e
    · obtain ⟨j, rfl⟩ : ∃ j, i = 2 * j := ⟨i / 2, by omega⟩
      rw [(k2 j (by omega)).1] at hv; cases hv; exact fits_lo8 _
    · obtain ⟨j, rfl⟩ : ∃ j, i = 2 * j + 1 := ⟨i / 2, by omega⟩
      rw [(k2 j (by omega)).2] at hv; cases hv; exact fits_lo8 _
/-- the same text -/
def SameT (n : Nat) (f : Nat → Int32) (k : Nat) (g : Nat → Int32) : Prop := n = k ∧ ∀ j, j < n → f j = g j
theorem lo8_inj {x y : Int32} (h0 : ¬ x < 0) (h1 : ¬ 255 < x) (k0 : ¬ y < 0) (k1 : ¬ 255 < y) (h : lo8 x = lo8 y) : x = y := by
  rw [← lo8_mask h0 h1, ← lo8_mask k0 k1, h]
/-- arrays coded by one coder are equal just where the texts are -/
theorem Cod.eqv {cd : Int32} {n k : Nat} {f g : Nat → Int32} {V V' : Cell} (h : Cod cd n f V) (h' : Cod cd k g V') (hf : ∀ j, j < n → ¬ f j < 0 ∧ ¬ 65535 < f j) (hg : ∀ j, j < k → ¬ g j < 0 ∧ ¬ 65535 < g j) : EqC V V' ↔ SameT n f k g := by
  have yvv : ∀ {W : Cell} {i : Nat} {x : Int32}, W.slots[i]? = some (.int x) → yv W i = x := fun q => by unfold yv; rw [q]
  rcases h with ⟨rfl, k1, k2⟩ | ⟨rfl, k1, k2, -⟩
  · rcases h' with ⟨-, m1, m2⟩ | ⟨e, -⟩
    · constructor
      · rintro ⟨e1, e2⟩
        refine ⟨by omega, fun j hj => ?_⟩
        have q := e2 j (by omega)
        rw [yvv (k2 j hj).1, yvv (m2 j (by omega)).1] at q
        exact lo8_inj (hf j hj).1 (k2 j hj).2 (hg j (by omega)).1 (m2 j (by omega)).2 q
      · rintro ⟨rfl, e2⟩
        refine ⟨by omega, fun j hj => ?_⟩
        rw [yvv (k2 j (by omega)).1, yvv (m2 j (by omega)).1, e2 j (by omega)]
    · exact absurd e (by decide)
  · rcases h' with ⟨e, -⟩ | ⟨-, m1, m2, -⟩
    · exact absurd e (by decide)
    · constructor
      · rintro ⟨e1, e2⟩
        refine ⟨by omega, fun j hj => ?_⟩
        have q1 := e2 (2 * j) (by omega)
        have q2 := e2 (2 * j + 1) (by omega)
        rw [yvv (k2 j hj).1, yvv (m2 j (by omega)).1] at q1
        rw [yvv (k2 j hj).2, yvv (m2 j (by omega)).2] at q2
        rw [← pair_says (hf j hj).1 (hf j hj).2, ← pair_says (hg j (by omega)).1 (hg j (by omega)).2, q1, q2]
      · rintro ⟨rfl, e2⟩
        refine ⟨by omega, fun i hi => ?_⟩
        rcases Nat.mod_two_eq_zero_or_one i with e | e
        · obtain ⟨j, rfl⟩ : ∃ j, i = 2 * j := ⟨i / 2, by omega⟩
          rw [yvv (k2 j (by omega)).1, yvv (m2 j (by omega)).1, e2 j (by omega)]
        · obtain ⟨j, rfl⟩ : ∃ j, i = 2 * j + 1 := ⟨i / 2, by omega⟩
          rw [yvv (k2 j (by omega)).2, yvv (m2 j (by omega)).2, e2 j (by omega)]
/-- two codings differ: so do the texts -/
theorem Cod.dif {cd cd' : Int32} {n k : Nat} {f g : Nat → Int32} {V V' : Cell} (h : Cod cd n f V) (h' : Cod cd' k g V') (hne : ¬ cd = cd') : ¬ SameT n f k g := by
  rintro ⟨rfl, e⟩
  rcases h with ⟨rfl, -, k2⟩ | ⟨rfl, -, -, j, hj, hw⟩
  · rcases h' with ⟨rfl, -⟩ | ⟨-, -, -, j, hj, hw⟩
    · exact hne rfl
    · exact (k2 j hj).2 (by rw [e j hj]; exact hw)
  · rcases h' with ⟨-, -, m2⟩ | ⟨rfl, -⟩
    · exact (m2 j hj).2 (by rw [← e j hj]; exact hw)
    · exact hne rfl
/-- an object of exactly C is an instance of C -/
theorem cinst {p : Program} {l : Launch} {e : Env} {R : Room} {s : State} {m : MethodId} {args : Array Value} {below : List Frame} {meth : Method} {c : Code} {T : State} {locs : List Loc} {cells slots : Nat} (X : Stand p l e R s m args below meth c T locs cells slots) (hexec : p.tables.exec = Jvm.exec) {own C : String} {index : Nat} (hown : s.vm.findClass own = some m.cls) (hlink : (Cond.classLink own index C).before args s = true) {a : Addr} (hE : Exact C a T)
    {g : JFrame} (hg : g.method = m) {rest : List Value} (hstack : g.stack = .ref a :: rest) (hdg : decode c.code g.pc = .ok (.instanceof index, 3)) :
    ∃ T', Stand p l e R s m args below meth c T' locs cells slots ∧ T'.heap = T.heap ∧ ∀ target, Steps p.tables e below (T'.setTop { g with pc := g.pc + 3, stack := .int 1 :: rest }) target → Steps p.tables e below (T.setTop g) target := by
  obtain ⟨cB, h1, D, h2, h3, h4⟩ := hE
  have h1' : s.vm.findClass C = some cB := by rw [← X.warmed.alike.findClass]; exact h1
  obtain ⟨vm', X', st⟩ := X.instanceofYes hexec hown hlink h2 h4 h1' (by rw [h3]; exact Jvm.Free.SB.assignable_self _ _) hg hstack hdg
  exact ⟨_, X', rfl, st⟩
theorem cself {p : Program} {l : Launch} {e : Env} {R : Room} {s : State} {m : MethodId} {args : Array Value} {below : List Frame} {meth : Method} {c : Code} {T : State} {locs : List Loc} {cells slots : Nat} (X : Stand p l e R s m args below meth c T locs cells slots) (hexec : p.tables.exec = Jvm.exec) {own C : String} {index : Nat} (hown : s.vm.findClass own = some m.cls) (hlink : (Cond.classLink own index C).before args s = true) {a : Addr} (hE : Exact C a T)
    {g : JFrame} (hg : g.method = m) {rest : List Value} (hstack : g.stack = .ref a :: rest) (hdg : decode c.code g.pc = .ok (.checkcast index, 3)) :
    ∃ T', Stand p l e R s m args below meth c T' locs cells slots ∧ T'.heap = T.heap ∧ ∀ target, Steps p.tables e below (T'.setTop { g with pc := g.pc + 3, stack := .ref a :: rest }) target → Steps p.tables e below (T.setTop g) target := by
  obtain ⟨cB, h1, D, h2, h3, h4⟩ := hE
  have h1' : s.vm.findClass C = some cB := by rw [← X.warmed.alike.findClass]; exact h1
  obtain ⟨vm', X', st⟩ := X.checkcastYes hexec hown hlink h2 h4 h1' (by rw [h3]; exact Jvm.Free.SB.assignable_self _ _) hg hstack hdg
  exact ⟨_, X', rfl, fun t h => st t (by rw [← hstack] at h; exact h)⟩
namespace SEq
def yN : MethodName := ⟨"java/lang/String", "equals", "(Ljava/lang/Object;)Z"⟩
abbrev yB : ByteArray := jdk_42_method_66_code
theorem d0 : decode yB 0 = .ok (.aload_n 0, 1) := by decide +kernel
theorem d1 : decode yB 1 = .ok (.aload_n 1, 1) := by decide +kernel
theorem d2 : decode yB 2 = .ok (.if_acmp (.ne) 5, 3) := by decide +kernel
theorem d5 : decode yB 5 = .ok (.iconst 1, 1) := by decide +kernel
theorem d6 : decode yB 6 = .ok (.ireturn, 1) := by decide +kernel
theorem d7 : decode yB 7 = .ok (.aload_n 1, 1) := by decide +kernel
theorem d8 : decode yB 8 = .ok (.instanceof 10, 3) := by decide +kernel
theorem d11 : decode yB 11 = .ok (.ifCond (.eq) 43, 3) := by decide +kernel
theorem d14 : decode yB 14 = .ok (.aload_n 1, 1) := by decide +kernel
theorem d15 : decode yB 15 = .ok (.checkcast 10, 3) := by decide +kernel
theorem d18 : decode yB 18 = .ok (.astore_n 2, 1) := by decide +kernel
theorem d19 : decode yB 19 = .ok (.getstatic 38, 3) := by decide +kernel
theorem d22 : decode yB 22 = .ok (.ifCond (.eq) 14, 3) := by decide +kernel
theorem d25 : decode yB 25 = .ok (.aload_n 0, 1) := by decide +kernel
theorem d26 : decode yB 26 = .ok (.getfield 15, 3) := by decide +kernel
theorem d29 : decode yB 29 = .ok (.aload_n 2, 1) := by decide +kernel
theorem d30 : decode yB 30 = .ok (.getfield 15, 3) := by decide +kernel
theorem d33 : decode yB 33 = .ok (.if_icmp (.ne) 21, 3) := by decide +kernel
theorem d36 : decode yB 36 = .ok (.aload_n 0, 1) := by decide +kernel
theorem d37 : decode yB 37 = .ok (.getfield 9, 3) := by decide +kernel
theorem d40 : decode yB 40 = .ok (.aload_n 2, 1) := by decide +kernel
theorem d41 : decode yB 41 = .ok (.getfield 9, 3) := by decide +kernel
theorem d44 : decode yB 44 = .ok (.invokestatic 541, 3) := by decide +kernel
theorem d47 : decode yB 47 = .ok (.ifCond (.eq) 7, 3) := by decide +kernel
theorem d50 : decode yB 50 = .ok (.iconst 1, 1) := by decide +kernel
theorem d51 : decode yB 51 = .ok (.goto 4, 3) := by decide +kernel
theorem d54 : decode yB 54 = .ok (.iconst 0, 1) := by decide +kernel
theorem d55 : decode yB 55 = .ok (.ireturn, 1) := by decide +kernel
def site : List Cond := [.classLink "java/lang/String" 10 "java/lang/String", .fieldLink "java/lang/String" 38 "java/lang/String" "COMPACT_STRINGS" "Z", .fieldLink "java/lang/String" 15 "java/lang/String" "coder" "B", .fieldLink "java/lang/String" 9 "java/lang/String" "value" "[B", LEq.tab] ++ staticW "java/lang/String" 541 LEq.yN
def tab : Cond := tabOf yN yB 3 (some .boolean) site
def P (x t : Addr) (V : Cell) (cd : Int32) (n : Nat) (f : Nat → Int32) (y t' : Addr) (V' : Cell) (cd' : Int32) (k : Nat) (g : Nat → Int32) (z : Int32) (args : Array Value) (s : State) : Prop := args = #[.ref x, .ref y] ∧ Txt x t V cd n f s ∧ Txt y t' V' cd' k g s ∧ StaticIs s "java/lang/String" "COMPACT_STRINGS" "Z" (.int z) ∧ ¬ z = 0
/-- equals(Object) of two Strings: whether the texts are the same -/
theorem law (l : Launch) (x t : Addr) (V : Cell) (cd : Int32) (n : Nat) (f : Nat → Int32) (y t' : Addr) (V' : Cell) (cd' : Int32) (k : Nat) (g : Nat → Int32) (z : Int32) : Law l yN 2 1 1 14 yB 3 (some .boolean) site (P x t V cd n f y t' V' cd' k g z) (Says01 (SameT n f k g)) [] 0 0 := by
  refine Law.of_walk (plainFor_of_name (by decide +kernel)) (by decide +kernel) (by decide +kernel) (by decide) (fun _ _ h => by rw [h.1]; rfl) (fun _ U U' hal hh h => ⟨h.1, h.2.1.mv hal hh, h.2.2.1.mv hal hh, h.2.2.2.1.there hal hh, h.2.2.2.2⟩) (fun r U U' V V' h1 hal h2 h => Says01.mv r U U' V V' h1 hal h2 h) ?_
  intro p e s m args below meth c s₁ X0 hexec hbytes hml hret hlk hnm hown hh0 W hP
  obtain ⟨rfl, hx, hy, s1, hz⟩ := hP
  have c1 : Steps p.tables e below (s₁.setTop (entryFrame m #[.ref x, .ref y] 3)) (s₁.setTop (mkF m 2 #[.val (.ref x), .val (.ref y), .unset] [.ref y, .ref x])) := Steps.trans (entry rfl) (by
    show Steps p.tables e below (s₁.setTop (mkF m 0 #[.val (.ref x), .val (.ref y), .unset] [])) _
    refine XS.aloadN X0.here hexec rfl (hb hbytes d0) rfl rfl ?_
    refine XS.aloadN X0.here hexec rfl (hb hbytes d1) rfl rfl ?_
    exact Steps.refl _)
  by_cases hxy : x = y
  · have c2 : Steps p.tables e below (s₁.setTop (entryFrame m #[.ref x, .ref y] 3)) (s₁.setTop (mkF m 6 #[.val (.ref x), .val (.ref y), .unset] [.int 1])) := c1.trans (by
      refine acmpNo X0.here hexec rfl (hb hbytes d2) rfl rfl rfl (by simp [acmp, hxy]) ?_
      refine iconstV X0.here hexec rfl 1 (hb hbytes d5) (by decide) ?_
      exact Steps.refl _)
    subst hxy
    have ec : cd = cd' := by
      obtain ⟨D, fd, a1, a2, a3⟩ := hx.2.2.1
      obtain ⟨D', fd', b1, b2, b3⟩ := hy.2.2.1
      cases a1.symm.trans b1
      obtain ⟨q1, q2, q3, q4⟩ := a2.1
      obtain ⟨r1, r2, r3, r4⟩ := b2.1
      cases q4.symm.trans r4
      cases a3.symm.trans b3; rfl
    have et : t = t' := by
      obtain ⟨D, fd, a1, a2, a3⟩ := hx.2.1
      obtain ⟨D', fd', b1, b2, b3⟩ := hy.2.1
      cases a1.symm.trans b1
      obtain ⟨q1, q2, q3, q4⟩ := a2.1
      obtain ⟨r1, r2, r3, r4⟩ := b2.1
      cases q4.symm.trans r4
      cases a3.symm.trans b3; rfl
    subst ec et
    have ev : V = V' := by cases hx.2.2.2.1.1.symm.trans hy.2.2.2.1.1; rfl
    subst ev
    have hs : SameT n f k g := (Cod.eqv hx.2.2.2.2.1 hy.2.2.2.2.1 hx.2.2.2.2.2 hy.2.2.2.2.2).mp ⟨rfl, fun _ _ => rfl⟩
    exact ⟨s₁, some (.int 1), _, _, _, X0, rfl, rfl, rfl, (fun h => by cases h), ⟨1, rfl, hh0, Or.inl ⟨rfl, hs⟩⟩, fun fs hl => c2.trans (X0.ireturnOut hexec hret rfl (Or.inr (Or.inl rfl)) (hb hbytes d6) hl)⟩
  · have c2 : Steps p.tables e below (s₁.setTop (entryFrame m #[.ref x, .ref y] 3)) (s₁.setTop (mkF m 8 #[.val (.ref x), .val (.ref y), .unset] [.ref y])) := c1.trans (by
      refine acmpYes X0.here hexec rfl (pc0 := 2) rfl (hb hbytes d2) rfl rfl rfl (by simp [acmp, hxy]) (by decide) rfl ?_
      refine XS.aloadN X0.here hexec rfl (hb hbytes d7) rfl rfl ?_
      exact Steps.refl _)
    obtain ⟨T3, X3, q3, st3⟩ := cinst X0 hexec hown (wk W (.classLink "java/lang/String" 10 "java/lang/String")) (hy.mv X0.warmed.alike hh0).1 (g := (mkF m 8 #[.val (.ref x), .val (.ref y), .unset] [.ref y])) rfl (rest := []) rfl (hb hbytes d8)
    have hh3 := q3.trans hh0
    have c4 : Steps p.tables e below (s₁.setTop (entryFrame m #[.ref x, .ref y] 3)) (T3.setTop (mkF m 15 #[.val (.ref x), .val (.ref y), .unset] [.ref y])) := (c2.trans (st3 _ (Steps.refl _))).trans (by
      refine XS.ifNo X3.here hexec rfl (hb hbytes d11) rfl (i0_eq_f (by decide)) ?_
      refine XS.aloadN X3.here hexec rfl (hb hbytes d14) rfl rfl ?_
      exact Steps.refl _)
    obtain ⟨T5, X5, q5, st5⟩ := cself X3 hexec hown (wk W (.classLink "java/lang/String" 10 "java/lang/String")) (hy.mv X3.warmed.alike hh3).1 (g := (mkF m 15 #[.val (.ref x), .val (.ref y), .unset] [.ref y])) rfl (rest := []) rfl (hb hbytes d15)
    have hh5 := q5.trans hh3
    have c6 : Steps p.tables e below (s₁.setTop (entryFrame m #[.ref x, .ref y] 3)) (T5.setTop (mkF m 19 #[.val (.ref x), .val (.ref y), .val (.ref y)] [])) := (c4.trans (st5 _ (Steps.refl _))).trans (by
      refine XS.astoreN X5.here hexec rfl (hb hbytes d18) rfl rfl rfl ?_
      exact Steps.refl _)
    obtain ⟨T7, X7, q7, st7⟩ := X5.sget hexec hown (wk W (.fieldLink "java/lang/String" 38 "java/lang/String" "COMPACT_STRINGS" "Z")) s1 (fun _ _ h => by rw [hh5]; exact h) (g := (mkF m 19 #[.val (.ref x), .val (.ref y), .val (.ref y)] [])) rfl (hb hbytes d19)
    have hh7 := q7.trans hh5
    have c8 : Steps p.tables e below (s₁.setTop (entryFrame m #[.ref x, .ref y] 3)) (T7.setTop (mkF m 26 #[.val (.ref x), .val (.ref y), .val (.ref y)] [.ref x])) := (c6.trans (st7 _ (Steps.refl _))).trans (by
      refine XS.ifNo X7.here hexec rfl (hb hbytes d22) rfl (i0_eq_f hz) ?_
      refine XS.aloadN X7.here hexec rfl (hb hbytes d25) rfl rfl ?_
      exact Steps.refl _)
    obtain ⟨T9, X9, q9, st9⟩ := X7.hget hexec hown (wk W (.fieldLink "java/lang/String" 15 "java/lang/String" "coder" "B")) (hx.mv X7.warmed.alike hh7).2.2.1 (g := (mkF m 26 #[.val (.ref x), .val (.ref y), .val (.ref y)] [.ref x])) rfl (rest := []) rfl (hb hbytes d26)
    have hh9 := q9.trans hh7
    have c10 : Steps p.tables e below (s₁.setTop (entryFrame m #[.ref x, .ref y] 3)) (T9.setTop (mkF m 30 #[.val (.ref x), .val (.ref y), .val (.ref y)] [.ref y, .int cd])) := (c8.trans (st9 _ (Steps.refl _))).trans (by
      refine XS.aloadN X9.here hexec rfl (hb hbytes d29) rfl rfl ?_
      exact Steps.refl _)
    obtain ⟨T11, X11, q11, st11⟩ := X9.hget hexec hown (wk W (.fieldLink "java/lang/String" 15 "java/lang/String" "coder" "B")) (hy.mv X9.warmed.alike hh9).2.2.1 (g := (mkF m 30 #[.val (.ref x), .val (.ref y), .val (.ref y)] [.ref y, .int cd])) rfl (rest := [.int cd]) rfl (hb hbytes d30)
    have hh11 := q11.trans hh9
    have c12 : Steps p.tables e below (s₁.setTop (entryFrame m #[.ref x, .ref y] 3)) (T11.setTop (mkF m 33 #[.val (.ref x), .val (.ref y), .val (.ref y)] [.int cd', .int cd])) := c10.trans (st11 _ (Steps.refl _))
    by_cases hcd : cd = cd'
    · subst hcd
      have c13 : Steps p.tables e below (s₁.setTop (entryFrame m #[.ref x, .ref y] 3)) (T11.setTop (mkF m 37 #[.val (.ref x), .val (.ref y), .val (.ref y)] [.ref x])) := c12.trans (by
        refine XS.icmpNo X11.here hexec rfl (hb hbytes d33) rfl (ii_ne_f rfl) ?_
        refine XS.aloadN X11.here hexec rfl (hb hbytes d36) rfl rfl ?_
        exact Steps.refl _)
      obtain ⟨T14, X14, q14, st14⟩ := X11.hget hexec hown (wk W (.fieldLink "java/lang/String" 9 "java/lang/String" "value" "[B")) (hx.mv X11.warmed.alike hh11).2.1 (g := (mkF m 37 #[.val (.ref x), .val (.ref y), .val (.ref y)] [.ref x])) rfl (rest := []) rfl (hb hbytes d37)
      have hh14 := q14.trans hh11
      have c15 : Steps p.tables e below (s₁.setTop (entryFrame m #[.ref x, .ref y] 3)) (T14.setTop (mkF m 41 #[.val (.ref x), .val (.ref y), .val (.ref y)] [.ref y, .ref t])) := (c13.trans (st14 _ (Steps.refl _))).trans (by
        refine XS.aloadN X14.here hexec rfl (hb hbytes d40) rfl rfl ?_
        exact Steps.refl _)
      obtain ⟨T16, X16, q16, st16⟩ := X14.hget hexec hown (wk W (.fieldLink "java/lang/String" 9 "java/lang/String" "value" "[B")) (hy.mv X14.warmed.alike hh14).2.1 (g := (mkF m 41 #[.val (.ref x), .val (.ref y), .val (.ref y)] [.ref y, .ref t])) rfl (rest := [.ref t]) rfl (hb hbytes d41)
      have hh16 := q16.trans hh14
      have c17 : Steps p.tables e below (s₁.setTop (entryFrame m #[.ref x, .ref y] 3)) (T16.setTop (mkF m 44 #[.val (.ref x), .val (.ref y), .val (.ref y)] [.ref t', .ref t])) := c15.trans (st16 _ (Steps.refl _))
      obtain ⟨v18, T18, X18, E18, g18⟩ := X16.callS hexec (LEq.law l t V t' V') hown (wks W (staticW "java/lang/String" 541 LEq.yN)) (wk W LEq.tab) (W := 0) (Nat.le_of_ble_eq_true rfl) (Nat.le_of_ble_eq_true rfl) (Nat.le_refl _) (Nat.le_refl _) (g := (mkF m 44 #[.val (.ref x), .val (.ref y), .val (.ref y)] [.ref t', .ref t])) rfl (by rw [hml]; rfl) c17 (argsL := [.ref t, .ref t']) (rest := []) rfl rfl (by show 2 * 0 + 0 ≤ _; decide) (hb hbytes d44) (⟨rfl, hx.2.2.2.1.mv X16.warmed.alike hh16, hx.2.2.2.2.1.ty, hy.2.2.2.1.mv X16.warmed.alike hh16, hy.2.2.2.2.1.ty⟩)
      obtain ⟨v, rfl, q18, hv⟩ := E18
      have iff := Cod.eqv hx.2.2.2.2.1 hy.2.2.2.2.1 hx.2.2.2.2.2 hy.2.2.2.2.2
      rcases hv with ⟨rfl, he⟩ | ⟨rfl, he⟩
      · have c19 : Steps p.tables e below (s₁.setTop (entryFrame m #[.ref x, .ref y] 3)) (T18.setTop (mkF m 55 #[.val (.ref x), .val (.ref y), .val (.ref y)] [.int 1])) := Steps.trans g18 (by
          refine XS.ifNo X18.here hexec rfl (hb hbytes d47) rfl (i0_eq_f (by decide)) ?_
          refine iconstV X18.here hexec rfl 1 (hb hbytes d50) (by decide) ?_
          refine XS.goto X18.here hexec rfl (pc0 := 51) rfl (hb hbytes d51) (by decide) rfl ?_
          exact Steps.refl _)
        exact ⟨T18, some (.int 1), _, _, _, X18, rfl, rfl, rfl, (fun h => by cases h), ⟨1, rfl, q18.trans hh16, Or.inl ⟨rfl, iff.mp he⟩⟩, fun fs hl => c19.trans (X18.ireturnOut hexec hret rfl (Or.inr (Or.inl rfl)) (hb hbytes d55) hl)⟩
      · have c19 : Steps p.tables e below (s₁.setTop (entryFrame m #[.ref x, .ref y] 3)) (T18.setTop (mkF m 55 #[.val (.ref x), .val (.ref y), .val (.ref y)] [.int 0])) := Steps.trans g18 (by
          refine XS.ifYes X18.here hexec rfl (pc0 := 47) rfl (hb hbytes d47) rfl (i0_eq_t rfl) (by decide) rfl ?_
          refine iconstV X18.here hexec rfl 0 (hb hbytes d54) (by decide) ?_
          exact Steps.refl _)
        exact ⟨T18, some (.int 0), _, _, _, X18, rfl, rfl, rfl, (fun h => by cases h), ⟨0, rfl, q18.trans hh16, Or.inr ⟨rfl, fun q => he (iff.mpr q)⟩⟩, fun fs hl => c19.trans (X18.ireturnOut hexec hret rfl (Or.inr (Or.inl rfl)) (hb hbytes d55) hl)⟩
    · have c13 : Steps p.tables e below (s₁.setTop (entryFrame m #[.ref x, .ref y] 3)) (T11.setTop (mkF m 55 #[.val (.ref x), .val (.ref y), .val (.ref y)] [.int 0])) := c12.trans (by
        refine XS.icmpYes X11.here hexec rfl (pc0 := 33) rfl (hb hbytes d33) rfl (ii_ne_t hcd) (by decide) rfl ?_
        refine iconstV X11.here hexec rfl 0 (hb hbytes d54) (by decide) ?_
        exact Steps.refl _)
      exact ⟨T11, some (.int 0), _, _, _, X11, rfl, rfl, rfl, (fun h => by cases h), ⟨0, rfl, hh11, Or.inr ⟨rfl, Cod.dif hx.2.2.2.2.1 hy.2.2.2.2.1 hcd⟩⟩, fun fs hl => c13.trans (X11.ireturnOut hexec hret rfl (Or.inr (Or.inl rfl)) (hb hbytes d55) hl)⟩
theorem pays {l : Launch} {R : Room} {p : Program} {e : Env} {below : List Frame} {s : State} {sargs : Array Value} {len W : Nat} (x t : Addr) (V : Cell) (cd : Int32) (n : Nat) (f : Nat → Int32) (y t' : Addr) (V' : Cell) (cd' : Int32) (k : Nat) (g : Nat → Int32) (z : Int32) (htab : tab.before sargs s = true) (hfr : 2 ≤ R.frames) (hlo : W + 28 ≤ R.locals) :
    Back l R p e below s sargs yN len W (fun A₁ a₁ => A₁.cells + 0 ≤ R.cells ∧ A₁.slots + 0 ≤ R.slots ∧ P x t V cd n f y t' V' cd' k g z a₁ A₁.U) (fun A₁ _ v₁ B₁ => Says01 (SameT n f k g) v₁ A₁.U B₁.U ∧ B₁.locs = A₁.locs ++ [] ∧ B₁.cells = A₁.cells + 0 ∧ B₁.slots = A₁.slots + 0) :=
  (law l x t V cd n f y t' V' cd' k g z).pays htab hfr (by omega)
end SEq
end StrChars
namespace StrChars.Road
open Jvm Sem ClassFile Op Lib Jvm.Stand Jvm.Free Jvm.Free.XT
open Jvm.Lib.Cold (StaticIs)
/-- the words of String.equals(Object) -/
abbrev wordsEq : List Jvm.Cond := [.code SEq.yN SEq.yB 3 (some .boolean), .initialized ST, .classLink ST 10 ST, .fieldLink ST 38 ST "COMPACT_STRINGS" "Z", .fieldLink ST 15 ST "coder" "B", .fieldLink ST 9 ST "value" "[B", .methodLink ST 541 LEq.yN, .static LEq.yN, .code LEq.yN LEq.yB 3 (some .boolean), .initialized "java/lang/StringLatin1"]
theorem tabEq_of {a : Array Value} {s : State} (h : ∀ w ∈ wordsEq, w.before a s = true) : SEq.tab.before a s = true := by
  have hl : LEq.tab.before a s = true := unparts (wk h (.code LEq.yN LEq.yB 3 (some .boolean))) (wks h (.initialized LEq.yN.cls :: LEq.site))
  have q := consq hl h
  exact unparts (wk q (.code SEq.yN SEq.yB 3 (some .boolean))) (wks q (.initialized SEq.yN.cls :: SEq.site))
theorem movedEq {Z s : State} {a0 args : Array Value} (hZ : Z.Warmed39 s.vm) (hw : ∀ d ∈ wordsEq, d.before a0 Z = true) : ∀ d ∈ wordsEq, d.before args s = true := fun d hd => by
  have t : ∀ d ∈ wordsEq, (d.onTables && d.keepsFace) = true := by decide +kernel
  exact RoadKit.mv hZ (hw d hd) (t d hd)
/-- the road's facts of a String, as the laws ask it -/
theorem txt_of {Z U : State} {a0 : Array Value} {kI : Nat} (wi : (Jvm.Cond.instantiable ST kI).before a0 Z = true) (al : Z.vm.Alike U.vm) {x t : Addr} {kb : ClassId} {cs : List Int32} {cd N2 : Int32} {vs : List Value} (E : RoadKit.Exa Z U.heap x ST) (V : RoadKit.Fld Z U.heap x ST "value" "[B" (.ref t)) (C : RoadKit.Fld Z U.heap x ST "coder" "B" (.int cd)) (K : RoadKit.Arv Z U.heap t kb .byte N2 vs (.int 0)) (hc : CodA cs cd N2 vs) (hb : ∀ c ∈ cs, ¬ c < 0 ∧ ¬ (65535 : Int32) < c) (l2 : cs.length ≤ 4000) :
    ∃ A, Txt x t A cd cs.length (fun j => cs.getD j 0) U := by
  obtain ⟨A, K1, K2, K3, K4, K5, K6⟩ := K
  have hcod := hc.cod (by omega) K3 K5
  obtain ⟨D, fV, fC, hB, F1, F2, g1, g2, -, -⟩ := strObj wi al E V C
  exact ⟨A, ⟨_, hB.2.2.1, D, hB.1, rfl, by cases q : D.vm <;> first | rfl | exact absurd q (hB.2.1.2 _)⟩, Has.of hB F1 g1, Has.of hB F2 g2, ⟨K1.1, State.isArrayOf_alike al K1.2.1, K1.2.2, by rcases hcod with ⟨-, q, -⟩ | ⟨-, q, -⟩ <;> omega⟩, hcod, fun j hj => by
    have e : cs.getD j 0 = cs[j] := by simp [List.getD_eq_getElem?_getD, hj]
    show ¬ cs.getD j 0 < 0 ∧ ¬ 65535 < cs.getD j 0
    rw [e]; exact hb _ (List.getElem_mem _)⟩
theorem same_list (cs ds : List Int32) : SameT cs.length (fun j => cs.getD j 0) ds.length (fun j => ds.getD j 0) ↔ cs = ds := by
  constructor
  · rintro ⟨e, q⟩
    refine List.ext_getElem e fun j h1 h2 => ?_
    have := q j h1
    simpa [List.getD_eq_getElem?_getD, h1, h2] using this
  · rintro rfl
    exact ⟨rfl, fun _ _ => rfl⟩
/-- **equals(Object) OF TWO SUCH STRINGS**: 1 just where the chars are the same -/
theorem eqW {p : Program} {l : Launch} {e : Env} {R : Room} {s : State} {args : Array Value} {below : List Frame} {len W : Nat} {Z : State} {a0 : Array Value} {h : Heap} (hZ : Z.Warmed39 s.vm) (hw : ∀ d ∈ wordsEq, d.before a0 Z = true) {kI : Nat} (wi : (Jvm.Cond.instantiable ST kI).before a0 Z = true)
    {x t : Addr} {kb : ClassId} {cs : List Int32} {cd N2 : Int32} {vs : List Value} (E : RoadKit.Exa Z h x ST) (V : RoadKit.Fld Z h x ST "value" "[B" (.ref t)) (C : RoadKit.Fld Z h x ST "coder" "B" (.int cd)) (K : RoadKit.Arv Z h t kb .byte N2 vs (.int 0)) (hc : CodA cs cd N2 vs) (hb : ∀ c ∈ cs, ¬ c < 0 ∧ ¬ (65535 : Int32) < c) (l2 : cs.length ≤ 4000)
    {y t' : Addr} {kb' : ClassId} {ds : List Int32} {cd' N2' : Int32} {vs' : List Value} (E' : RoadKit.Exa Z h y ST) (V' : RoadKit.Fld Z h y ST "value" "[B" (.ref t')) (C' : RoadKit.Fld Z h y ST "coder" "B" (.int cd')) (K' : RoadKit.Arv Z h t' kb' .byte N2' vs' (.int 0)) (hc' : CodA ds cd' N2' vs') (hb' : ∀ c ∈ ds, ¬ c < 0 ∧ ¬ (65535 : Int32) < c) (l2' : ds.length ≤ 4000)
    {z : Int32} (S : RoadKit.Sta Z h ST "COMPACT_STRINGS" "Z" (.int z)) (hz : ¬ z = 0) (hfr : 2 ≤ R.frames) (hlo : W + 28 ≤ R.locals) :
    Back l R p e below s args (⟨"java/lang/String", "equals", "(Ljava/lang/Object;)Z"⟩ : MethodName) len W (fun P a => a = #[.ref x, .ref y] ∧ P.U.heap = h ∧ P.cells + 0 ≤ R.cells ∧ P.slots + 0 ≤ R.slots)
      (fun P _ v B => ∃ L, (((v = some (.int 1) ∧ cs = ds) ∨ (v = some (.int 0) ∧ ¬ cs = ds)) ∧ L = [] ∧ B.U.heap = h) ∧ B.locs = P.locs ++ L ∧ B.cells = P.cells + 0 ∧ B.slots = P.slots + 0) := by
  intro m meth c P g ig mk a X hg hsize hdg hW hn hp'
  obtain ⟨rfl, rfl, r1, r2⟩ := hp'
  have al : Z.vm.Alike P.U.vm := hZ.alike.trans X.warmed.alike
  obtain ⟨A, hx⟩ := txt_of wi al E V C K hc hb l2
  obtain ⟨A', hy⟩ := txt_of wi al E' V' C' K' hc' hb' l2'
  obtain ⟨v, B, X', ⟨⟨w, hv, hh, hq⟩, hl, hk, hs⟩, st⟩ := SEq.pays x t A cd cs.length (fun j => cs.getD j 0) y t' A' cd' ds.length (fun j => ds.getD j 0) z (tabEq_of (movedEq hZ hw)) hfr hlo m meth c P g ig mk _ X hg hsize hdg hW hn ⟨r1, r2, rfl, hx, hy, sta_is al S, hz⟩
  refine ⟨v, B, X', ⟨[], ⟨?_, rfl, hh⟩, hl, hk, hs⟩, st⟩
  rcases hq with ⟨rfl, q⟩ | ⟨rfl, q⟩
  · exact Or.inl ⟨hv, (same_list cs ds).mp q⟩
  · exact Or.inr ⟨hv, fun e => q ((same_list cs ds).mpr e)⟩
end StrChars.Road
end Jvm.Pilot.@@N@@

namespace Jvm.Pilot.@@N@@
open Jvm Jvm.ClassFile Sem Op Lib Jvm.Free Jvm.Stand Jvm.LawKit Jvm.RoadKit Bundle Jvm.OwnKit
section StrKit
variable {p : Program} {l : Launch} {e : Env} {R : Room} {s : State} {m : MethodId} {args : Array Value} {below : List Frame} {meth : Method} {c : Code} {Z : State} {a0 : Array Value} {EL : List (String × Nat)} {cw : Prop} {own : String} {n0 : Nat} {bytes : ByteArray} {maxL : Nat} {ret : Option FieldType} {nm : String} {T : State} {h : Heap} {C S : Nat} {sf : List Addr} {P : State → Outcome → Prop}
theorem G.newStr (H : Hs p l e R s m args below meth c Z a0 EL cw own n0 bytes maxL ret nm T h C S sf) (hws : ∀ d ∈ StrChars.Road.words, d.before a0 Z = true) {kI : Nat} (wi : (Jvm.Cond.instantiable "java/lang/String" kI).before a0 Z = true) {index : Nat} (w1 : (Jvm.Cond.methodLink own index (⟨"java/lang/String", "<init>", "([C)V"⟩ : MethodName)).before a0 Z = true) (w2 : (Jvm.Cond.instanceMethod (⟨"java/lang/String", "<init>", "([C)V"⟩ : MethodName)).before a0 Z = true)
    {x b : Addr} {kC : ClassId} {cs : List Int32} {d v0 c0 : Value} {z N : Int32} {n : Nat} (g : n0 ≤ x) (E : Exa Z h x "java/lang/String") (V : Fld Z h x "java/lang/String" "value" "[B" v0) (Cd : Fld Z h x "java/lang/String" "coder" "B" c0) (K : Arv Z h b kC .char N (cs.map Value.int) d) (Sc : Sta Z Z.heap "java/lang/String" "COMPACT_STRINGS" "Z" (.int z)) (hz : ¬ z = 0)
    (hn : cs.length = n) (hN : N = Int32.ofNat n) (l0 : 0 < n) (l2 : n ≤ 4000) (hp : ∀ c ∈ cs, ¬ c < 0 ∧ ¬ (255 : Int32) < c) (hsf : Sf Z EL h sf x) {rest : List Value} {W : Nat} {pc J : Nat} {L : Array Slot} (hL : L.size = maxL) (hW : (rest.map fun v => v.category).sum = W) (hd : decode bytes pc = .ok (.invokespecial index, 3)) (hp' : pc + 3 = J) (hfr : 4 ≤ R.frames) (hlo : W + 65 ≤ R.locals) (hc : C + 1 ≤ R.cells) (hsl : S + n ≤ R.slots)
    (k : ∀ T' h' t kb, h.size ≤ t → Hs p l e R s m args below meth c Z a0 EL cw own n0 bytes maxL ret nm T' h' (C + 1) (S + n) (t :: sf) → Keep h h' [x] → Str Z h' x t kb cs → Go p e below P (T'.setTop (mkF m J L rest))) : Go p e below P (T.setTop (mkF m pc L (.ref b :: .ref x :: rest))) := by
  subst hp'
  obtain ⟨hM, vm0, k0, locs, X, h1, h2, h3, h4, h5, h6, h7, h8, h9, hO⟩ := id H
  have wc : (Jvm.Cond.code StrChars.New1.yN StrChars.New1.yB 2 none).before a0 Z = true := hws _ (List.mem_of_getElem? (i := 0) rfl)
  obtain ⟨v, vm₁, B, hw, X', ⟨L', ⟨q1, q2, q3, q4, q5, t, kb, q6, q7, q8, q9, q10⟩, r2, r3, r4⟩, st'⟩ := X.specialBack H.exec (y := (⟨"java/lang/String", "<init>", "([C)V"⟩ : MethodName)) rfl h5 (mvT (s := s.setVm vm0) h4 w1) (mvT (s := s.setVm vm0) h4 w2) (mvT (s := s.setVm vm0) h4 wc) (by decide)
    (StrChars.Road.backV (W := W) (s := s.setVm vm0) h4 hws wi g H.le E V Cd K (Sta.ext hO.2 Sc) hz hn hN l0 l2 hp rfl hfr hlo) (g := mkF m pc L (.ref b :: .ref x :: rest)) rfl (by rw [hM.2.2.2.1]; exact hL) (Steps.refl _) (a := x) (argsL := [.ref b]) (rest := rest) (lenOf (show parseMethodDescriptor "([C)V" = some ⟨[.array .char], none⟩ by decide +kernel) rfl) rfl (by show 2 * 0 + _ ≤ _; omega) (H.dec hd) (fun _ _ => ⟨rfl, h1, hc, hsl⟩)
  subst q1
  have sx : ∀ y ∈ [x], Safe Z EL vm0 h y := fun y hy => by rw [List.mem_singleton.mp hy]; exact hsf.safe h4 h8
  have hC := CHr.keep q3 sx h7.1
  refine Go.tr st' (k B.U B.U.heap t kb q7 ⟨hM, vm0, k0, B.locs, by rw [← r3, ← r4]; exact X', rfl, h2, Nat.le_trans h3 q3.1, h4, h5, by rw [r2]; exact Fr.app h6 q2, h7.trans hC, fun y hy => ?_, h9, hO.keep q3 (fun y hy => by rw [List.mem_singleton.mp hy]; exact g)⟩ q3 ⟨q4, q5, q9, ?_, hp, by rw [hn]; exact l2⟩)
  · rcases List.mem_cons.mp hy with rfl | hy
    · exact ⟨q10.lt, Safe.keep q3 sx h7.1 (Safe.new q7)⟩
    · exact ⟨Nat.lt_of_lt_of_le (h8 y hy).1 q3.1, Safe.keep q3 sx h7.1 (h8 y hy).2⟩
  · rw [hn, ← hN]; rw [List.map_map] at q10; exact q10
end StrKit
end Jvm.Pilot.@@N@@
namespace Jvm.Pilot.@@N@@
open Jvm Jvm.ClassFile Sem Op Lib Jvm.Free Jvm.Stand Jvm.LawKit Jvm.RoadKit Bundle Jvm.OwnKit
section StrKit2
variable {p : Program} {l : Launch} {e : Env} {R : Room} {s : State} {m : MethodId} {args : Array Value} {below : List Frame} {meth : Method} {c : Code} {Z : State} {a0 : Array Value} {EL : List (String × Nat)} {cw : Prop} {own : String} {n0 : Nat} {bytes : ByteArray} {maxL : Nat} {ret : Option FieldType} {nm : String} {T : State} {h : Heap} {C S : Nat} {sf : List Addr} {P : State → Outcome → Prop}
theorem str_cod {a t : Addr} {kb : ClassId} {cs : List Int32} (F : Str Z h a t kb cs) : StrChars.Road.CodA cs 0 (Int32.ofNat cs.length) (cs.map fun c => Value.int c.toInt8.toInt32) := Or.inl ⟨rfl, rfl, rfl, fun c hc => (F.2.2.2.2.1 c hc).2⟩
theorem str_u16 {a t : Addr} {kb : ClassId} {cs : List Int32} (F : Str Z h a t kb cs) : ∀ c ∈ cs, ¬ c < 0 ∧ ¬ (65535 : Int32) < c := fun c hc => own_u16 (F.2.2.2.2.1 c hc)
theorem G.strEq (H : Hs p l e R s m args below meth c Z a0 EL cw own n0 bytes maxL ret nm T h C S sf) (hws : ∀ d ∈ StrChars.Road.wordsEq, d.before a0 Z = true) {kI : Nat} (wi : (Jvm.Cond.instantiable "java/lang/String" kI).before a0 Z = true) {index : Nat} {yc : String} (w1 : (Jvm.Cond.methodLink own index (⟨yc, "equals", "(Ljava/lang/Object;)Z"⟩ : MethodName)).before a0 Z = true) (hyc : yc ≠ "java/lang/invoke/MethodHandle" ∧ yc ≠ "java/lang/invoke/VarHandle") (w2 : (Jvm.Cond.declares (⟨yc, "equals", "(Ljava/lang/Object;)Z"⟩ : MethodName)).before a0 Z = true) (wn : ∀ s' : State, Z.Warmed39 s'.vm → NotFace s' (⟨yc, "equals", "(Ljava/lang/Object;)Z"⟩ : MethodName)) (w3 : (Jvm.Cond.selects "java/lang/String" (⟨yc, "equals", "(Ljava/lang/Object;)Z"⟩ : MethodName) (⟨"java/lang/String", "equals", "(Ljava/lang/Object;)Z"⟩ : MethodName)).before a0 Z = true) (w4 : (Jvm.Cond.instanceMethod (⟨"java/lang/String", "equals", "(Ljava/lang/Object;)Z"⟩ : MethodName)).before a0 Z = true)
    {x t y t' : Addr} {kb kb' : ClassId} {cs ds : List Int32} (F : Str Z h x t kb cs) (F' : Str Z h y t' kb' ds) {z : Int32} (Sc : Sta Z Z.heap "java/lang/String" "COMPACT_STRINGS" "Z" (.int z)) (hz : ¬ z = 0) {rest : List Value} {W : Nat} {pc J : Nat} {L : Array Slot} (hL : L.size = maxL) (hW : (rest.map fun v => v.category).sum = W) (hd : decode bytes pc = .ok (.invokevirtual index, 3)) (hp : pc + 3 = J) (hfr : 2 ≤ R.frames) (hlo : W + 28 ≤ R.locals) (hc : C ≤ R.cells) (hsl : S ≤ R.slots)
    (k1 : ∀ T', Hs p l e R s m args below meth c Z a0 EL cw own n0 bytes maxL ret nm T' h C S sf → cs = ds → Go p e below P (T'.setTop (mkF m J L (.int 1 :: rest)))) (k0 : ∀ T', Hs p l e R s m args below meth c Z a0 EL cw own n0 bytes maxL ret nm T' h C S sf → ¬ cs = ds → Go p e below P (T'.setTop (mkF m J L (.int 0 :: rest)))) : Go p e below P (T.setTop (mkF m pc L (.ref y :: .ref x :: rest))) := by
  refine G.pureV H (Qv := fun v => (v = some (.int 1) ∧ cs = ds) ∨ (v = some (.int 0) ∧ ¬ cs = ds)) (W := W) (fun s' hZ' => StrChars.Road.eqW (s := s') hZ' hws wi F.1 F.2.2.1 F.2.1 F.2.2.2.1 (str_cod F) (str_u16 F) F.2.2.2.2.2 F'.1 F'.2.2.1 F'.2.1 F'.2.2.2.1 (str_cod F') (str_u16 F') F'.2.2.2.2.2 (Sta.ext H.old.2 Sc) hz hfr hlo) w1 w2 wn w3 w4 hyc F.1 (argsL := [.ref y]) (rest := rest) hL rfl (lenOf (show parseMethodDescriptor "(Ljava/lang/Object;)Z" = some ⟨[.object "java/lang/Object"], some .boolean⟩ by decide +kernel) rfl) rfl hW hd hp hc hsl ?_
  intro T' v H' hq
  rcases hq with ⟨rfl, q⟩ | ⟨rfl, q⟩
  · exact k1 T' H' q
  · exact k0 T' H' q
end StrKit2
end Jvm.Pilot.@@N@@
namespace Jvm.Pilot.@@N@@
open Jvm Jvm.ClassFile Sem Op Lib Jvm.Free Jvm.Stand Jvm.LawKit Jvm.RoadKit Bundle Jvm.OwnKit Jvm.Pilot.@@N@@.Jvm.D
abbrev ELs : List (String × Nat) := [("com/example/formboard/formboard/core/Board$Live", 7), ("com/example/formboard/formboard/core/Board$Live", 15), ("com/example/formboard/formboard/core/Board$Live", 39), ("com/example/formboard/formboard/core/Board$Live", 44), ("com/example/formboard/formboard/core/Board$Live", 54), ("com/example/formboard/formboard/core/LiveDescriptionPinLaw", 8), ("com/example/formboard/formboard/core/LiveDescriptionPinLaw", 50), ("com/example/formboard/formboard/core/LiveDescriptionPinLaw", 52), ("com/example/formboard/formboard/core/LiveDescriptionPinLaw", 54)]
def Env1 (Z : State) (a0 : Array Value) (n0 : Nat) (uu0 : Addr) (uu1 : Addr) (uu2 : Addr) (uu3 : Int32) (uu4 : Value) : Prop := (∀ d ∈ tables_1, d.before a0 Z = true) ∧ EW Z a0 ELs ∧ Sta Z Z.heap "com/example/formboard/formboard/core/Board$Part" "HINT" "Lcom/example/formboard/formboard/core/Board$Part;" (.ref uu0) ∧ Exa Z Z.heap uu0 "com/example/formboard/formboard/core/Board$Part" ∧ Sta Z Z.heap "com/example/formboard/formboard/core/Board$Part" "TITLE" "Lcom/example/formboard/formboard/core/Board$Part;" (.ref uu1) ∧ Exa Z Z.heap uu1 "com/example/formboard/formboard/core/Board$Part" ∧ Sta Z Z.heap "com/example/formboard/formboard/core/Board$Part" "TOGGLE" "Lcom/example/formboard/formboard/core/Board$Part;" (.ref uu2) ∧ Exa Z Z.heap uu2 "com/example/formboard/formboard/core/Board$Part" ∧ Fld Z Z.heap uu1 "java/lang/Enum" "ordinal" "I" (.int (0 : Int32)) ∧ Fld Z Z.heap uu0 "java/lang/Enum" "ordinal" "I" (.int (1 : Int32)) ∧ Fld Z Z.heap uu2 "java/lang/Enum" "ordinal" "I" (.int (2 : Int32)) ∧ Sta Z Z.heap "java/lang/String" "COMPACT_STRINGS" "Z" (.int uu3) ∧ ¬ uu3 = 0 ∧ Sta Z Z.heap "jdk/internal/util/Preconditions" "SIOOBE_FORMATTER" "Ljava/util/function/BiFunction;" uu4 ∧ uu4.isRef = true ∧ True
set_option maxRecDepth 65536
set_option maxHeartbeats 40000000
theorem wq (V : Env1 Z a0 n0 uu0 uu1 uu2 uu3 uu4) {d : Jvm.Cond} (i : Nat) (h : tables_1[i]? = some d) : d.before a0 Z = true := V.1 _ (List.mem_of_getElem? h)
theorem EWl (V : Env1 Z a0 n0 uu0 uu1 uu2 uu3 uu4) : EW Z a0 ELs := V.2.1
theorem hv0 (V : Env1 Z a0 n0 uu0 uu1 uu2 uu3 uu4) : Sta Z Z.heap "com/example/formboard/formboard/core/Board$Part" "HINT" "Lcom/example/formboard/formboard/core/Board$Part;" (.ref uu0) := V.2.2.1
theorem hv1 (V : Env1 Z a0 n0 uu0 uu1 uu2 uu3 uu4) : Exa Z Z.heap uu0 "com/example/formboard/formboard/core/Board$Part" := V.2.2.2.1
theorem hv2 (V : Env1 Z a0 n0 uu0 uu1 uu2 uu3 uu4) : Sta Z Z.heap "com/example/formboard/formboard/core/Board$Part" "TITLE" "Lcom/example/formboard/formboard/core/Board$Part;" (.ref uu1) := V.2.2.2.2.1
theorem hv3 (V : Env1 Z a0 n0 uu0 uu1 uu2 uu3 uu4) : Exa Z Z.heap uu1 "com/example/formboard/formboard/core/Board$Part" := V.2.2.2.2.2.1
theorem hv4 (V : Env1 Z a0 n0 uu0 uu1 uu2 uu3 uu4) : Sta Z Z.heap "com/example/formboard/formboard/core/Board$Part" "TOGGLE" "Lcom/example/formboard/formboard/core/Board$Part;" (.ref uu2) := V.2.2.2.2.2.2.1
theorem hv5 (V : Env1 Z a0 n0 uu0 uu1 uu2 uu3 uu4) : Exa Z Z.heap uu2 "com/example/formboard/formboard/core/Board$Part" := V.2.2.2.2.2.2.2.1
theorem hv6 (V : Env1 Z a0 n0 uu0 uu1 uu2 uu3 uu4) : Fld Z Z.heap uu1 "java/lang/Enum" "ordinal" "I" (.int (0 : Int32)) := V.2.2.2.2.2.2.2.2.1
theorem hv7 (V : Env1 Z a0 n0 uu0 uu1 uu2 uu3 uu4) : Fld Z Z.heap uu0 "java/lang/Enum" "ordinal" "I" (.int (1 : Int32)) := V.2.2.2.2.2.2.2.2.2.1
theorem hv8 (V : Env1 Z a0 n0 uu0 uu1 uu2 uu3 uu4) : Fld Z Z.heap uu2 "java/lang/Enum" "ordinal" "I" (.int (2 : Int32)) := V.2.2.2.2.2.2.2.2.2.2.1
theorem hv9 (V : Env1 Z a0 n0 uu0 uu1 uu2 uu3 uu4) : Sta Z Z.heap "java/lang/String" "COMPACT_STRINGS" "Z" (.int uu3) := V.2.2.2.2.2.2.2.2.2.2.2.1
theorem hv10 (V : Env1 Z a0 n0 uu0 uu1 uu2 uu3 uu4) : ¬ uu3 = 0 := V.2.2.2.2.2.2.2.2.2.2.2.2.1
theorem hv11 (V : Env1 Z a0 n0 uu0 uu1 uu2 uu3 uu4) : Sta Z Z.heap "jdk/internal/util/Preconditions" "SIOOBE_FORMATTER" "Ljava/util/function/BiFunction;" uu4 := V.2.2.2.2.2.2.2.2.2.2.2.2.2.1
theorem hv12 (V : Env1 Z a0 n0 uu0 uu1 uu2 uu3 uu4) : uu4.isRef = true := V.2.2.2.2.2.2.2.2.2.2.2.2.2.2.1
theorem wd0 (V : Env1 Z a0 n0 uu0 uu1 uu2 uu3 uu4) : (Cond.constant "com/example/formboard/formboard/core/LiveDescriptionPinLaw" 7 (2147483647 : Int32)).before a0 Z = true := wq V 0 rfl
theorem wd1 (V : Env1 Z a0 n0 uu0 uu1 uu2 uu3 uu4) : (Cond.stringLink "com/example/formboard/formboard/core/LiveDescriptionPinLaw" 8 "").before a0 Z = true := wq V 1 rfl
theorem wd2 (V : Env1 Z a0 n0 uu0 uu1 uu2 uu3 uu4) : (Cond.initialized "java/lang/String").before a0 Z = true := wq V 2 rfl
theorem wd3 (V : Env1 Z a0 n0 uu0 uu1 uu2 uu3 uu4) : (Cond.instantiable "java/lang/String" 4).before a0 Z = true := wq V 3 rfl
theorem wd4 (V : Env1 Z a0 n0 uu0 uu1 uu2 uu3 uu4) : (Cond.arrayClass .byte).before a0 Z = true := wq V 4 rfl
theorem wd5 (V : Env1 Z a0 n0 uu0 uu1 uu2 uu3 uu4) : (Cond.laysFinal "java/lang/String" "java/lang/String" "value" "[B").before a0 Z = true := wq V 5 rfl
theorem wd6 (V : Env1 Z a0 n0 uu0 uu1 uu2 uu3 uu4) : (Cond.laysFinal "java/lang/String" "java/lang/String" "coder" "B").before a0 Z = true := wq V 6 rfl
theorem wd9 (V : Env1 Z a0 n0 uu0 uu1 uu2 uu3 uu4) : (Cond.methodLink "com/example/formboard/formboard/core/LiveDescriptionPinLaw" 10 ⟨"java/lang/String", "valueOf", "(C)Ljava/lang/String;"⟩).before a0 Z = true := wq V 9 rfl
theorem wd10 (V : Env1 Z a0 n0 uu0 uu1 uu2 uu3 uu4) : (Cond.static ⟨"java/lang/String", "valueOf", "(C)Ljava/lang/String;"⟩).before a0 Z = true := wq V 10 rfl
theorem wd11 (V : Env1 Z a0 n0 uu0 uu1 uu2 uu3 uu4) : (Cond.code ⟨"java/lang/String", "valueOf", "(C)Ljava/lang/String;"⟩ jdk_42_method_139_code 1 (some (.object "java/lang/String"))).before a0 Z = true := wq V 11 rfl
theorem wd12 (V : Env1 Z a0 n0 uu0 uu1 uu2 uu3 uu4) : (Cond.fieldLink "java/lang/String" 38 "java/lang/String" "COMPACT_STRINGS" "Z").before a0 Z = true := wq V 12 rfl
theorem wd13 (V : Env1 Z a0 n0 uu0 uu1 uu2 uu3 uu4) : (Cond.methodLink "java/lang/String" 1015 ⟨"java/lang/StringLatin1", "canEncode", "(C)Z"⟩).before a0 Z = true := wq V 13 rfl
theorem wd14 (V : Env1 Z a0 n0 uu0 uu1 uu2 uu3 uu4) : (Cond.static ⟨"java/lang/StringLatin1", "canEncode", "(C)Z"⟩).before a0 Z = true := wq V 14 rfl
theorem wd15 (V : Env1 Z a0 n0 uu0 uu1 uu2 uu3 uu4) : (Cond.initialized "java/lang/StringLatin1").before a0 Z = true := wq V 15 rfl
theorem wd16 (V : Env1 Z a0 n0 uu0 uu1 uu2 uu3 uu4) : (Cond.code ⟨"java/lang/StringLatin1", "canEncode", "(C)Z"⟩ jdk_43_method_3_code 1 (some .boolean)).before a0 Z = true := wq V 16 rfl
theorem wd17 (V : Env1 Z a0 n0 uu0 uu1 uu2 uu3 uu4) : (Cond.classLink "java/lang/String" 10 "java/lang/String").before a0 Z = true := wq V 17 rfl
theorem wd18 (V : Env1 Z a0 n0 uu0 uu1 uu2 uu3 uu4) : (Cond.methodLink "java/lang/String" 1018 ⟨"java/lang/StringLatin1", "toBytes", "(C)[B"⟩).before a0 Z = true := wq V 18 rfl
theorem wd19 (V : Env1 Z a0 n0 uu0 uu1 uu2 uu3 uu4) : (Cond.static ⟨"java/lang/StringLatin1", "toBytes", "(C)[B"⟩).before a0 Z = true := wq V 19 rfl
theorem wd20 (V : Env1 Z a0 n0 uu0 uu1 uu2 uu3 uu4) : (Cond.code ⟨"java/lang/StringLatin1", "toBytes", "(C)[B"⟩ jdk_43_method_46_code 1 (some (.array .byte))).before a0 Z = true := wq V 20 rfl
theorem wd21 (V : Env1 Z a0 n0 uu0 uu1 uu2 uu3 uu4) : (Cond.methodLink "java/lang/String" 209 ⟨"java/lang/String", "<init>", "([BB)V"⟩).before a0 Z = true := wq V 21 rfl
theorem wd22 (V : Env1 Z a0 n0 uu0 uu1 uu2 uu3 uu4) : (Cond.instanceMethod ⟨"java/lang/String", "<init>", "([BB)V"⟩).before a0 Z = true := wq V 22 rfl
theorem wd24 (V : Env1 Z a0 n0 uu0 uu1 uu2 uu3 uu4) : (Cond.code ⟨"java/lang/String", "<init>", "([BB)V"⟩ jdk_42_method_151_code 3 none).before a0 Z = true := wq V 24 rfl
theorem wd25 (V : Env1 Z a0 n0 uu0 uu1 uu2 uu3 uu4) : (Cond.methodLink "java/lang/String" 1 ⟨"java/lang/Object", "<init>", "()V"⟩).before a0 Z = true := wq V 25 rfl
theorem wd26 (V : Env1 Z a0 n0 uu0 uu1 uu2 uu3 uu4) : (Cond.instanceMethod ⟨"java/lang/Object", "<init>", "()V"⟩).before a0 Z = true := wq V 26 rfl
theorem wd27 (V : Env1 Z a0 n0 uu0 uu1 uu2 uu3 uu4) : (Cond.code ⟨"java/lang/Object", "<init>", "()V"⟩ object_method_1_code 1 none).before a0 Z = true := wq V 27 rfl
theorem wd28 (V : Env1 Z a0 n0 uu0 uu1 uu2 uu3 uu4) : (Cond.fieldLink "java/lang/String" 9 "java/lang/String" "value" "[B").before a0 Z = true := wq V 28 rfl
theorem wd29 (V : Env1 Z a0 n0 uu0 uu1 uu2 uu3 uu4) : (Cond.fieldLink "java/lang/String" 15 "java/lang/String" "coder" "B").before a0 Z = true := wq V 29 rfl
theorem wd30 (V : Env1 Z a0 n0 uu0 uu1 uu2 uu3 uu4) : (Cond.fieldLink "com/example/formboard/formboard/core/LiveDescriptionPinLaw" 19 "com/example/formboard/formboard/core/Board$Part" "TITLE" "Lcom/example/formboard/formboard/core/Board$Part;").before a0 Z = true := wq V 30 rfl
theorem wd33 (V : Env1 Z a0 n0 uu0 uu1 uu2 uu3 uu4) : (Cond.classLink "com/example/formboard/formboard/core/LiveDescriptionPinLaw" 31 "com/example/formboard/formboard/core/Board$Live").before a0 Z = true := wq V 33 rfl
theorem wd34 (V : Env1 Z a0 n0 uu0 uu1 uu2 uu3 uu4) : (Cond.instantiable "com/example/formboard/formboard/core/Board$Live" 3).before a0 Z = true := wq V 34 rfl
theorem wd35 (V : Env1 Z a0 n0 uu0 uu1 uu2 uu3 uu4) : (Cond.initialized "com/example/formboard/formboard/core/Board$Live").before a0 Z = true := wq V 35 rfl
theorem wd36 (V : Env1 Z a0 n0 uu0 uu1 uu2 uu3 uu4) : (Cond.methodLink "com/example/formboard/formboard/core/LiveDescriptionPinLaw" 33 ⟨"com/example/formboard/formboard/core/Board$Live", "<init>", "(Lcom/example/formboard/formboard/core/Board$Part;Ljava/lang/String;Ljava/lang/String;)V"⟩).before a0 Z = true := wq V 36 rfl
theorem wd37 (V : Env1 Z a0 n0 uu0 uu1 uu2 uu3 uu4) : (Cond.instanceMethod ⟨"com/example/formboard/formboard/core/Board$Live", "<init>", "(Lcom/example/formboard/formboard/core/Board$Part;Ljava/lang/String;Ljava/lang/String;)V"⟩).before a0 Z = true := wq V 37 rfl
theorem wd38 (V : Env1 Z a0 n0 uu0 uu1 uu2 uu3 uu4) : (Cond.code ⟨"com/example/formboard/formboard/core/Board$Live", "<init>", "(Lcom/example/formboard/formboard/core/Board$Part;Ljava/lang/String;Ljava/lang/String;)V"⟩ prog_16_method_1_code 4 none).before a0 Z = true := wq V 38 rfl
theorem wd39 (V : Env1 Z a0 n0 uu0 uu1 uu2 uu3 uu4) : (Cond.methodLink "com/example/formboard/formboard/core/Board$Live" 1 ⟨"java/lang/Record", "<init>", "()V"⟩).before a0 Z = true := wq V 39 rfl
theorem wd40 (V : Env1 Z a0 n0 uu0 uu1 uu2 uu3 uu4) : (Cond.instanceMethod ⟨"java/lang/Record", "<init>", "()V"⟩).before a0 Z = true := wq V 40 rfl
theorem wd42 (V : Env1 Z a0 n0 uu0 uu1 uu2 uu3 uu4) : (Cond.initialized "java/lang/Record").before a0 Z = true := wq V 42 rfl
theorem wd43 (V : Env1 Z a0 n0 uu0 uu1 uu2 uu3 uu4) : (Cond.code ⟨"java/lang/Record", "<init>", "()V"⟩ jdk_30_method_1_code 1 none).before a0 Z = true := wq V 43 rfl
theorem wd44 (V : Env1 Z a0 n0 uu0 uu1 uu2 uu3 uu4) : (Cond.methodLink "java/lang/Record" 1 ⟨"java/lang/Object", "<init>", "()V"⟩).before a0 Z = true := wq V 44 rfl
theorem wd45 (V : Env1 Z a0 n0 uu0 uu1 uu2 uu3 uu4) : (Cond.stringLink "com/example/formboard/formboard/core/Board$Live" 7 "part").before a0 Z = true := wq V 45 rfl
theorem wd46 (V : Env1 Z a0 n0 uu0 uu1 uu2 uu3 uu4) : (Cond.methodLink "com/example/formboard/formboard/core/Board$Live" 9 ⟨"java/util/Objects", "requireNonNull", "(Ljava/lang/Object;Ljava/lang/String;)Ljava/lang/Object;"⟩).before a0 Z = true := wq V 46 rfl
theorem wd47 (V : Env1 Z a0 n0 uu0 uu1 uu2 uu3 uu4) : (Cond.static ⟨"java/util/Objects", "requireNonNull", "(Ljava/lang/Object;Ljava/lang/String;)Ljava/lang/Object;"⟩).before a0 Z = true := wq V 47 rfl
theorem wd48 (V : Env1 Z a0 n0 uu0 uu1 uu2 uu3 uu4) : (Cond.initialized "java/util/Objects").before a0 Z = true := wq V 48 rfl
theorem wd49 (V : Env1 Z a0 n0 uu0 uu1 uu2 uu3 uu4) : (Cond.code ⟨"java/util/Objects", "requireNonNull", "(Ljava/lang/Object;Ljava/lang/String;)Ljava/lang/Object;"⟩ jdk_31_method_11_code 2 (some (.object "java/lang/Object"))).before a0 Z = true := wq V 49 rfl
theorem wd50 (V : Env1 Z a0 n0 uu0 uu1 uu2 uu3 uu4) : (Cond.stringLink "com/example/formboard/formboard/core/Board$Live" 15 "form").before a0 Z = true := wq V 50 rfl
theorem wd51 (V : Env1 Z a0 n0 uu0 uu1 uu2 uu3 uu4) : (Cond.fieldLink "com/example/formboard/formboard/core/Board$Live" 17 "com/example/formboard/formboard/core/Board$Live" "part" "Lcom/example/formboard/formboard/core/Board$Part;").before a0 Z = true := wq V 51 rfl
theorem wd52 (V : Env1 Z a0 n0 uu0 uu1 uu2 uu3 uu4) : (Cond.laysFinal "com/example/formboard/formboard/core/Board$Live" "com/example/formboard/formboard/core/Board$Live" "part" "Lcom/example/formboard/formboard/core/Board$Part;").before a0 Z = true := wq V 52 rfl
theorem wd53 (V : Env1 Z a0 n0 uu0 uu1 uu2 uu3 uu4) : (Cond.fieldLink "com/example/formboard/formboard/core/Board$Live" 22 "com/example/formboard/formboard/core/Board$Live" "key" "Ljava/lang/String;").before a0 Z = true := wq V 53 rfl
theorem wd54 (V : Env1 Z a0 n0 uu0 uu1 uu2 uu3 uu4) : (Cond.laysFinal "com/example/formboard/formboard/core/Board$Live" "com/example/formboard/formboard/core/Board$Live" "key" "Ljava/lang/String;").before a0 Z = true := wq V 54 rfl
theorem wd55 (V : Env1 Z a0 n0 uu0 uu1 uu2 uu3 uu4) : (Cond.fieldLink "com/example/formboard/formboard/core/Board$Live" 26 "com/example/formboard/formboard/core/Board$Live" "form" "Ljava/lang/String;").before a0 Z = true := wq V 55 rfl
theorem wd56 (V : Env1 Z a0 n0 uu0 uu1 uu2 uu3 uu4) : (Cond.laysFinal "com/example/formboard/formboard/core/Board$Live" "com/example/formboard/formboard/core/Board$Live" "form" "Ljava/lang/String;").before a0 Z = true := wq V 56 rfl
theorem wd57 (V : Env1 Z a0 n0 uu0 uu1 uu2 uu3 uu4) : (Cond.methodLink "com/example/formboard/formboard/core/LiveDescriptionPinLaw" 36 ⟨"com/example/formboard/formboard/core/Board$Live", "description", "()Ljava/lang/String;"⟩).before a0 Z = true := wq V 57 rfl
theorem wd58 (V : Env1 Z a0 n0 uu0 uu1 uu2 uu3 uu4) : (Cond.declares ⟨"com/example/formboard/formboard/core/Board$Live", "description", "()Ljava/lang/String;"⟩).before a0 Z = true := wq V 58 rfl
theorem wd59 (V : Env1 Z a0 n0 uu0 uu1 uu2 uu3 uu4) : (Cond.instanceMethod ⟨"com/example/formboard/formboard/core/Board$Live", "description", "()Ljava/lang/String;"⟩).before a0 Z = true := wq V 59 rfl
theorem wd60 (V : Env1 Z a0 n0 uu0 uu1 uu2 uu3 uu4) : (Cond.selects "com/example/formboard/formboard/core/Board$Live" ⟨"com/example/formboard/formboard/core/Board$Live", "description", "()Ljava/lang/String;"⟩ ⟨"com/example/formboard/formboard/core/Board$Live", "description", "()Ljava/lang/String;"⟩).before a0 Z = true := wq V 60 rfl
theorem wd61 (V : Env1 Z a0 n0 uu0 uu1 uu2 uu3 uu4) : (Cond.code ⟨"com/example/formboard/formboard/core/Board$Live", "description", "()Ljava/lang/String;"⟩ prog_16_method_2_code 1 (some (.object "java/lang/String"))).before a0 Z = true := wq V 61 rfl
theorem wd62 (V : Env1 Z a0 n0 uu0 uu1 uu2 uu3 uu4) : (Cond.methodLink "com/example/formboard/formboard/core/Board$Live" 28 ⟨"com/example/formboard/formboard/core/Board$Part", "ordinal", "()I"⟩).before a0 Z = true := wq V 62 rfl
theorem wd63 (V : Env1 Z a0 n0 uu0 uu1 uu2 uu3 uu4) : (Cond.sameMethod "com/example/formboard/formboard/core/Board$Part" "java/lang/Enum" "ordinal" "()I").before a0 Z = true := wq V 63 rfl
theorem wd64 (V : Env1 Z a0 n0 uu0 uu1 uu2 uu3 uu4) : (Cond.declares ⟨"java/lang/Enum", "ordinal", "()I"⟩).before a0 Z = true := wq V 64 rfl
theorem wd65 (V : Env1 Z a0 n0 uu0 uu1 uu2 uu3 uu4) : (Cond.instanceMethod ⟨"java/lang/Enum", "ordinal", "()I"⟩).before a0 Z = true := wq V 65 rfl
theorem wd66 (V : Env1 Z a0 n0 uu0 uu1 uu2 uu3 uu4) : (Cond.selects "com/example/formboard/formboard/core/Board$Part" ⟨"com/example/formboard/formboard/core/Board$Part", "ordinal", "()I"⟩ ⟨"java/lang/Enum", "ordinal", "()I"⟩).before a0 Z = true := wq V 66 rfl
theorem wd67 (V : Env1 Z a0 n0 uu0 uu1 uu2 uu3 uu4) : (Cond.initialized "java/lang/Enum").before a0 Z = true := wq V 67 rfl
theorem wd68 (V : Env1 Z a0 n0 uu0 uu1 uu2 uu3 uu4) : (Cond.code ⟨"java/lang/Enum", "ordinal", "()I"⟩ jdk_37_method_2_code 1 (some .int)).before a0 Z = true := wq V 68 rfl
theorem wd69 (V : Env1 Z a0 n0 uu0 uu1 uu2 uu3 uu4) : (Cond.fieldLink "java/lang/Enum" 7 "java/lang/Enum" "ordinal" "I").before a0 Z = true := wq V 69 rfl
theorem wd71 (V : Env1 Z a0 n0 uu0 uu1 uu2 uu3 uu4) : (Cond.stringLink "com/example/formboard/formboard/core/Board$Live" 39 "the title").before a0 Z = true := wq V 71 rfl
theorem wd72 (V : Env1 Z a0 n0 uu0 uu1 uu2 uu3 uu4) : (Cond.methodLink "com/example/formboard/formboard/core/LiveDescriptionPinLaw" 40 ⟨"com/example/formboard/formboard/core/LiveDescriptionPinLaw", "expected", "(IICC)Ljava/lang/String;"⟩).before a0 Z = true := wq V 72 rfl
theorem wd73 (V : Env1 Z a0 n0 uu0 uu1 uu2 uu3 uu4) : (Cond.static ⟨"com/example/formboard/formboard/core/LiveDescriptionPinLaw", "expected", "(IICC)Ljava/lang/String;"⟩).before a0 Z = true := wq V 73 rfl
theorem wd74 (V : Env1 Z a0 n0 uu0 uu1 uu2 uu3 uu4) : (Cond.initialized "com/example/formboard/formboard/core/LiveDescriptionPinLaw").before a0 Z = true := wq V 74 rfl
theorem wd75 (V : Env1 Z a0 n0 uu0 uu1 uu2 uu3 uu4) : (Cond.code ⟨"com/example/formboard/formboard/core/LiveDescriptionPinLaw", "expected", "(IICC)Ljava/lang/String;"⟩ method_3_code 4 (some (.object "java/lang/String"))).before a0 Z = true := wq V 75 rfl
theorem wd76 (V : Env1 Z a0 n0 uu0 uu1 uu2 uu3 uu4) : (Cond.stringLink "com/example/formboard/formboard/core/LiveDescriptionPinLaw" 50 "the title").before a0 Z = true := wq V 76 rfl
theorem wd77 (V : Env1 Z a0 n0 uu0 uu1 uu2 uu3 uu4) : (Cond.methodLink "com/example/formboard/formboard/core/LiveDescriptionPinLaw" 46 ⟨"java/lang/String", "equals", "(Ljava/lang/Object;)Z"⟩).before a0 Z = true := wq V 77 rfl
theorem wd78 (V : Env1 Z a0 n0 uu0 uu1 uu2 uu3 uu4) : (Cond.declares ⟨"java/lang/String", "equals", "(Ljava/lang/Object;)Z"⟩).before a0 Z = true := wq V 78 rfl
theorem wd79 (V : Env1 Z a0 n0 uu0 uu1 uu2 uu3 uu4) : (Cond.instanceMethod ⟨"java/lang/String", "equals", "(Ljava/lang/Object;)Z"⟩).before a0 Z = true := wq V 79 rfl
theorem wd80 (V : Env1 Z a0 n0 uu0 uu1 uu2 uu3 uu4) : (Cond.selects "java/lang/String" ⟨"java/lang/String", "equals", "(Ljava/lang/Object;)Z"⟩ ⟨"java/lang/String", "equals", "(Ljava/lang/Object;)Z"⟩).before a0 Z = true := wq V 80 rfl
theorem wd82 (V : Env1 Z a0 n0 uu0 uu1 uu2 uu3 uu4) : (Cond.fieldLink "com/example/formboard/formboard/core/LiveDescriptionPinLaw" 25 "com/example/formboard/formboard/core/Board$Part" "HINT" "Lcom/example/formboard/formboard/core/Board$Part;").before a0 Z = true := wq V 82 rfl
theorem wd84 (V : Env1 Z a0 n0 uu0 uu1 uu2 uu3 uu4) : (Cond.classLink "com/example/formboard/formboard/core/Board$Live" 41 "java/lang/StringBuilder").before a0 Z = true := wq V 84 rfl
theorem wd85 (V : Env1 Z a0 n0 uu0 uu1 uu2 uu3 uu4) : (Cond.instantiable "java/lang/StringBuilder" 4).before a0 Z = true := wq V 85 rfl
theorem wd86 (V : Env1 Z a0 n0 uu0 uu1 uu2 uu3 uu4) : (Cond.initialized "java/lang/StringBuilder").before a0 Z = true := wq V 86 rfl
theorem wd87 (V : Env1 Z a0 n0 uu0 uu1 uu2 uu3 uu4) : (Cond.methodLink "com/example/formboard/formboard/core/Board$Live" 43 ⟨"java/lang/StringBuilder", "<init>", "()V"⟩).before a0 Z = true := wq V 87 rfl
theorem wd88 (V : Env1 Z a0 n0 uu0 uu1 uu2 uu3 uu4) : (Cond.instanceMethod ⟨"java/lang/StringBuilder", "<init>", "()V"⟩).before a0 Z = true := wq V 88 rfl
theorem wd89 (V : Env1 Z a0 n0 uu0 uu1 uu2 uu3 uu4) : (Cond.code ⟨"java/lang/StringBuilder", "<init>", "()V"⟩ jdk_67_method_1_code 1 none).before a0 Z = true := wq V 89 rfl
theorem wd90 (V : Env1 Z a0 n0 uu0 uu1 uu2 uu3 uu4) : (Cond.methodLink "java/lang/StringBuilder" 1 ⟨"java/lang/AbstractStringBuilder", "<init>", "(I)V"⟩).before a0 Z = true := wq V 90 rfl
theorem wd91 (V : Env1 Z a0 n0 uu0 uu1 uu2 uu3 uu4) : (Cond.instanceMethod ⟨"java/lang/AbstractStringBuilder", "<init>", "(I)V"⟩).before a0 Z = true := wq V 91 rfl
theorem wd94 (V : Env1 Z a0 n0 uu0 uu1 uu2 uu3 uu4) : (Cond.initialized "java/lang/AbstractStringBuilder").before a0 Z = true := wq V 94 rfl
theorem wd95 (V : Env1 Z a0 n0 uu0 uu1 uu2 uu3 uu4) : (Cond.code ⟨"java/lang/AbstractStringBuilder", "<init>", "(I)V"⟩ jdk_68_method_2_code 2 none).before a0 Z = true := wq V 95 rfl
theorem wd96 (V : Env1 Z a0 n0 uu0 uu1 uu2 uu3 uu4) : (Cond.methodLink "java/lang/AbstractStringBuilder" 3 ⟨"java/lang/Object", "<init>", "()V"⟩).before a0 Z = true := wq V 96 rfl
theorem wd97 (V : Env1 Z a0 n0 uu0 uu1 uu2 uu3 uu4) : (Cond.fieldLink "java/lang/AbstractStringBuilder" 18 "java/lang/String" "COMPACT_STRINGS" "Z").before a0 Z = true := wq V 97 rfl
theorem wd98 (V : Env1 Z a0 n0 uu0 uu1 uu2 uu3 uu4) : (Cond.fieldLink "java/lang/AbstractStringBuilder" 15 "java/lang/AbstractStringBuilder" "value" "[B").before a0 Z = true := wq V 98 rfl
theorem wd99 (V : Env1 Z a0 n0 uu0 uu1 uu2 uu3 uu4) : (Cond.lays "java/lang/StringBuilder" "java/lang/AbstractStringBuilder" "value" "[B").before a0 Z = true := wq V 99 rfl
theorem wd100 (V : Env1 Z a0 n0 uu0 uu1 uu2 uu3 uu4) : (Cond.fieldLink "java/lang/AbstractStringBuilder" 22 "java/lang/AbstractStringBuilder" "coder" "B").before a0 Z = true := wq V 100 rfl
theorem wd101 (V : Env1 Z a0 n0 uu0 uu1 uu2 uu3 uu4) : (Cond.lays "java/lang/StringBuilder" "java/lang/AbstractStringBuilder" "coder" "B").before a0 Z = true := wq V 101 rfl
theorem wd102 (V : Env1 Z a0 n0 uu0 uu1 uu2 uu3 uu4) : (Cond.stringLink "com/example/formboard/formboard/core/Board$Live" 44 "the hint of key ").before a0 Z = true := wq V 102 rfl
theorem wd103 (V : Env1 Z a0 n0 uu0 uu1 uu2 uu3 uu4) : (Cond.methodLink "com/example/formboard/formboard/core/Board$Live" 46 ⟨"java/lang/StringBuilder", "append", "(Ljava/lang/String;)Ljava/lang/StringBuilder;"⟩).before a0 Z = true := wq V 103 rfl
theorem wd104 (V : Env1 Z a0 n0 uu0 uu1 uu2 uu3 uu4) : (Cond.declares ⟨"java/lang/StringBuilder", "append", "(Ljava/lang/String;)Ljava/lang/StringBuilder;"⟩).before a0 Z = true := wq V 104 rfl
theorem wd105 (V : Env1 Z a0 n0 uu0 uu1 uu2 uu3 uu4) : (Cond.instanceMethod ⟨"java/lang/StringBuilder", "append", "(Ljava/lang/String;)Ljava/lang/StringBuilder;"⟩).before a0 Z = true := wq V 105 rfl
theorem wd106 (V : Env1 Z a0 n0 uu0 uu1 uu2 uu3 uu4) : (Cond.selects "java/lang/StringBuilder" ⟨"java/lang/StringBuilder", "append", "(Ljava/lang/String;)Ljava/lang/StringBuilder;"⟩ ⟨"java/lang/StringBuilder", "append", "(Ljava/lang/String;)Ljava/lang/StringBuilder;"⟩).before a0 Z = true := wq V 106 rfl
theorem wd107 (V : Env1 Z a0 n0 uu0 uu1 uu2 uu3 uu4) : (Cond.code ⟨"java/lang/StringBuilder", "append", "(Ljava/lang/String;)Ljava/lang/StringBuilder;"⟩ jdk_67_method_7_code 2 (some (.object "java/lang/StringBuilder"))).before a0 Z = true := wq V 107 rfl
theorem wd108 (V : Env1 Z a0 n0 uu0 uu1 uu2 uu3 uu4) : (Cond.methodLink "java/lang/StringBuilder" 29 ⟨"java/lang/AbstractStringBuilder", "append", "(Ljava/lang/String;)Ljava/lang/AbstractStringBuilder;"⟩).before a0 Z = true := wq V 108 rfl
theorem wd109 (V : Env1 Z a0 n0 uu0 uu1 uu2 uu3 uu4) : (Cond.instanceMethod ⟨"java/lang/AbstractStringBuilder", "append", "(Ljava/lang/String;)Ljava/lang/AbstractStringBuilder;"⟩).before a0 Z = true := wq V 109 rfl
theorem wd110 (V : Env1 Z a0 n0 uu0 uu1 uu2 uu3 uu4) : (Cond.superclass "java/lang/StringBuilder" "java/lang/AbstractStringBuilder").before a0 Z = true := wq V 110 rfl
theorem wd111 (V : Env1 Z a0 n0 uu0 uu1 uu2 uu3 uu4) : (Cond.declares ⟨"java/lang/AbstractStringBuilder", "append", "(Ljava/lang/String;)Ljava/lang/AbstractStringBuilder;"⟩).before a0 Z = true := wq V 111 rfl
theorem wd112 (V : Env1 Z a0 n0 uu0 uu1 uu2 uu3 uu4) : (Cond.code ⟨"java/lang/AbstractStringBuilder", "append", "(Ljava/lang/String;)Ljava/lang/AbstractStringBuilder;"⟩ jdk_68_method_22_code 3 (some (.object "java/lang/AbstractStringBuilder"))).before a0 Z = true := wq V 112 rfl
theorem wd113 (V : Env1 Z a0 n0 uu0 uu1 uu2 uu3 uu4) : (Cond.methodLink "java/lang/AbstractStringBuilder" 32 ⟨"java/lang/String", "length", "()I"⟩).before a0 Z = true := wq V 113 rfl
theorem wd114 (V : Env1 Z a0 n0 uu0 uu1 uu2 uu3 uu4) : (Cond.declares ⟨"java/lang/String", "length", "()I"⟩).before a0 Z = true := wq V 114 rfl
theorem wd115 (V : Env1 Z a0 n0 uu0 uu1 uu2 uu3 uu4) : (Cond.instanceMethod ⟨"java/lang/String", "length", "()I"⟩).before a0 Z = true := wq V 115 rfl
theorem wd116 (V : Env1 Z a0 n0 uu0 uu1 uu2 uu3 uu4) : (Cond.selects "java/lang/String" ⟨"java/lang/String", "length", "()I"⟩ ⟨"java/lang/String", "length", "()I"⟩).before a0 Z = true := wq V 116 rfl
theorem wd117 (V : Env1 Z a0 n0 uu0 uu1 uu2 uu3 uu4) : (Cond.code ⟨"java/lang/String", "length", "()I"⟩ jdk_42_method_54_code 1 (some .int)).before a0 Z = true := wq V 117 rfl
theorem wd118 (V : Env1 Z a0 n0 uu0 uu1 uu2 uu3 uu4) : (Cond.methodLink "java/lang/String" 335 ⟨"java/lang/String", "coder", "()B"⟩).before a0 Z = true := wq V 118 rfl
theorem wd119 (V : Env1 Z a0 n0 uu0 uu1 uu2 uu3 uu4) : (Cond.declares ⟨"java/lang/String", "coder", "()B"⟩).before a0 Z = true := wq V 119 rfl
theorem wd120 (V : Env1 Z a0 n0 uu0 uu1 uu2 uu3 uu4) : (Cond.instanceMethod ⟨"java/lang/String", "coder", "()B"⟩).before a0 Z = true := wq V 120 rfl
theorem wd121 (V : Env1 Z a0 n0 uu0 uu1 uu2 uu3 uu4) : (Cond.selects "java/lang/String" ⟨"java/lang/String", "coder", "()B"⟩ ⟨"java/lang/String", "coder", "()B"⟩).before a0 Z = true := wq V 121 rfl
theorem wd122 (V : Env1 Z a0 n0 uu0 uu1 uu2 uu3 uu4) : (Cond.code ⟨"java/lang/String", "coder", "()B"⟩ jdk_42_method_152_code 1 (some .byte)).before a0 Z = true := wq V 122 rfl
theorem wd123 (V : Env1 Z a0 n0 uu0 uu1 uu2 uu3 uu4) : (Cond.fieldLink "java/lang/AbstractStringBuilder" 79 "java/lang/AbstractStringBuilder" "count" "I").before a0 Z = true := wq V 123 rfl
theorem wd124 (V : Env1 Z a0 n0 uu0 uu1 uu2 uu3 uu4) : (Cond.lays "java/lang/StringBuilder" "java/lang/AbstractStringBuilder" "count" "I").before a0 Z = true := wq V 124 rfl
theorem wd125 (V : Env1 Z a0 n0 uu0 uu1 uu2 uu3 uu4) : (Cond.methodLink "java/lang/AbstractStringBuilder" 100 ⟨"java/lang/AbstractStringBuilder", "ensureCapacityInternal", "(I)V"⟩).before a0 Z = true := wq V 125 rfl
theorem wd126 (V : Env1 Z a0 n0 uu0 uu1 uu2 uu3 uu4) : (Cond.instanceMethod ⟨"java/lang/AbstractStringBuilder", "ensureCapacityInternal", "(I)V"⟩).before a0 Z = true := wq V 126 rfl
theorem wd128 (V : Env1 Z a0 n0 uu0 uu1 uu2 uu3 uu4) : (Cond.selects "java/lang/StringBuilder" ⟨"java/lang/AbstractStringBuilder", "ensureCapacityInternal", "(I)V"⟩ ⟨"java/lang/AbstractStringBuilder", "ensureCapacityInternal", "(I)V"⟩).before a0 Z = true := wq V 128 rfl
theorem wd129 (V : Env1 Z a0 n0 uu0 uu1 uu2 uu3 uu4) : (Cond.code ⟨"java/lang/AbstractStringBuilder", "ensureCapacityInternal", "(I)V"⟩ jdk_68_method_9_code 3 none).before a0 Z = true := wq V 129 rfl
theorem wd130 (V : Env1 Z a0 n0 uu0 uu1 uu2 uu3 uu4) : (Cond.methodLink "java/lang/AbstractStringBuilder" 208 ⟨"java/lang/AbstractStringBuilder", "putStringAt", "(ILjava/lang/String;)V"⟩).before a0 Z = true := wq V 130 rfl
theorem wd131 (V : Env1 Z a0 n0 uu0 uu1 uu2 uu3 uu4) : (Cond.instanceMethod ⟨"java/lang/AbstractStringBuilder", "putStringAt", "(ILjava/lang/String;)V"⟩).before a0 Z = true := wq V 131 rfl
theorem wd133 (V : Env1 Z a0 n0 uu0 uu1 uu2 uu3 uu4) : (Cond.selects "java/lang/StringBuilder" ⟨"java/lang/AbstractStringBuilder", "putStringAt", "(ILjava/lang/String;)V"⟩ ⟨"java/lang/AbstractStringBuilder", "putStringAt", "(ILjava/lang/String;)V"⟩).before a0 Z = true := wq V 133 rfl
theorem wd134 (V : Env1 Z a0 n0 uu0 uu1 uu2 uu3 uu4) : (Cond.code ⟨"java/lang/AbstractStringBuilder", "putStringAt", "(ILjava/lang/String;)V"⟩ jdk_68_method_73_code 3 none).before a0 Z = true := wq V 134 rfl
theorem wd135 (V : Env1 Z a0 n0 uu0 uu1 uu2 uu3 uu4) : (Cond.methodLink "java/lang/AbstractStringBuilder" 397 ⟨"java/lang/AbstractStringBuilder", "inflateIfNeededFor", "(Ljava/lang/String;)V"⟩).before a0 Z = true := wq V 135 rfl
theorem wd136 (V : Env1 Z a0 n0 uu0 uu1 uu2 uu3 uu4) : (Cond.instanceMethod ⟨"java/lang/AbstractStringBuilder", "inflateIfNeededFor", "(Ljava/lang/String;)V"⟩).before a0 Z = true := wq V 136 rfl
theorem wd138 (V : Env1 Z a0 n0 uu0 uu1 uu2 uu3 uu4) : (Cond.selects "java/lang/StringBuilder" ⟨"java/lang/AbstractStringBuilder", "inflateIfNeededFor", "(Ljava/lang/String;)V"⟩ ⟨"java/lang/AbstractStringBuilder", "inflateIfNeededFor", "(Ljava/lang/String;)V"⟩).before a0 Z = true := wq V 138 rfl
theorem wd139 (V : Env1 Z a0 n0 uu0 uu1 uu2 uu3 uu4) : (Cond.code ⟨"java/lang/AbstractStringBuilder", "inflateIfNeededFor", "(Ljava/lang/String;)V"⟩ jdk_68_method_71_code 2 none).before a0 Z = true := wq V 139 rfl
theorem wd140 (V : Env1 Z a0 n0 uu0 uu1 uu2 uu3 uu4) : (Cond.methodLink "java/lang/AbstractStringBuilder" 40 ⟨"java/lang/String", "coder", "()B"⟩).before a0 Z = true := wq V 140 rfl
theorem wd141 (V : Env1 Z a0 n0 uu0 uu1 uu2 uu3 uu4) : (Cond.methodLink "java/lang/AbstractStringBuilder" 399 ⟨"java/lang/String", "getBytes", "([BIB)V"⟩).before a0 Z = true := wq V 141 rfl
theorem wd142 (V : Env1 Z a0 n0 uu0 uu1 uu2 uu3 uu4) : (Cond.declares ⟨"java/lang/String", "getBytes", "([BIB)V"⟩).before a0 Z = true := wq V 142 rfl
theorem wd143 (V : Env1 Z a0 n0 uu0 uu1 uu2 uu3 uu4) : (Cond.instanceMethod ⟨"java/lang/String", "getBytes", "([BIB)V"⟩).before a0 Z = true := wq V 143 rfl
theorem wd144 (V : Env1 Z a0 n0 uu0 uu1 uu2 uu3 uu4) : (Cond.selects "java/lang/String" ⟨"java/lang/String", "getBytes", "([BIB)V"⟩ ⟨"java/lang/String", "getBytes", "([BIB)V"⟩).before a0 Z = true := wq V 144 rfl
theorem wd145 (V : Env1 Z a0 n0 uu0 uu1 uu2 uu3 uu4) : (Cond.code ⟨"java/lang/String", "getBytes", "([BIB)V"⟩ jdk_42_method_147_code 4 none).before a0 Z = true := wq V 145 rfl
theorem wd146 (V : Env1 Z a0 n0 uu0 uu1 uu2 uu3 uu4) : (Cond.methodLink "java/lang/String" 212 ⟨"java/lang/System", "arraycopy", "(Ljava/lang/Object;ILjava/lang/Object;II)V"⟩).before a0 Z = true := wq V 146 rfl
theorem wd147 (V : Env1 Z a0 n0 uu0 uu1 uu2 uu3 uu4) : (Cond.static ⟨"java/lang/System", "arraycopy", "(Ljava/lang/Object;ILjava/lang/Object;II)V"⟩).before a0 Z = true := wq V 147 rfl
theorem wd148 (V : Env1 Z a0 n0 uu0 uu1 uu2 uu3 uu4) : (Cond.initialized "java/lang/System").before a0 Z = true := wq V 148 rfl
theorem wd149 (V : Env1 Z a0 n0 uu0 uu1 uu2 uu3 uu4) : (Cond.native ⟨"java/lang/System", "arraycopy", "(Ljava/lang/Object;ILjava/lang/Object;II)V"⟩).before a0 Z = true := wq V 149 rfl
theorem wd150 (V : Env1 Z a0 n0 uu0 uu1 uu2 uu3 uu4) : (Cond.methodLink "java/lang/AbstractStringBuilder" 104 ⟨"java/lang/AbstractStringBuilder", "newCapacity", "(I)I"⟩).before a0 Z = true := wq V 150 rfl
theorem wd151 (V : Env1 Z a0 n0 uu0 uu1 uu2 uu3 uu4) : (Cond.instanceMethod ⟨"java/lang/AbstractStringBuilder", "newCapacity", "(I)I"⟩).before a0 Z = true := wq V 151 rfl
theorem wd153 (V : Env1 Z a0 n0 uu0 uu1 uu2 uu3 uu4) : (Cond.selects "java/lang/StringBuilder" ⟨"java/lang/AbstractStringBuilder", "newCapacity", "(I)I"⟩ ⟨"java/lang/AbstractStringBuilder", "newCapacity", "(I)I"⟩).before a0 Z = true := wq V 153 rfl
theorem wd154 (V : Env1 Z a0 n0 uu0 uu1 uu2 uu3 uu4) : (Cond.code ⟨"java/lang/AbstractStringBuilder", "newCapacity", "(I)I"⟩ jdk_68_method_10_code 6 (some .int)).before a0 Z = true := wq V 154 rfl
theorem wd155 (V : Env1 Z a0 n0 uu0 uu1 uu2 uu3 uu4) : (Cond.methodLink "java/lang/AbstractStringBuilder" 114 ⟨"jdk/internal/util/ArraysSupport", "newLength", "(III)I"⟩).before a0 Z = true := wq V 155 rfl
theorem wd156 (V : Env1 Z a0 n0 uu0 uu1 uu2 uu3 uu4) : (Cond.static ⟨"jdk/internal/util/ArraysSupport", "newLength", "(III)I"⟩).before a0 Z = true := wq V 156 rfl
theorem wd157 (V : Env1 Z a0 n0 uu0 uu1 uu2 uu3 uu4) : (Cond.initialized "jdk/internal/util/ArraysSupport").before a0 Z = true := wq V 157 rfl
theorem wd158 (V : Env1 Z a0 n0 uu0 uu1 uu2 uu3 uu4) : (Cond.code ⟨"jdk/internal/util/ArraysSupport", "newLength", "(III)I"⟩ jdk_48_method_27_code 4 (some .int)).before a0 Z = true := wq V 158 rfl
theorem wd159 (V : Env1 Z a0 n0 uu0 uu1 uu2 uu3 uu4) : (Cond.methodLink "jdk/internal/util/ArraysSupport" 194 ⟨"java/lang/Math", "max", "(II)I"⟩).before a0 Z = true := wq V 159 rfl
theorem wd160 (V : Env1 Z a0 n0 uu0 uu1 uu2 uu3 uu4) : (Cond.static ⟨"java/lang/Math", "max", "(II)I"⟩).before a0 Z = true := wq V 160 rfl
theorem wd161 (V : Env1 Z a0 n0 uu0 uu1 uu2 uu3 uu4) : (Cond.initialized "java/lang/Math").before a0 Z = true := wq V 161 rfl
theorem wd162 (V : Env1 Z a0 n0 uu0 uu1 uu2 uu3 uu4) : (Cond.code ⟨"java/lang/Math", "max", "(II)I"⟩ jdk_29_method_65_code 2 (some .int)).before a0 Z = true := wq V 162 rfl
theorem wd163 (V : Env1 Z a0 n0 uu0 uu1 uu2 uu3 uu4) : (Cond.constant "jdk/internal/util/ArraysSupport" 200 (2147483639 : Int32)).before a0 Z = true := wq V 163 rfl
theorem wd164 (V : Env1 Z a0 n0 uu0 uu1 uu2 uu3 uu4) : (Cond.constant "java/lang/AbstractStringBuilder" 39 (2147483647 : Int32)).before a0 Z = true := wq V 164 rfl
theorem wd165 (V : Env1 Z a0 n0 uu0 uu1 uu2 uu3 uu4) : (Cond.methodLink "java/lang/AbstractStringBuilder" 108 ⟨"java/util/Arrays", "copyOf", "([BI)[B"⟩).before a0 Z = true := wq V 165 rfl
theorem wd166 (V : Env1 Z a0 n0 uu0 uu1 uu2 uu3 uu4) : (Cond.static ⟨"java/util/Arrays", "copyOf", "([BI)[B"⟩).before a0 Z = true := wq V 166 rfl
theorem wd167 (V : Env1 Z a0 n0 uu0 uu1 uu2 uu3 uu4) : (Cond.initialized "java/util/Arrays").before a0 Z = true := wq V 167 rfl
theorem wd168 (V : Env1 Z a0 n0 uu0 uu1 uu2 uu3 uu4) : (Cond.code ⟨"java/util/Arrays", "copyOf", "([BI)[B"⟩ jdk_65_method_121_code 3 (some (.array .byte))).before a0 Z = true := wq V 168 rfl
theorem wd169 (V : Env1 Z a0 n0 uu0 uu1 uu2 uu3 uu4) : (Cond.methodLink "java/util/Arrays" 304 ⟨"java/lang/Math", "min", "(II)I"⟩).before a0 Z = true := wq V 169 rfl
theorem wd170 (V : Env1 Z a0 n0 uu0 uu1 uu2 uu3 uu4) : (Cond.static ⟨"java/lang/Math", "min", "(II)I"⟩).before a0 Z = true := wq V 170 rfl
theorem wd171 (V : Env1 Z a0 n0 uu0 uu1 uu2 uu3 uu4) : (Cond.code ⟨"java/lang/Math", "min", "(II)I"⟩ jdk_29_method_69_code 2 (some .int)).before a0 Z = true := wq V 171 rfl
theorem wd172 (V : Env1 Z a0 n0 uu0 uu1 uu2 uu3 uu4) : (Cond.methodLink "java/util/Arrays" 150 ⟨"java/lang/System", "arraycopy", "(Ljava/lang/Object;ILjava/lang/Object;II)V"⟩).before a0 Z = true := wq V 172 rfl
theorem wd173 (V : Env1 Z a0 n0 uu0 uu1 uu2 uu3 uu4) : (Cond.methodLink "com/example/formboard/formboard/core/Board$Live" 50 ⟨"java/lang/StringBuilder", "toString", "()Ljava/lang/String;"⟩).before a0 Z = true := wq V 173 rfl
theorem wd174 (V : Env1 Z a0 n0 uu0 uu1 uu2 uu3 uu4) : (Cond.declares ⟨"java/lang/StringBuilder", "toString", "()Ljava/lang/String;"⟩).before a0 Z = true := wq V 174 rfl
theorem wd175 (V : Env1 Z a0 n0 uu0 uu1 uu2 uu3 uu4) : (Cond.instanceMethod ⟨"java/lang/StringBuilder", "toString", "()Ljava/lang/String;"⟩).before a0 Z = true := wq V 175 rfl
theorem wd176 (V : Env1 Z a0 n0 uu0 uu1 uu2 uu3 uu4) : (Cond.selects "java/lang/StringBuilder" ⟨"java/lang/StringBuilder", "toString", "()Ljava/lang/String;"⟩ ⟨"java/lang/StringBuilder", "toString", "()Ljava/lang/String;"⟩).before a0 Z = true := wq V 176 rfl
theorem wd177 (V : Env1 Z a0 n0 uu0 uu1 uu2 uu3 uu4) : (Cond.code ⟨"java/lang/StringBuilder", "toString", "()Ljava/lang/String;"⟩ jdk_67_method_42_code 1 (some (.object "java/lang/String"))).before a0 Z = true := wq V 177 rfl
theorem wd178 (V : Env1 Z a0 n0 uu0 uu1 uu2 uu3 uu4) : (Cond.classLink "java/lang/StringBuilder" 18 "java/lang/String").before a0 Z = true := wq V 178 rfl
theorem wd179 (V : Env1 Z a0 n0 uu0 uu1 uu2 uu3 uu4) : (Cond.methodLink "java/lang/StringBuilder" 137 ⟨"java/lang/String", "<init>", "(Ljava/lang/StringBuilder;)V"⟩).before a0 Z = true := wq V 179 rfl
theorem wd180 (V : Env1 Z a0 n0 uu0 uu1 uu2 uu3 uu4) : (Cond.instanceMethod ⟨"java/lang/String", "<init>", "(Ljava/lang/StringBuilder;)V"⟩).before a0 Z = true := wq V 180 rfl
theorem wd181 (V : Env1 Z a0 n0 uu0 uu1 uu2 uu3 uu4) : (Cond.code ⟨"java/lang/String", "<init>", "(Ljava/lang/StringBuilder;)V"⟩ jdk_42_method_53_code 2 none).before a0 Z = true := wq V 181 rfl
theorem wd182 (V : Env1 Z a0 n0 uu0 uu1 uu2 uu3 uu4) : (Cond.methodLink "java/lang/String" 489 ⟨"java/lang/String", "<init>", "(Ljava/lang/AbstractStringBuilder;Ljava/lang/Void;)V"⟩).before a0 Z = true := wq V 182 rfl
theorem wd183 (V : Env1 Z a0 n0 uu0 uu1 uu2 uu3 uu4) : (Cond.instanceMethod ⟨"java/lang/String", "<init>", "(Ljava/lang/AbstractStringBuilder;Ljava/lang/Void;)V"⟩).before a0 Z = true := wq V 183 rfl
theorem wd184 (V : Env1 Z a0 n0 uu0 uu1 uu2 uu3 uu4) : (Cond.code ⟨"java/lang/String", "<init>", "(Ljava/lang/AbstractStringBuilder;Ljava/lang/Void;)V"⟩ jdk_42_method_150_code 5 none).before a0 Z = true := wq V 184 rfl
theorem wd185 (V : Env1 Z a0 n0 uu0 uu1 uu2 uu3 uu4) : (Cond.methodLink "java/lang/String" 552 ⟨"java/lang/AbstractStringBuilder", "getValue", "()[B"⟩).before a0 Z = true := wq V 185 rfl
theorem wd186 (V : Env1 Z a0 n0 uu0 uu1 uu2 uu3 uu4) : (Cond.declares ⟨"java/lang/AbstractStringBuilder", "getValue", "()[B"⟩).before a0 Z = true := wq V 186 rfl
theorem wd187 (V : Env1 Z a0 n0 uu0 uu1 uu2 uu3 uu4) : (Cond.instanceMethod ⟨"java/lang/AbstractStringBuilder", "getValue", "()[B"⟩).before a0 Z = true := wq V 187 rfl
theorem wd188 (V : Env1 Z a0 n0 uu0 uu1 uu2 uu3 uu4) : (Cond.selects "java/lang/StringBuilder" ⟨"java/lang/AbstractStringBuilder", "getValue", "()[B"⟩ ⟨"java/lang/AbstractStringBuilder", "getValue", "()[B"⟩).before a0 Z = true := wq V 188 rfl
theorem wd189 (V : Env1 Z a0 n0 uu0 uu1 uu2 uu3 uu4) : (Cond.code ⟨"java/lang/AbstractStringBuilder", "getValue", "()[B"⟩ jdk_68_method_64_code 1 (some (.array .byte))).before a0 Z = true := wq V 189 rfl
theorem wd190 (V : Env1 Z a0 n0 uu0 uu1 uu2 uu3 uu4) : (Cond.methodLink "java/lang/String" 549 ⟨"java/lang/AbstractStringBuilder", "length", "()I"⟩).before a0 Z = true := wq V 190 rfl
theorem wd191 (V : Env1 Z a0 n0 uu0 uu1 uu2 uu3 uu4) : (Cond.declares ⟨"java/lang/AbstractStringBuilder", "length", "()I"⟩).before a0 Z = true := wq V 191 rfl
theorem wd192 (V : Env1 Z a0 n0 uu0 uu1 uu2 uu3 uu4) : (Cond.instanceMethod ⟨"java/lang/AbstractStringBuilder", "length", "()I"⟩).before a0 Z = true := wq V 192 rfl
theorem wd193 (V : Env1 Z a0 n0 uu0 uu1 uu2 uu3 uu4) : (Cond.selects "java/lang/StringBuilder" ⟨"java/lang/AbstractStringBuilder", "length", "()I"⟩ ⟨"java/lang/StringBuilder", "length", "()I"⟩).before a0 Z = true := wq V 193 rfl
theorem wd194 (V : Env1 Z a0 n0 uu0 uu1 uu2 uu3 uu4) : (Cond.instanceMethod ⟨"java/lang/StringBuilder", "length", "()I"⟩).before a0 Z = true := wq V 194 rfl
theorem wd195 (V : Env1 Z a0 n0 uu0 uu1 uu2 uu3 uu4) : (Cond.code ⟨"java/lang/StringBuilder", "length", "()I"⟩ jdk_67_method_93_code 1 (some .int)).before a0 Z = true := wq V 195 rfl
theorem wd196 (V : Env1 Z a0 n0 uu0 uu1 uu2 uu3 uu4) : (Cond.methodLink "java/lang/StringBuilder" 343 ⟨"java/lang/AbstractStringBuilder", "length", "()I"⟩).before a0 Z = true := wq V 196 rfl
theorem wd197 (V : Env1 Z a0 n0 uu0 uu1 uu2 uu3 uu4) : (Cond.code ⟨"java/lang/AbstractStringBuilder", "length", "()I"⟩ jdk_68_method_6_code 1 (some .int)).before a0 Z = true := wq V 197 rfl
theorem wd198 (V : Env1 Z a0 n0 uu0 uu1 uu2 uu3 uu4) : (Cond.methodLink "java/lang/String" 1047 ⟨"java/lang/AbstractStringBuilder", "isLatin1", "()Z"⟩).before a0 Z = true := wq V 198 rfl
theorem wd199 (V : Env1 Z a0 n0 uu0 uu1 uu2 uu3 uu4) : (Cond.declares ⟨"java/lang/AbstractStringBuilder", "isLatin1", "()Z"⟩).before a0 Z = true := wq V 199 rfl
theorem wd200 (V : Env1 Z a0 n0 uu0 uu1 uu2 uu3 uu4) : (Cond.instanceMethod ⟨"java/lang/AbstractStringBuilder", "isLatin1", "()Z"⟩).before a0 Z = true := wq V 200 rfl
theorem wd201 (V : Env1 Z a0 n0 uu0 uu1 uu2 uu3 uu4) : (Cond.selects "java/lang/StringBuilder" ⟨"java/lang/AbstractStringBuilder", "isLatin1", "()Z"⟩ ⟨"java/lang/AbstractStringBuilder", "isLatin1", "()Z"⟩).before a0 Z = true := wq V 201 rfl
theorem wd202 (V : Env1 Z a0 n0 uu0 uu1 uu2 uu3 uu4) : (Cond.code ⟨"java/lang/AbstractStringBuilder", "isLatin1", "()Z"⟩ jdk_68_method_68_code 1 (some .boolean)).before a0 Z = true := wq V 202 rfl
theorem wd203 (V : Env1 Z a0 n0 uu0 uu1 uu2 uu3 uu4) : (Cond.methodLink "java/lang/String" 54 ⟨"java/util/Arrays", "copyOfRange", "([BII)[B"⟩).before a0 Z = true := wq V 203 rfl
theorem wd204 (V : Env1 Z a0 n0 uu0 uu1 uu2 uu3 uu4) : (Cond.static ⟨"java/util/Arrays", "copyOfRange", "([BII)[B"⟩).before a0 Z = true := wq V 204 rfl
theorem wd205 (V : Env1 Z a0 n0 uu0 uu1 uu2 uu3 uu4) : (Cond.code ⟨"java/util/Arrays", "copyOfRange", "([BII)[B"⟩ jdk_65_method_132_code 3 (some (.array .byte))).before a0 Z = true := wq V 205 rfl
theorem wd206 (V : Env1 Z a0 n0 uu0 uu1 uu2 uu3 uu4) : (Cond.methodLink "java/util/Arrays" 339 ⟨"java/util/Arrays", "copyOfRangeByte", "([BII)[B"⟩).before a0 Z = true := wq V 206 rfl
theorem wd207 (V : Env1 Z a0 n0 uu0 uu1 uu2 uu3 uu4) : (Cond.static ⟨"java/util/Arrays", "copyOfRangeByte", "([BII)[B"⟩).before a0 Z = true := wq V 207 rfl
theorem wd208 (V : Env1 Z a0 n0 uu0 uu1 uu2 uu3 uu4) : (Cond.code ⟨"java/util/Arrays", "copyOfRangeByte", "([BII)[B"⟩ jdk_65_method_133_code 5 (some (.array .byte))).before a0 Z = true := wq V 208 rfl
theorem wd209 (V : Env1 Z a0 n0 uu0 uu1 uu2 uu3 uu4) : (Cond.methodLink "java/util/Arrays" 343 ⟨"java/util/Arrays", "checkLength", "(II)V"⟩).before a0 Z = true := wq V 209 rfl
theorem wd210 (V : Env1 Z a0 n0 uu0 uu1 uu2 uu3 uu4) : (Cond.static ⟨"java/util/Arrays", "checkLength", "(II)V"⟩).before a0 Z = true := wq V 210 rfl
theorem wd211 (V : Env1 Z a0 n0 uu0 uu1 uu2 uu3 uu4) : (Cond.code ⟨"java/util/Arrays", "checkLength", "(II)V"⟩ jdk_65_method_131_code 2 none).before a0 Z = true := wq V 211 rfl
theorem wd212 (V : Env1 Z a0 n0 uu0 uu1 uu2 uu3 uu4) : (Cond.classLink "com/example/formboard/formboard/core/LiveDescriptionPinLaw" 11 "java/lang/String").before a0 Z = true := wq V 212 rfl
theorem wd213 (V : Env1 Z a0 n0 uu0 uu1 uu2 uu3 uu4) : (Cond.arrayClass .char).before a0 Z = true := wq V 213 rfl
theorem wd214 (V : Env1 Z a0 n0 uu0 uu1 uu2 uu3 uu4) : (Cond.methodLink "com/example/formboard/formboard/core/LiveDescriptionPinLaw" 16 ⟨"java/lang/String", "<init>", "([C)V"⟩).before a0 Z = true := wq V 214 rfl
theorem wd215 (V : Env1 Z a0 n0 uu0 uu1 uu2 uu3 uu4) : (Cond.instanceMethod ⟨"java/lang/String", "<init>", "([C)V"⟩).before a0 Z = true := wq V 215 rfl
theorem wd233 (V : Env1 Z a0 n0 uu0 uu1 uu2 uu3 uu4) : (Cond.fieldLink "com/example/formboard/formboard/core/LiveDescriptionPinLaw" 28 "com/example/formboard/formboard/core/Board$Part" "TOGGLE" "Lcom/example/formboard/formboard/core/Board$Part;").before a0 Z = true := wq V 233 rfl
theorem wd235 (V : Env1 Z a0 n0 uu0 uu1 uu2 uu3 uu4) : (Cond.stringLink "com/example/formboard/formboard/core/Board$Live" 54 "the toggle of key ").before a0 Z = true := wq V 235 rfl
theorem wd236 (V : Env1 Z a0 n0 uu0 uu1 uu2 uu3 uu4) : (Cond.stringLink "com/example/formboard/formboard/core/LiveDescriptionPinLaw" 54 "the toggle of key ").before a0 Z = true := wq V 236 rfl
theorem wd237 (V : Env1 Z a0 n0 uu0 uu1 uu2 uu3 uu4) : (Cond.methodLink "java/util/Arrays" 310 ⟨"[B", "clone", "()Ljava/lang/Object;"⟩).before a0 Z = true := wq V 237 rfl
theorem wd238 (V : Env1 Z a0 n0 uu0 uu1 uu2 uu3 uu4) : (Cond.sameMethod "[B" "java/lang/Object" "clone" "()Ljava/lang/Object;").before a0 Z = true := wq V 238 rfl
theorem wd240 (V : Env1 Z a0 n0 uu0 uu1 uu2 uu3 uu4) : (Cond.instanceMethod ⟨"java/lang/Object", "clone", "()Ljava/lang/Object;"⟩).before a0 Z = true := wq V 240 rfl
theorem wd241 (V : Env1 Z a0 n0 uu0 uu1 uu2 uu3 uu4) : (Cond.selects "[B" ⟨"[B", "clone", "()Ljava/lang/Object;"⟩ ⟨"java/lang/Object", "clone", "()Ljava/lang/Object;"⟩).before a0 Z = true := wq V 241 rfl
theorem wd242 (V : Env1 Z a0 n0 uu0 uu1 uu2 uu3 uu4) : (Cond.native ⟨"java/lang/Object", "clone", "()Ljava/lang/Object;"⟩).before a0 Z = true := wq V 242 rfl
theorem wd243 (V : Env1 Z a0 n0 uu0 uu1 uu2 uu3 uu4) : (Cond.castable "[B" "java/lang/Cloneable").before a0 Z = true := wq V 243 rfl
theorem wd244 (V : Env1 Z a0 n0 uu0 uu1 uu2 uu3 uu4) : (Cond.classLink "java/util/Arrays" 311 "[B").before a0 Z = true := wq V 244 rfl
theorem wd246 (V : Env1 Z a0 n0 uu0 uu1 uu2 uu3 uu4) : (Cond.stringLink "com/example/formboard/formboard/core/LiveDescriptionPinLaw" 52 "the hint of key ").before a0 Z = true := wq V 246 rfl
theorem wS (V : Env1 Z a0 n0 uu0 uu1 uu2 uu3 uu4) : ∀ a ∈ Bundle.stringAtoms, a.before a0 Z = true := fun d hd => V.1 d ((by decide +kernel : ∀ d ∈ Bundle.stringAtoms, d ∈ tables_1) d hd)
theorem pd_0 : parseMethodDescriptor "(C)Z" = some ⟨[.char], (some .boolean)⟩ := by decide +kernel
theorem pd_1 : parseMethodDescriptor "(C)[B" = some ⟨[.char], (some (.array .byte))⟩ := by decide +kernel
theorem pd_2 : parseMethodDescriptor "([BB)V" = some ⟨[(.array .byte), .byte], none⟩ := by decide +kernel
theorem pd_3 : parseMethodDescriptor "(C)Ljava/lang/String;" = some ⟨[.char], (some (.object "java/lang/String"))⟩ := by decide +kernel
theorem pd_4 : parseMethodDescriptor "()V" = some ⟨[], none⟩ := by decide +kernel
theorem pd_5 : parseMethodDescriptor "(Ljava/lang/Object;Ljava/lang/String;)Ljava/lang/Object;" = some ⟨[(.object "java/lang/Object"), (.object "java/lang/String")], (some (.object "java/lang/Object"))⟩ := by decide +kernel
theorem pd_6 : parseMethodDescriptor "(Lcom/example/formboard/formboard/core/Board$Part;Ljava/lang/String;Ljava/lang/String;)V" = some ⟨[(.object "com/example/formboard/formboard/core/Board$Part"), (.object "java/lang/String"), (.object "java/lang/String")], none⟩ := by decide +kernel
theorem pd_7 : parseMethodDescriptor "()I" = some ⟨[], (some .int)⟩ := by decide +kernel
theorem pd_8 : parseMethodDescriptor "()Ljava/lang/String;" = some ⟨[], (some (.object "java/lang/String"))⟩ := by decide +kernel
theorem pd_9 : parseMethodDescriptor "(IICC)Ljava/lang/String;" = some ⟨[.int, .int, .char, .char], (some (.object "java/lang/String"))⟩ := by decide +kernel
theorem pd_10 : parseMethodDescriptor "(I)V" = some ⟨[.int], none⟩ := by decide +kernel
theorem pd_11 : parseMethodDescriptor "()B" = some ⟨[], (some .byte)⟩ := by decide +kernel
theorem pd_12 : parseMethodDescriptor "(Ljava/lang/String;)V" = some ⟨[(.object "java/lang/String")], none⟩ := by decide +kernel
theorem pd_13 : parseMethodDescriptor "([BIB)V" = some ⟨[(.array .byte), .int, .byte], none⟩ := by decide +kernel
theorem pd_14 : parseMethodDescriptor "(ILjava/lang/String;)V" = some ⟨[.int, (.object "java/lang/String")], none⟩ := by decide +kernel
theorem pd_15 : parseMethodDescriptor "(Ljava/lang/String;)Ljava/lang/AbstractStringBuilder;" = some ⟨[(.object "java/lang/String")], (some (.object "java/lang/AbstractStringBuilder"))⟩ := by decide +kernel
theorem pd_16 : parseMethodDescriptor "(Ljava/lang/String;)Ljava/lang/StringBuilder;" = some ⟨[(.object "java/lang/String")], (some (.object "java/lang/StringBuilder"))⟩ := by decide +kernel
theorem pd_17 : parseMethodDescriptor "()[B" = some ⟨[], (some (.array .byte))⟩ := by decide +kernel
theorem pd_18 : parseMethodDescriptor "()Z" = some ⟨[], (some .boolean)⟩ := by decide +kernel
theorem pd_19 : parseMethodDescriptor "([BII)[B" = some ⟨[(.array .byte), .int, .int], (some (.array .byte))⟩ := by decide +kernel
theorem pd_20 : parseMethodDescriptor "(Ljava/lang/AbstractStringBuilder;Ljava/lang/Void;)V" = some ⟨[(.object "java/lang/AbstractStringBuilder"), (.object "java/lang/Void")], none⟩ := by decide +kernel
theorem pd_21 : parseMethodDescriptor "(Ljava/lang/StringBuilder;)V" = some ⟨[(.object "java/lang/StringBuilder")], none⟩ := by decide +kernel
theorem pd_22 : parseMethodDescriptor "(II)I" = some ⟨[.int, .int], (some .int)⟩ := by decide +kernel
theorem pd_23 : parseMethodDescriptor "(III)I" = some ⟨[.int, .int, .int], (some .int)⟩ := by decide +kernel
theorem pd_24 : parseMethodDescriptor "(I)I" = some ⟨[.int], (some .int)⟩ := by decide +kernel
theorem pd_25 : parseMethodDescriptor "([BI)[B" = some ⟨[(.array .byte), .int], (some (.array .byte))⟩ := by decide +kernel
theorem pd_26 : parseMethodDescriptor "(II)V" = some ⟨[.int, .int], none⟩ := by decide +kernel
theorem strw (V : Env1 Z a0 n0 uu0 uu1 uu2 uu3 uu4) : ∀ d ∈ StrChars.Road.words, d.before a0 Z = true := fun d hd => V.1 d ((by decide +kernel : ∀ d ∈ StrChars.Road.words, d ∈ tables_1) d hd)
theorem strwEq (V : Env1 Z a0 n0 uu0 uu1 uu2 uu3 uu4) : ∀ d ∈ StrChars.Road.wordsEq, d.before a0 Z = true := fun d hd => V.1 d ((by decide +kernel : ∀ d ∈ StrChars.Road.wordsEq, d ∈ tables_1) d hd)
theorem D5_0 : decode jdk_42_method_139_code 0 = .ok (.getstatic 38, 3) := by decide +kernel
theorem D5_3 : decode jdk_42_method_139_code 3 = .ok (.ifCond .eq 23, 3) := by decide +kernel
theorem D5_6 : decode jdk_42_method_139_code 6 = .ok (.iload_n 0, 1) := by decide +kernel
theorem D5_7 : decode jdk_42_method_139_code 7 = .ok (.invokestatic 1015, 3) := by decide +kernel
theorem D12_0 : decode jdk_43_method_3_code 0 = .ok (.iload_n 0, 1) := by decide +kernel
theorem D12_1 : decode jdk_43_method_3_code 1 = .ok (.sipush 255, 3) := by decide +kernel
theorem D12_4 : decode jdk_43_method_3_code 4 = .ok (.if_icmp .gt 7, 3) := by decide +kernel
theorem D12_7 : decode jdk_43_method_3_code 7 = .ok (.iconst 1, 1) := by decide +kernel
theorem D12_8 : decode jdk_43_method_3_code 8 = .ok (.goto 4, 3) := by decide +kernel
theorem D12_12 : decode jdk_43_method_3_code 12 = .ok (.ireturn, 1) := by decide +kernel
theorem D5_10 : decode jdk_42_method_139_code 10 = .ok (.ifCond .eq 16, 3) := by decide +kernel
theorem D5_13 : decode jdk_42_method_139_code 13 = .ok (.new 10, 3) := by decide +kernel
theorem D5_16 : decode jdk_42_method_139_code 16 = .ok (.dup, 1) := by decide +kernel
theorem D5_17 : decode jdk_42_method_139_code 17 = .ok (.iload_n 0, 1) := by decide +kernel
theorem D5_18 : decode jdk_42_method_139_code 18 = .ok (.invokestatic 1018, 3) := by decide +kernel
theorem D13_0 : decode jdk_43_method_46_code 0 = .ok (.iconst 1, 1) := by decide +kernel
theorem D13_1 : decode jdk_43_method_46_code 1 = .ok (.newarray .byte, 2) := by decide +kernel
theorem D13_3 : decode jdk_43_method_46_code 3 = .ok (.dup, 1) := by decide +kernel
theorem D13_4 : decode jdk_43_method_46_code 4 = .ok (.iconst 0, 1) := by decide +kernel
theorem D13_5 : decode jdk_43_method_46_code 5 = .ok (.iload_n 0, 1) := by decide +kernel
theorem D13_6 : decode jdk_43_method_46_code 6 = .ok (.i2b, 1) := by decide +kernel
theorem D13_7 : decode jdk_43_method_46_code 7 = .ok (.bastore, 1) := by decide +kernel
theorem D13_8 : decode jdk_43_method_46_code 8 = .ok (.areturn, 1) := by decide +kernel
theorem D5_21 : decode jdk_42_method_139_code 21 = .ok (.iconst 0, 1) := by decide +kernel
theorem D5_22 : decode jdk_42_method_139_code 22 = .ok (.invokespecial 209, 3) := by decide +kernel
theorem D8_0 : decode jdk_42_method_151_code 0 = .ok (.aload_n 0, 1) := by decide +kernel
theorem D8_1 : decode jdk_42_method_151_code 1 = .ok (.invokespecial 1, 3) := by decide +kernel
theorem D8_4 : decode jdk_42_method_151_code 4 = .ok (.aload_n 0, 1) := by decide +kernel
theorem D8_5 : decode jdk_42_method_151_code 5 = .ok (.aload_n 1, 1) := by decide +kernel
theorem D8_6 : decode jdk_42_method_151_code 6 = .ok (.putfield 9, 3) := by decide +kernel
theorem D8_9 : decode jdk_42_method_151_code 9 = .ok (.aload_n 0, 1) := by decide +kernel
theorem D8_10 : decode jdk_42_method_151_code 10 = .ok (.iload_n 2, 1) := by decide +kernel
theorem D8_11 : decode jdk_42_method_151_code 11 = .ok (.putfield 15, 3) := by decide +kernel
theorem D8_14 : decode jdk_42_method_151_code 14 = .ok (.return_, 1) := by decide +kernel
theorem D5_25 : decode jdk_42_method_139_code 25 = .ok (.areturn, 1) := by decide +kernel
theorem D33_0 : decode prog_16_method_1_code 0 = .ok (.aload_n 0, 1) := by decide +kernel
theorem D33_1 : decode prog_16_method_1_code 1 = .ok (.invokespecial 1, 3) := by decide +kernel
theorem D2_0 : decode jdk_30_method_1_code 0 = .ok (.aload_n 0, 1) := by decide +kernel
theorem D2_1 : decode jdk_30_method_1_code 1 = .ok (.invokespecial 1, 3) := by decide +kernel
theorem D2_4 : decode jdk_30_method_1_code 4 = .ok (.return_, 1) := by decide +kernel
theorem D33_4 : decode prog_16_method_1_code 4 = .ok (.aload_n 1, 1) := by decide +kernel
theorem D33_5 : decode prog_16_method_1_code 5 = .ok (.ldc 7, 2) := by decide +kernel
theorem D33_7 : decode prog_16_method_1_code 7 = .ok (.invokestatic 9, 3) := by decide +kernel
theorem D3_0 : decode jdk_31_method_11_code 0 = .ok (.aload_n 0, 1) := by decide +kernel
theorem D3_1 : decode jdk_31_method_11_code 1 = .ok (.ifnonnull 12, 3) := by decide +kernel
theorem D3_13 : decode jdk_31_method_11_code 13 = .ok (.aload_n 0, 1) := by decide +kernel
theorem D3_14 : decode jdk_31_method_11_code 14 = .ok (.areturn, 1) := by decide +kernel
theorem D33_10 : decode prog_16_method_1_code 10 = .ok (.pop, 1) := by decide +kernel
theorem D33_11 : decode prog_16_method_1_code 11 = .ok (.aload_n 3, 1) := by decide +kernel
theorem D33_12 : decode prog_16_method_1_code 12 = .ok (.ldc 15, 2) := by decide +kernel
theorem D33_14 : decode prog_16_method_1_code 14 = .ok (.invokestatic 9, 3) := by decide +kernel
theorem D33_17 : decode prog_16_method_1_code 17 = .ok (.pop, 1) := by decide +kernel
theorem D33_18 : decode prog_16_method_1_code 18 = .ok (.aload_n 0, 1) := by decide +kernel
theorem D33_19 : decode prog_16_method_1_code 19 = .ok (.aload_n 1, 1) := by decide +kernel
theorem D33_20 : decode prog_16_method_1_code 20 = .ok (.putfield 17, 3) := by decide +kernel
theorem D33_23 : decode prog_16_method_1_code 23 = .ok (.aload_n 0, 1) := by decide +kernel
theorem D33_24 : decode prog_16_method_1_code 24 = .ok (.aload_n 2, 1) := by decide +kernel
theorem D33_25 : decode prog_16_method_1_code 25 = .ok (.putfield 22, 3) := by decide +kernel
theorem D33_28 : decode prog_16_method_1_code 28 = .ok (.aload_n 0, 1) := by decide +kernel
theorem D33_29 : decode prog_16_method_1_code 29 = .ok (.aload_n 3, 1) := by decide +kernel
theorem D33_30 : decode prog_16_method_1_code 30 = .ok (.putfield 26, 3) := by decide +kernel
theorem D33_33 : decode prog_16_method_1_code 33 = .ok (.return_, 1) := by decide +kernel
theorem D34_0 : decode prog_16_method_2_code 0 = .ok (.aload_n 0, 1) := by decide +kernel
theorem D34_1 : decode prog_16_method_2_code 1 = .ok (.getfield 17, 3) := by decide +kernel
theorem D34_4 : decode prog_16_method_2_code 4 = .ok (.invokevirtual 28, 3) := by decide +kernel
theorem D4_0 : decode jdk_37_method_2_code 0 = .ok (.aload_n 0, 1) := by decide +kernel
theorem D4_1 : decode jdk_37_method_2_code 1 = .ok (.getfield 7, 3) := by decide +kernel
theorem D4_4 : decode jdk_37_method_2_code 4 = .ok (.ireturn, 1) := by decide +kernel
theorem D34_7 : decode prog_16_method_2_code 7 = .ok (.tableswitch 25 0 2 #[35, 40, 65], 25) := by decide +kernel
theorem D34_42 : decode prog_16_method_2_code 42 = .ok (.ldc 39, 2) := by decide +kernel
theorem D34_44 : decode prog_16_method_2_code 44 = .ok (.goto 50, 3) := by decide +kernel
theorem D34_94 : decode prog_16_method_2_code 94 = .ok (.areturn, 1) := by decide +kernel
theorem D32_0 : decode method_3_code 0 = .ok (.iload_n 0, 1) := by decide +kernel
theorem D32_1 : decode method_3_code 1 = .ok (.ifCond .ne 6, 3) := by decide +kernel
theorem D32_4 : decode method_3_code 4 = .ok (.ldc 50, 2) := by decide +kernel
theorem D32_6 : decode method_3_code 6 = .ok (.areturn, 1) := by decide +kernel
theorem D34_47 : decode prog_16_method_2_code 47 = .ok (.new 41, 3) := by decide +kernel
theorem D34_50 : decode prog_16_method_2_code 50 = .ok (.dup, 1) := by decide +kernel
theorem D34_51 : decode prog_16_method_2_code 51 = .ok (.invokespecial 43, 3) := by decide +kernel
theorem D19_0 : decode jdk_67_method_1_code 0 = .ok (.aload_n 0, 1) := by decide +kernel
theorem D19_1 : decode jdk_67_method_1_code 1 = .ok (.bipush 16, 2) := by decide +kernel
theorem D19_3 : decode jdk_67_method_1_code 3 = .ok (.invokespecial 1, 3) := by decide +kernel
theorem D25_0 : decode jdk_68_method_2_code 0 = .ok (.aload_n 0, 1) := by decide +kernel
theorem D25_1 : decode jdk_68_method_2_code 1 = .ok (.invokespecial 3, 3) := by decide +kernel
theorem D25_4 : decode jdk_68_method_2_code 4 = .ok (.getstatic 18, 3) := by decide +kernel
theorem D25_7 : decode jdk_68_method_2_code 7 = .ok (.ifCond .eq 18, 3) := by decide +kernel
theorem D25_10 : decode jdk_68_method_2_code 10 = .ok (.aload_n 0, 1) := by decide +kernel
theorem D25_11 : decode jdk_68_method_2_code 11 = .ok (.iload_n 1, 1) := by decide +kernel
theorem D25_12 : decode jdk_68_method_2_code 12 = .ok (.newarray .byte, 2) := by decide +kernel
theorem D25_14 : decode jdk_68_method_2_code 14 = .ok (.putfield 15, 3) := by decide +kernel
theorem D25_17 : decode jdk_68_method_2_code 17 = .ok (.aload_n 0, 1) := by decide +kernel
theorem D25_18 : decode jdk_68_method_2_code 18 = .ok (.iconst 0, 1) := by decide +kernel
theorem D25_19 : decode jdk_68_method_2_code 19 = .ok (.putfield 22, 3) := by decide +kernel
theorem D25_22 : decode jdk_68_method_2_code 22 = .ok (.goto 16, 3) := by decide +kernel
theorem D25_38 : decode jdk_68_method_2_code 38 = .ok (.return_, 1) := by decide +kernel
theorem D19_6 : decode jdk_67_method_1_code 6 = .ok (.return_, 1) := by decide +kernel
theorem D34_54 : decode prog_16_method_2_code 54 = .ok (.ldc 44, 2) := by decide +kernel
theorem D34_56 : decode prog_16_method_2_code 56 = .ok (.invokevirtual 46, 3) := by decide +kernel
theorem D21_0 : decode jdk_67_method_7_code 0 = .ok (.aload_n 0, 1) := by decide +kernel
theorem D21_1 : decode jdk_67_method_7_code 1 = .ok (.aload_n 1, 1) := by decide +kernel
theorem D21_2 : decode jdk_67_method_7_code 2 = .ok (.invokespecial 29, 3) := by decide +kernel
theorem D24_0 : decode jdk_68_method_22_code 0 = .ok (.aload_n 1, 1) := by decide +kernel
theorem D24_1 : decode jdk_68_method_22_code 1 = .ok (.ifnonnull 8, 3) := by decide +kernel
theorem D24_9 : decode jdk_68_method_22_code 9 = .ok (.aload_n 1, 1) := by decide +kernel
theorem D24_10 : decode jdk_68_method_22_code 10 = .ok (.invokevirtual 32, 3) := by decide +kernel
theorem D11_0 : decode jdk_42_method_54_code 0 = .ok (.aload_n 0, 1) := by decide +kernel
theorem D11_1 : decode jdk_42_method_54_code 1 = .ok (.getfield 9, 3) := by decide +kernel
theorem D11_4 : decode jdk_42_method_54_code 4 = .ok (.arraylength, 1) := by decide +kernel
theorem D11_5 : decode jdk_42_method_54_code 5 = .ok (.aload_n 0, 1) := by decide +kernel
theorem D11_6 : decode jdk_42_method_54_code 6 = .ok (.invokevirtual 335, 3) := by decide +kernel
theorem D9_0 : decode jdk_42_method_152_code 0 = .ok (.getstatic 38, 3) := by decide +kernel
theorem D9_3 : decode jdk_42_method_152_code 3 = .ok (.ifCond .eq 10, 3) := by decide +kernel
theorem D9_6 : decode jdk_42_method_152_code 6 = .ok (.aload_n 0, 1) := by decide +kernel
theorem D9_7 : decode jdk_42_method_152_code 7 = .ok (.getfield 15, 3) := by decide +kernel
theorem D9_10 : decode jdk_42_method_152_code 10 = .ok (.goto 4, 3) := by decide +kernel
theorem D9_14 : decode jdk_42_method_152_code 14 = .ok (.ireturn, 1) := by decide +kernel
theorem D11_9 : decode jdk_42_method_54_code 9 = .ok (.ishr, 1) := by decide +kernel
theorem D11_10 : decode jdk_42_method_54_code 10 = .ok (.ireturn, 1) := by decide +kernel
theorem D24_13 : decode jdk_68_method_22_code 13 = .ok (.istore_n 2, 1) := by decide +kernel
theorem D24_14 : decode jdk_68_method_22_code 14 = .ok (.aload_n 0, 1) := by decide +kernel
theorem D24_15 : decode jdk_68_method_22_code 15 = .ok (.aload_n 0, 1) := by decide +kernel
theorem D24_16 : decode jdk_68_method_22_code 16 = .ok (.getfield 79, 3) := by decide +kernel
theorem D24_19 : decode jdk_68_method_22_code 19 = .ok (.iload_n 2, 1) := by decide +kernel
theorem D24_20 : decode jdk_68_method_22_code 20 = .ok (.iadd, 1) := by decide +kernel
theorem D24_21 : decode jdk_68_method_22_code 21 = .ok (.invokevirtual 100, 3) := by decide +kernel
theorem D31_0 : decode jdk_68_method_9_code 0 = .ok (.aload_n 0, 1) := by decide +kernel
theorem D31_1 : decode jdk_68_method_9_code 1 = .ok (.getfield 15, 3) := by decide +kernel
theorem D31_4 : decode jdk_68_method_9_code 4 = .ok (.arraylength, 1) := by decide +kernel
theorem D31_5 : decode jdk_68_method_9_code 5 = .ok (.aload_n 0, 1) := by decide +kernel
theorem D31_6 : decode jdk_68_method_9_code 6 = .ok (.getfield 22, 3) := by decide +kernel
theorem D31_9 : decode jdk_68_method_9_code 9 = .ok (.ishr, 1) := by decide +kernel
theorem D31_10 : decode jdk_68_method_9_code 10 = .ok (.istore_n 2, 1) := by decide +kernel
theorem D31_11 : decode jdk_68_method_9_code 11 = .ok (.iload_n 1, 1) := by decide +kernel
theorem D31_12 : decode jdk_68_method_9_code 12 = .ok (.iload_n 2, 1) := by decide +kernel
theorem D31_13 : decode jdk_68_method_9_code 13 = .ok (.isub, 1) := by decide +kernel
theorem D31_14 : decode jdk_68_method_9_code 14 = .ok (.ifCond .le 24, 3) := by decide +kernel
theorem D31_38 : decode jdk_68_method_9_code 38 = .ok (.return_, 1) := by decide +kernel
theorem D24_24 : decode jdk_68_method_22_code 24 = .ok (.aload_n 0, 1) := by decide +kernel
theorem D24_25 : decode jdk_68_method_22_code 25 = .ok (.aload_n 0, 1) := by decide +kernel
theorem D24_26 : decode jdk_68_method_22_code 26 = .ok (.getfield 79, 3) := by decide +kernel
theorem D24_29 : decode jdk_68_method_22_code 29 = .ok (.aload_n 1, 1) := by decide +kernel
theorem D24_30 : decode jdk_68_method_22_code 30 = .ok (.invokevirtual 208, 3) := by decide +kernel
theorem D30_0 : decode jdk_68_method_73_code 0 = .ok (.aload_n 0, 1) := by decide +kernel
theorem D30_1 : decode jdk_68_method_73_code 1 = .ok (.aload_n 2, 1) := by decide +kernel
theorem D30_2 : decode jdk_68_method_73_code 2 = .ok (.invokevirtual 397, 3) := by decide +kernel
theorem D29_0 : decode jdk_68_method_71_code 0 = .ok (.getstatic 18, 3) := by decide +kernel
theorem D29_3 : decode jdk_68_method_71_code 3 = .ok (.ifCond .eq 18, 3) := by decide +kernel
theorem D29_6 : decode jdk_68_method_71_code 6 = .ok (.aload_n 0, 1) := by decide +kernel
theorem D29_7 : decode jdk_68_method_71_code 7 = .ok (.getfield 22, 3) := by decide +kernel
theorem D29_10 : decode jdk_68_method_71_code 10 = .ok (.aload_n 1, 1) := by decide +kernel
theorem D29_11 : decode jdk_68_method_71_code 11 = .ok (.invokevirtual 40, 3) := by decide +kernel
theorem D29_14 : decode jdk_68_method_71_code 14 = .ok (.if_icmp .eq 7, 3) := by decide +kernel
theorem D29_21 : decode jdk_68_method_71_code 21 = .ok (.return_, 1) := by decide +kernel
theorem D30_5 : decode jdk_68_method_73_code 5 = .ok (.aload_n 2, 1) := by decide +kernel
theorem D30_6 : decode jdk_68_method_73_code 6 = .ok (.aload_n 0, 1) := by decide +kernel
theorem D30_7 : decode jdk_68_method_73_code 7 = .ok (.getfield 15, 3) := by decide +kernel
theorem D30_10 : decode jdk_68_method_73_code 10 = .ok (.iload_n 1, 1) := by decide +kernel
theorem D30_11 : decode jdk_68_method_73_code 11 = .ok (.aload_n 0, 1) := by decide +kernel
theorem D30_12 : decode jdk_68_method_73_code 12 = .ok (.getfield 22, 3) := by decide +kernel
theorem D30_15 : decode jdk_68_method_73_code 15 = .ok (.invokevirtual 399, 3) := by decide +kernel
theorem D6_0 : decode jdk_42_method_147_code 0 = .ok (.aload_n 0, 1) := by decide +kernel
theorem D6_1 : decode jdk_42_method_147_code 1 = .ok (.invokevirtual 335, 3) := by decide +kernel
theorem D6_4 : decode jdk_42_method_147_code 4 = .ok (.iload_n 3, 1) := by decide +kernel
theorem D6_5 : decode jdk_42_method_147_code 5 = .ok (.if_icmp .ne 23, 3) := by decide +kernel
theorem D6_8 : decode jdk_42_method_147_code 8 = .ok (.aload_n 0, 1) := by decide +kernel
theorem D6_9 : decode jdk_42_method_147_code 9 = .ok (.getfield 9, 3) := by decide +kernel
theorem D6_12 : decode jdk_42_method_147_code 12 = .ok (.iconst 0, 1) := by decide +kernel
theorem D6_13 : decode jdk_42_method_147_code 13 = .ok (.aload_n 1, 1) := by decide +kernel
theorem D6_14 : decode jdk_42_method_147_code 14 = .ok (.iload_n 2, 1) := by decide +kernel
theorem D6_15 : decode jdk_42_method_147_code 15 = .ok (.iload_n 3, 1) := by decide +kernel
theorem D6_16 : decode jdk_42_method_147_code 16 = .ok (.ishl, 1) := by decide +kernel
theorem D6_17 : decode jdk_42_method_147_code 17 = .ok (.aload_n 0, 1) := by decide +kernel
theorem D6_18 : decode jdk_42_method_147_code 18 = .ok (.getfield 9, 3) := by decide +kernel
theorem D6_21 : decode jdk_42_method_147_code 21 = .ok (.arraylength, 1) := by decide +kernel
theorem D6_22 : decode jdk_42_method_147_code 22 = .ok (.invokestatic 212, 3) := by decide +kernel
theorem D6_25 : decode jdk_42_method_147_code 25 = .ok (.goto 18, 3) := by decide +kernel
theorem D6_43 : decode jdk_42_method_147_code 43 = .ok (.return_, 1) := by decide +kernel
theorem D30_18 : decode jdk_68_method_73_code 18 = .ok (.return_, 1) := by decide +kernel
theorem D24_33 : decode jdk_68_method_22_code 33 = .ok (.aload_n 0, 1) := by decide +kernel
theorem D24_34 : decode jdk_68_method_22_code 34 = .ok (.dup, 1) := by decide +kernel
theorem D24_35 : decode jdk_68_method_22_code 35 = .ok (.getfield 79, 3) := by decide +kernel
theorem D24_38 : decode jdk_68_method_22_code 38 = .ok (.iload_n 2, 1) := by decide +kernel
theorem D24_39 : decode jdk_68_method_22_code 39 = .ok (.iadd, 1) := by decide +kernel
theorem D24_40 : decode jdk_68_method_22_code 40 = .ok (.putfield 79, 3) := by decide +kernel
theorem D24_43 : decode jdk_68_method_22_code 43 = .ok (.aload_n 0, 1) := by decide +kernel
theorem D24_44 : decode jdk_68_method_22_code 44 = .ok (.areturn, 1) := by decide +kernel
theorem D21_5 : decode jdk_67_method_7_code 5 = .ok (.pop, 1) := by decide +kernel
theorem D21_6 : decode jdk_67_method_7_code 6 = .ok (.aload_n 0, 1) := by decide +kernel
theorem D21_7 : decode jdk_67_method_7_code 7 = .ok (.areturn, 1) := by decide +kernel
theorem D34_59 : decode prog_16_method_2_code 59 = .ok (.aload_n 0, 1) := by decide +kernel
theorem D34_60 : decode prog_16_method_2_code 60 = .ok (.getfield 22, 3) := by decide +kernel
theorem D34_63 : decode prog_16_method_2_code 63 = .ok (.invokevirtual 46, 3) := by decide +kernel
theorem D34_66 : decode prog_16_method_2_code 66 = .ok (.invokevirtual 50, 3) := by decide +kernel
theorem D20_0 : decode jdk_67_method_42_code 0 = .ok (.new 18, 3) := by decide +kernel
theorem D20_3 : decode jdk_67_method_42_code 3 = .ok (.dup, 1) := by decide +kernel
theorem D20_4 : decode jdk_67_method_42_code 4 = .ok (.aload_n 0, 1) := by decide +kernel
theorem D20_5 : decode jdk_67_method_42_code 5 = .ok (.invokespecial 137, 3) := by decide +kernel
theorem D10_0 : decode jdk_42_method_53_code 0 = .ok (.aload_n 0, 1) := by decide +kernel
theorem D10_1 : decode jdk_42_method_53_code 1 = .ok (.aload_n 1, 1) := by decide +kernel
theorem D10_2 : decode jdk_42_method_53_code 2 = .ok (.aconst_null, 1) := by decide +kernel
theorem D10_3 : decode jdk_42_method_53_code 3 = .ok (.invokespecial 489, 3) := by decide +kernel
theorem D7_0 : decode jdk_42_method_150_code 0 = .ok (.aload_n 0, 1) := by decide +kernel
theorem D7_1 : decode jdk_42_method_150_code 1 = .ok (.invokespecial 1, 3) := by decide +kernel
theorem D7_4 : decode jdk_42_method_150_code 4 = .ok (.aload_n 1, 1) := by decide +kernel
theorem D7_5 : decode jdk_42_method_150_code 5 = .ok (.invokevirtual 552, 3) := by decide +kernel
theorem D26_0 : decode jdk_68_method_64_code 0 = .ok (.aload_n 0, 1) := by decide +kernel
theorem D26_1 : decode jdk_68_method_64_code 1 = .ok (.getfield 15, 3) := by decide +kernel
theorem D26_4 : decode jdk_68_method_64_code 4 = .ok (.areturn, 1) := by decide +kernel
theorem D7_8 : decode jdk_42_method_150_code 8 = .ok (.astore_n 3, 1) := by decide +kernel
theorem D7_9 : decode jdk_42_method_150_code 9 = .ok (.aload_n 1, 1) := by decide +kernel
theorem D7_10 : decode jdk_42_method_150_code 10 = .ok (.invokevirtual 549, 3) := by decide +kernel
theorem D22_0 : decode jdk_67_method_93_code 0 = .ok (.aload_n 0, 1) := by decide +kernel
theorem D22_1 : decode jdk_67_method_93_code 1 = .ok (.invokespecial 343, 3) := by decide +kernel
theorem D28_0 : decode jdk_68_method_6_code 0 = .ok (.aload_n 0, 1) := by decide +kernel
theorem D28_1 : decode jdk_68_method_6_code 1 = .ok (.getfield 79, 3) := by decide +kernel
theorem D28_4 : decode jdk_68_method_6_code 4 = .ok (.ireturn, 1) := by decide +kernel
theorem D22_4 : decode jdk_67_method_93_code 4 = .ok (.ireturn, 1) := by decide +kernel
theorem D7_13 : decode jdk_42_method_150_code 13 = .ok (.istore 4, 2) := by decide +kernel
theorem D7_15 : decode jdk_42_method_150_code 15 = .ok (.aload_n 1, 1) := by decide +kernel
theorem D7_16 : decode jdk_42_method_150_code 16 = .ok (.invokevirtual 1047, 3) := by decide +kernel
theorem D27_0 : decode jdk_68_method_68_code 0 = .ok (.getstatic 18, 3) := by decide +kernel
theorem D27_3 : decode jdk_68_method_68_code 3 = .ok (.ifCond .eq 14, 3) := by decide +kernel
theorem D27_6 : decode jdk_68_method_68_code 6 = .ok (.aload_n 0, 1) := by decide +kernel
theorem D27_7 : decode jdk_68_method_68_code 7 = .ok (.getfield 22, 3) := by decide +kernel
theorem D27_10 : decode jdk_68_method_68_code 10 = .ok (.ifCond .ne 7, 3) := by decide +kernel
theorem D27_13 : decode jdk_68_method_68_code 13 = .ok (.iconst 1, 1) := by decide +kernel
theorem D27_14 : decode jdk_68_method_68_code 14 = .ok (.goto 4, 3) := by decide +kernel
theorem D27_18 : decode jdk_68_method_68_code 18 = .ok (.ireturn, 1) := by decide +kernel
theorem D7_19 : decode jdk_42_method_150_code 19 = .ok (.ifCond .eq 22, 3) := by decide +kernel
theorem D7_22 : decode jdk_42_method_150_code 22 = .ok (.aload_n 0, 1) := by decide +kernel
theorem D7_23 : decode jdk_42_method_150_code 23 = .ok (.iconst 0, 1) := by decide +kernel
theorem D7_24 : decode jdk_42_method_150_code 24 = .ok (.putfield 15, 3) := by decide +kernel
theorem D7_27 : decode jdk_42_method_150_code 27 = .ok (.aload_n 0, 1) := by decide +kernel
theorem D7_28 : decode jdk_42_method_150_code 28 = .ok (.aload_n 3, 1) := by decide +kernel
theorem D7_29 : decode jdk_42_method_150_code 29 = .ok (.iconst 0, 1) := by decide +kernel
theorem D7_30 : decode jdk_42_method_150_code 30 = .ok (.iload 4, 2) := by decide +kernel
theorem D7_32 : decode jdk_42_method_150_code 32 = .ok (.invokestatic 54, 3) := by decide +kernel
theorem D17_0 : decode jdk_65_method_132_code 0 = .ok (.iload_n 1, 1) := by decide +kernel
theorem D17_1 : decode jdk_65_method_132_code 1 = .ok (.ifCond .ne 9, 3) := by decide +kernel
theorem D17_4 : decode jdk_65_method_132_code 4 = .ok (.iload_n 2, 1) := by decide +kernel
theorem D17_5 : decode jdk_65_method_132_code 5 = .ok (.aload_n 0, 1) := by decide +kernel
theorem D17_6 : decode jdk_65_method_132_code 6 = .ok (.arraylength, 1) := by decide +kernel
theorem D17_7 : decode jdk_65_method_132_code 7 = .ok (.if_icmp .eq 10, 3) := by decide +kernel
theorem D17_17 : decode jdk_65_method_132_code 17 = .ok (.aload_n 0, 1) := by decide +kernel
theorem D17_18 : decode jdk_65_method_132_code 18 = .ok (.invokevirtual 310, 3) := by decide +kernel
theorem D17_21 : decode jdk_65_method_132_code 21 = .ok (.checkcast 311, 3) := by decide +kernel
theorem D17_24 : decode jdk_65_method_132_code 24 = .ok (.areturn, 1) := by decide +kernel
theorem D7_35 : decode jdk_42_method_150_code 35 = .ok (.putfield 9, 3) := by decide +kernel
theorem D7_38 : decode jdk_42_method_150_code 38 = .ok (.goto 59, 3) := by decide +kernel
theorem D7_97 : decode jdk_42_method_150_code 97 = .ok (.return_, 1) := by decide +kernel
theorem D10_6 : decode jdk_42_method_53_code 6 = .ok (.return_, 1) := by decide +kernel
theorem D20_8 : decode jdk_67_method_42_code 8 = .ok (.areturn, 1) := by decide +kernel
theorem D34_69 : decode prog_16_method_2_code 69 = .ok (.goto 25, 3) := by decide +kernel
theorem D32_7 : decode method_3_code 7 = .ok (.iload_n 0, 1) := by decide +kernel
theorem D32_8 : decode method_3_code 8 = .ok (.iconst 1, 1) := by decide +kernel
theorem D32_9 : decode method_3_code 9 = .ok (.if_icmp .ne 234, 3) := by decide +kernel
theorem D32_12 : decode method_3_code 12 = .ok (.iload_n 1, 1) := by decide +kernel
theorem D32_13 : decode method_3_code 13 = .ok (.ifCond .ne 6, 3) := by decide +kernel
theorem D32_16 : decode method_3_code 16 = .ok (.ldc 52, 2) := by decide +kernel
theorem D32_18 : decode method_3_code 18 = .ok (.areturn, 1) := by decide +kernel
theorem D34_72 : decode prog_16_method_2_code 72 = .ok (.new 41, 3) := by decide +kernel
theorem D34_75 : decode prog_16_method_2_code 75 = .ok (.dup, 1) := by decide +kernel
theorem D34_76 : decode prog_16_method_2_code 76 = .ok (.invokespecial 43, 3) := by decide +kernel
theorem D34_79 : decode prog_16_method_2_code 79 = .ok (.ldc 54, 2) := by decide +kernel
theorem D34_81 : decode prog_16_method_2_code 81 = .ok (.invokevirtual 46, 3) := by decide +kernel
theorem D31_17 : decode jdk_68_method_9_code 17 = .ok (.aload_n 0, 1) := by decide +kernel
theorem D31_18 : decode jdk_68_method_9_code 18 = .ok (.aload_n 0, 1) := by decide +kernel
theorem D31_19 : decode jdk_68_method_9_code 19 = .ok (.getfield 15, 3) := by decide +kernel
theorem D31_22 : decode jdk_68_method_9_code 22 = .ok (.aload_n 0, 1) := by decide +kernel
theorem D31_23 : decode jdk_68_method_9_code 23 = .ok (.iload_n 1, 1) := by decide +kernel
theorem D31_24 : decode jdk_68_method_9_code 24 = .ok (.invokevirtual 104, 3) := by decide +kernel
theorem D23_0 : decode jdk_68_method_10_code 0 = .ok (.aload_n 0, 1) := by decide +kernel
theorem D23_1 : decode jdk_68_method_10_code 1 = .ok (.getfield 15, 3) := by decide +kernel
theorem D23_4 : decode jdk_68_method_10_code 4 = .ok (.arraylength, 1) := by decide +kernel
theorem D23_5 : decode jdk_68_method_10_code 5 = .ok (.istore_n 2, 1) := by decide +kernel
theorem D23_6 : decode jdk_68_method_10_code 6 = .ok (.iload_n 1, 1) := by decide +kernel
theorem D23_7 : decode jdk_68_method_10_code 7 = .ok (.aload_n 0, 1) := by decide +kernel
theorem D23_8 : decode jdk_68_method_10_code 8 = .ok (.getfield 22, 3) := by decide +kernel
theorem D23_11 : decode jdk_68_method_10_code 11 = .ok (.ishl, 1) := by decide +kernel
theorem D23_12 : decode jdk_68_method_10_code 12 = .ok (.istore_n 3, 1) := by decide +kernel
theorem D23_13 : decode jdk_68_method_10_code 13 = .ok (.iload_n 3, 1) := by decide +kernel
theorem D23_14 : decode jdk_68_method_10_code 14 = .ok (.iload_n 2, 1) := by decide +kernel
theorem D23_15 : decode jdk_68_method_10_code 15 = .ok (.isub, 1) := by decide +kernel
theorem D23_16 : decode jdk_68_method_10_code 16 = .ok (.istore 4, 2) := by decide +kernel
theorem D23_18 : decode jdk_68_method_10_code 18 = .ok (.iload_n 2, 1) := by decide +kernel
theorem D23_19 : decode jdk_68_method_10_code 19 = .ok (.iload 4, 2) := by decide +kernel
theorem D23_21 : decode jdk_68_method_10_code 21 = .ok (.iload_n 2, 1) := by decide +kernel
theorem D23_22 : decode jdk_68_method_10_code 22 = .ok (.iconst 2, 1) := by decide +kernel
theorem D23_23 : decode jdk_68_method_10_code 23 = .ok (.aload_n 0, 1) := by decide +kernel
theorem D23_24 : decode jdk_68_method_10_code 24 = .ok (.getfield 22, 3) := by decide +kernel
theorem D23_27 : decode jdk_68_method_10_code 27 = .ok (.ishl, 1) := by decide +kernel
theorem D23_28 : decode jdk_68_method_10_code 28 = .ok (.iadd, 1) := by decide +kernel
theorem D23_29 : decode jdk_68_method_10_code 29 = .ok (.invokestatic 114, 3) := by decide +kernel
theorem D14_0 : decode jdk_48_method_27_code 0 = .ok (.iload_n 0, 1) := by decide +kernel
theorem D14_1 : decode jdk_48_method_27_code 1 = .ok (.iload_n 1, 1) := by decide +kernel
theorem D14_2 : decode jdk_48_method_27_code 2 = .ok (.iload_n 2, 1) := by decide +kernel
theorem D14_3 : decode jdk_48_method_27_code 3 = .ok (.invokestatic 194, 3) := by decide +kernel
theorem D0_0 : decode jdk_29_method_65_code 0 = .ok (.iload_n 0, 1) := by decide +kernel
theorem D0_1 : decode jdk_29_method_65_code 1 = .ok (.iload_n 1, 1) := by decide +kernel
theorem D0_2 : decode jdk_29_method_65_code 2 = .ok (.if_icmp .lt 7, 3) := by decide +kernel
theorem D0_9 : decode jdk_29_method_65_code 9 = .ok (.iload_n 1, 1) := by decide +kernel
theorem D0_10 : decode jdk_29_method_65_code 10 = .ok (.ireturn, 1) := by decide +kernel
theorem D14_6 : decode jdk_48_method_27_code 6 = .ok (.iadd, 1) := by decide +kernel
theorem D14_7 : decode jdk_48_method_27_code 7 = .ok (.istore_n 3, 1) := by decide +kernel
theorem D14_8 : decode jdk_48_method_27_code 8 = .ok (.iconst 0, 1) := by decide +kernel
theorem D14_9 : decode jdk_48_method_27_code 9 = .ok (.iload_n 3, 1) := by decide +kernel
theorem D14_10 : decode jdk_48_method_27_code 10 = .ok (.if_icmp .ge 11, 3) := by decide +kernel
theorem D14_13 : decode jdk_48_method_27_code 13 = .ok (.iload_n 3, 1) := by decide +kernel
theorem D14_14 : decode jdk_48_method_27_code 14 = .ok (.ldc 200, 2) := by decide +kernel
theorem D14_16 : decode jdk_48_method_27_code 16 = .ok (.if_icmp .gt 5, 3) := by decide +kernel
theorem D14_19 : decode jdk_48_method_27_code 19 = .ok (.iload_n 3, 1) := by decide +kernel
theorem D14_20 : decode jdk_48_method_27_code 20 = .ok (.ireturn, 1) := by decide +kernel
theorem D23_32 : decode jdk_68_method_10_code 32 = .ok (.istore 5, 2) := by decide +kernel
theorem D23_34 : decode jdk_68_method_10_code 34 = .ok (.iload 5, 2) := by decide +kernel
theorem D23_36 : decode jdk_68_method_10_code 36 = .ok (.ldc 39, 2) := by decide +kernel
theorem D23_38 : decode jdk_68_method_10_code 38 = .ok (.if_icmp .ne 13, 3) := by decide +kernel
theorem D23_51 : decode jdk_68_method_10_code 51 = .ok (.iload 5, 2) := by decide +kernel
theorem D23_53 : decode jdk_68_method_10_code 53 = .ok (.aload_n 0, 1) := by decide +kernel
theorem D23_54 : decode jdk_68_method_10_code 54 = .ok (.getfield 22, 3) := by decide +kernel
theorem D23_57 : decode jdk_68_method_10_code 57 = .ok (.ishr, 1) := by decide +kernel
theorem D23_58 : decode jdk_68_method_10_code 58 = .ok (.ireturn, 1) := by decide +kernel
theorem D31_27 : decode jdk_68_method_9_code 27 = .ok (.aload_n 0, 1) := by decide +kernel
theorem D31_28 : decode jdk_68_method_9_code 28 = .ok (.getfield 22, 3) := by decide +kernel
theorem D31_31 : decode jdk_68_method_9_code 31 = .ok (.ishl, 1) := by decide +kernel
theorem D31_32 : decode jdk_68_method_9_code 32 = .ok (.invokestatic 108, 3) := by decide +kernel
theorem D15_0 : decode jdk_65_method_121_code 0 = .ok (.iload_n 1, 1) := by decide +kernel
theorem D15_1 : decode jdk_65_method_121_code 1 = .ok (.aload_n 0, 1) := by decide +kernel
theorem D15_2 : decode jdk_65_method_121_code 2 = .ok (.arraylength, 1) := by decide +kernel
theorem D15_3 : decode jdk_65_method_121_code 3 = .ok (.if_icmp .ne 11, 3) := by decide +kernel
theorem D15_14 : decode jdk_65_method_121_code 14 = .ok (.iload_n 1, 1) := by decide +kernel
theorem D15_15 : decode jdk_65_method_121_code 15 = .ok (.newarray .byte, 2) := by decide +kernel
theorem D15_17 : decode jdk_65_method_121_code 17 = .ok (.astore_n 2, 1) := by decide +kernel
theorem D15_18 : decode jdk_65_method_121_code 18 = .ok (.aload_n 0, 1) := by decide +kernel
theorem D15_19 : decode jdk_65_method_121_code 19 = .ok (.iconst 0, 1) := by decide +kernel
theorem D15_20 : decode jdk_65_method_121_code 20 = .ok (.aload_n 2, 1) := by decide +kernel
theorem D15_21 : decode jdk_65_method_121_code 21 = .ok (.iconst 0, 1) := by decide +kernel
theorem D15_22 : decode jdk_65_method_121_code 22 = .ok (.aload_n 0, 1) := by decide +kernel
theorem D15_23 : decode jdk_65_method_121_code 23 = .ok (.arraylength, 1) := by decide +kernel
theorem D15_24 : decode jdk_65_method_121_code 24 = .ok (.iload_n 1, 1) := by decide +kernel
theorem D15_25 : decode jdk_65_method_121_code 25 = .ok (.invokestatic 304, 3) := by decide +kernel
theorem D1_0 : decode jdk_29_method_69_code 0 = .ok (.iload_n 0, 1) := by decide +kernel
theorem D1_1 : decode jdk_29_method_69_code 1 = .ok (.iload_n 1, 1) := by decide +kernel
theorem D1_2 : decode jdk_29_method_69_code 2 = .ok (.if_icmp .gt 7, 3) := by decide +kernel
theorem D1_5 : decode jdk_29_method_69_code 5 = .ok (.iload_n 0, 1) := by decide +kernel
theorem D1_6 : decode jdk_29_method_69_code 6 = .ok (.goto 4, 3) := by decide +kernel
theorem D1_10 : decode jdk_29_method_69_code 10 = .ok (.ireturn, 1) := by decide +kernel
theorem D15_28 : decode jdk_65_method_121_code 28 = .ok (.invokestatic 150, 3) := by decide +kernel
theorem D15_31 : decode jdk_65_method_121_code 31 = .ok (.aload_n 2, 1) := by decide +kernel
theorem D15_32 : decode jdk_65_method_121_code 32 = .ok (.areturn, 1) := by decide +kernel
theorem D31_35 : decode jdk_68_method_9_code 35 = .ok (.putfield 15, 3) := by decide +kernel
theorem D34_84 : decode prog_16_method_2_code 84 = .ok (.aload_n 0, 1) := by decide +kernel
theorem D34_85 : decode prog_16_method_2_code 85 = .ok (.getfield 22, 3) := by decide +kernel
theorem D34_88 : decode prog_16_method_2_code 88 = .ok (.invokevirtual 46, 3) := by decide +kernel
theorem D34_91 : decode prog_16_method_2_code 91 = .ok (.invokevirtual 50, 3) := by decide +kernel
theorem D17_10 : decode jdk_65_method_132_code 10 = .ok (.aload_n 0, 1) := by decide +kernel
theorem D17_11 : decode jdk_65_method_132_code 11 = .ok (.iload_n 1, 1) := by decide +kernel
theorem D17_12 : decode jdk_65_method_132_code 12 = .ok (.iload_n 2, 1) := by decide +kernel
theorem D17_13 : decode jdk_65_method_132_code 13 = .ok (.invokestatic 339, 3) := by decide +kernel
theorem D18_0 : decode jdk_65_method_133_code 0 = .ok (.iload_n 1, 1) := by decide +kernel
theorem D18_1 : decode jdk_65_method_133_code 1 = .ok (.iload_n 2, 1) := by decide +kernel
theorem D18_2 : decode jdk_65_method_133_code 2 = .ok (.invokestatic 343, 3) := by decide +kernel
theorem D16_0 : decode jdk_65_method_131_code 0 = .ok (.iload_n 1, 1) := by decide +kernel
theorem D16_1 : decode jdk_65_method_131_code 1 = .ok (.iload_n 0, 1) := by decide +kernel
theorem D16_2 : decode jdk_65_method_131_code 2 = .ok (.if_icmp .ge 35, 3) := by decide +kernel
theorem D16_37 : decode jdk_65_method_131_code 37 = .ok (.return_, 1) := by decide +kernel
theorem D18_5 : decode jdk_65_method_133_code 5 = .ok (.iload_n 2, 1) := by decide +kernel
theorem D18_6 : decode jdk_65_method_133_code 6 = .ok (.iload_n 1, 1) := by decide +kernel
theorem D18_7 : decode jdk_65_method_133_code 7 = .ok (.isub, 1) := by decide +kernel
theorem D18_8 : decode jdk_65_method_133_code 8 = .ok (.istore_n 3, 1) := by decide +kernel
theorem D18_9 : decode jdk_65_method_133_code 9 = .ok (.iload_n 3, 1) := by decide +kernel
theorem D18_10 : decode jdk_65_method_133_code 10 = .ok (.newarray .byte, 2) := by decide +kernel
theorem D18_12 : decode jdk_65_method_133_code 12 = .ok (.astore 4, 2) := by decide +kernel
theorem D18_14 : decode jdk_65_method_133_code 14 = .ok (.aload_n 0, 1) := by decide +kernel
theorem D18_15 : decode jdk_65_method_133_code 15 = .ok (.iload_n 1, 1) := by decide +kernel
theorem D18_16 : decode jdk_65_method_133_code 16 = .ok (.aload 4, 2) := by decide +kernel
theorem D18_18 : decode jdk_65_method_133_code 18 = .ok (.iconst 0, 1) := by decide +kernel
theorem D18_19 : decode jdk_65_method_133_code 19 = .ok (.aload_n 0, 1) := by decide +kernel
theorem D18_20 : decode jdk_65_method_133_code 20 = .ok (.arraylength, 1) := by decide +kernel
theorem D18_21 : decode jdk_65_method_133_code 21 = .ok (.iload_n 1, 1) := by decide +kernel
theorem D18_22 : decode jdk_65_method_133_code 22 = .ok (.isub, 1) := by decide +kernel
theorem D18_23 : decode jdk_65_method_133_code 23 = .ok (.iload_n 3, 1) := by decide +kernel
theorem D18_24 : decode jdk_65_method_133_code 24 = .ok (.invokestatic 304, 3) := by decide +kernel
theorem D1_9 : decode jdk_29_method_69_code 9 = .ok (.iload_n 1, 1) := by decide +kernel
theorem D18_27 : decode jdk_65_method_133_code 27 = .ok (.invokestatic 150, 3) := by decide +kernel
theorem D18_30 : decode jdk_65_method_133_code 30 = .ok (.aload 4, 2) := by decide +kernel
theorem D18_32 : decode jdk_65_method_133_code 32 = .ok (.areturn, 1) := by decide +kernel
theorem D17_16 : decode jdk_65_method_132_code 16 = .ok (.areturn, 1) := by decide +kernel
theorem D32_243 : decode method_3_code 243 = .ok (.iload_n 1, 1) := by decide +kernel
theorem D32_244 : decode method_3_code 244 = .ok (.ifCond .ne 6, 3) := by decide +kernel
theorem D32_247 : decode method_3_code 247 = .ok (.ldc 54, 2) := by decide +kernel
theorem D32_249 : decode method_3_code 249 = .ok (.areturn, 1) := by decide +kernel
theorem D32_19 : decode method_3_code 19 = .ok (.iload_n 1, 1) := by decide +kernel
theorem D32_20 : decode method_3_code 20 = .ok (.iconst 1, 1) := by decide +kernel
theorem D32_21 : decode method_3_code 21 = .ok (.if_icmp .ne 110, 3) := by decide +kernel
theorem D32_24 : decode method_3_code 24 = .ok (.new 11, 3) := by decide +kernel
theorem D32_27 : decode method_3_code 27 = .ok (.dup, 1) := by decide +kernel
theorem D32_28 : decode method_3_code 28 = .ok (.bipush 17, 2) := by decide +kernel
theorem D32_30 : decode method_3_code 30 = .ok (.newarray .char, 2) := by decide +kernel
theorem D32_32 : decode method_3_code 32 = .ok (.dup, 1) := by decide +kernel
theorem D32_33 : decode method_3_code 33 = .ok (.iconst 0, 1) := by decide +kernel
theorem D32_34 : decode method_3_code 34 = .ok (.bipush 116, 2) := by decide +kernel
theorem D32_36 : decode method_3_code 36 = .ok (.castore, 1) := by decide +kernel
theorem D32_37 : decode method_3_code 37 = .ok (.dup, 1) := by decide +kernel
theorem D32_38 : decode method_3_code 38 = .ok (.iconst 1, 1) := by decide +kernel
theorem D32_39 : decode method_3_code 39 = .ok (.bipush 104, 2) := by decide +kernel
theorem D32_41 : decode method_3_code 41 = .ok (.castore, 1) := by decide +kernel
theorem D32_42 : decode method_3_code 42 = .ok (.dup, 1) := by decide +kernel
theorem D32_43 : decode method_3_code 43 = .ok (.iconst 2, 1) := by decide +kernel
theorem D32_44 : decode method_3_code 44 = .ok (.bipush 101, 2) := by decide +kernel
theorem D32_46 : decode method_3_code 46 = .ok (.castore, 1) := by decide +kernel
theorem D32_47 : decode method_3_code 47 = .ok (.dup, 1) := by decide +kernel
theorem D32_48 : decode method_3_code 48 = .ok (.iconst 3, 1) := by decide +kernel
theorem D32_49 : decode method_3_code 49 = .ok (.bipush 32, 2) := by decide +kernel
theorem D32_51 : decode method_3_code 51 = .ok (.castore, 1) := by decide +kernel
theorem D32_52 : decode method_3_code 52 = .ok (.dup, 1) := by decide +kernel
theorem D32_53 : decode method_3_code 53 = .ok (.iconst 4, 1) := by decide +kernel
theorem D32_54 : decode method_3_code 54 = .ok (.bipush 104, 2) := by decide +kernel
theorem D32_56 : decode method_3_code 56 = .ok (.castore, 1) := by decide +kernel
theorem D32_57 : decode method_3_code 57 = .ok (.dup, 1) := by decide +kernel
theorem D32_58 : decode method_3_code 58 = .ok (.iconst 5, 1) := by decide +kernel
theorem D32_59 : decode method_3_code 59 = .ok (.bipush 105, 2) := by decide +kernel
theorem D32_61 : decode method_3_code 61 = .ok (.castore, 1) := by decide +kernel
theorem D32_62 : decode method_3_code 62 = .ok (.dup, 1) := by decide +kernel
theorem D32_63 : decode method_3_code 63 = .ok (.bipush 6, 2) := by decide +kernel
theorem D32_65 : decode method_3_code 65 = .ok (.bipush 110, 2) := by decide +kernel
theorem D32_67 : decode method_3_code 67 = .ok (.castore, 1) := by decide +kernel
theorem D32_68 : decode method_3_code 68 = .ok (.dup, 1) := by decide +kernel
theorem D32_69 : decode method_3_code 69 = .ok (.bipush 7, 2) := by decide +kernel
theorem D32_71 : decode method_3_code 71 = .ok (.bipush 116, 2) := by decide +kernel
theorem D32_73 : decode method_3_code 73 = .ok (.castore, 1) := by decide +kernel
theorem D32_74 : decode method_3_code 74 = .ok (.dup, 1) := by decide +kernel
theorem D32_75 : decode method_3_code 75 = .ok (.bipush 8, 2) := by decide +kernel
theorem D32_77 : decode method_3_code 77 = .ok (.bipush 32, 2) := by decide +kernel
theorem D32_79 : decode method_3_code 79 = .ok (.castore, 1) := by decide +kernel
theorem D32_80 : decode method_3_code 80 = .ok (.dup, 1) := by decide +kernel
theorem D32_81 : decode method_3_code 81 = .ok (.bipush 9, 2) := by decide +kernel
theorem D32_83 : decode method_3_code 83 = .ok (.bipush 111, 2) := by decide +kernel
theorem D32_85 : decode method_3_code 85 = .ok (.castore, 1) := by decide +kernel
theorem D32_86 : decode method_3_code 86 = .ok (.dup, 1) := by decide +kernel
theorem D32_87 : decode method_3_code 87 = .ok (.bipush 10, 2) := by decide +kernel
theorem D32_89 : decode method_3_code 89 = .ok (.bipush 102, 2) := by decide +kernel
theorem D32_91 : decode method_3_code 91 = .ok (.castore, 1) := by decide +kernel
theorem D32_92 : decode method_3_code 92 = .ok (.dup, 1) := by decide +kernel
theorem D32_93 : decode method_3_code 93 = .ok (.bipush 11, 2) := by decide +kernel
theorem D32_95 : decode method_3_code 95 = .ok (.bipush 32, 2) := by decide +kernel
theorem D32_97 : decode method_3_code 97 = .ok (.castore, 1) := by decide +kernel
theorem D32_98 : decode method_3_code 98 = .ok (.dup, 1) := by decide +kernel
theorem D32_99 : decode method_3_code 99 = .ok (.bipush 12, 2) := by decide +kernel
theorem D32_101 : decode method_3_code 101 = .ok (.bipush 107, 2) := by decide +kernel
theorem D32_103 : decode method_3_code 103 = .ok (.castore, 1) := by decide +kernel
theorem D32_104 : decode method_3_code 104 = .ok (.dup, 1) := by decide +kernel
theorem D32_105 : decode method_3_code 105 = .ok (.bipush 13, 2) := by decide +kernel
theorem D32_107 : decode method_3_code 107 = .ok (.bipush 101, 2) := by decide +kernel
theorem D32_109 : decode method_3_code 109 = .ok (.castore, 1) := by decide +kernel
theorem D32_110 : decode method_3_code 110 = .ok (.dup, 1) := by decide +kernel
theorem D32_111 : decode method_3_code 111 = .ok (.bipush 14, 2) := by decide +kernel
theorem D32_113 : decode method_3_code 113 = .ok (.bipush 121, 2) := by decide +kernel
theorem D32_115 : decode method_3_code 115 = .ok (.castore, 1) := by decide +kernel
theorem D32_116 : decode method_3_code 116 = .ok (.dup, 1) := by decide +kernel
theorem D32_117 : decode method_3_code 117 = .ok (.bipush 15, 2) := by decide +kernel
theorem D32_119 : decode method_3_code 119 = .ok (.bipush 32, 2) := by decide +kernel
theorem D32_121 : decode method_3_code 121 = .ok (.castore, 1) := by decide +kernel
theorem D32_122 : decode method_3_code 122 = .ok (.dup, 1) := by decide +kernel
theorem D32_123 : decode method_3_code 123 = .ok (.bipush 16, 2) := by decide +kernel
theorem D32_125 : decode method_3_code 125 = .ok (.iload_n 2, 1) := by decide +kernel
theorem D32_126 : decode method_3_code 126 = .ok (.castore, 1) := by decide +kernel
theorem D32_127 : decode method_3_code 127 = .ok (.invokespecial 16, 3) := by decide +kernel
theorem D32_130 : decode method_3_code 130 = .ok (.areturn, 1) := by decide +kernel
theorem D32_250 : decode method_3_code 250 = .ok (.iload_n 1, 1) := by decide +kernel
theorem D32_251 : decode method_3_code 251 = .ok (.iconst 1, 1) := by decide +kernel
theorem D32_252 : decode method_3_code 252 = .ok (.if_icmp .ne 122, 3) := by decide +kernel
theorem D32_255 : decode method_3_code 255 = .ok (.new 11, 3) := by decide +kernel
theorem D32_258 : decode method_3_code 258 = .ok (.dup, 1) := by decide +kernel
theorem D32_259 : decode method_3_code 259 = .ok (.bipush 19, 2) := by decide +kernel
theorem D32_261 : decode method_3_code 261 = .ok (.newarray .char, 2) := by decide +kernel
theorem D32_263 : decode method_3_code 263 = .ok (.dup, 1) := by decide +kernel
theorem D32_264 : decode method_3_code 264 = .ok (.iconst 0, 1) := by decide +kernel
theorem D32_265 : decode method_3_code 265 = .ok (.bipush 116, 2) := by decide +kernel
theorem D32_267 : decode method_3_code 267 = .ok (.castore, 1) := by decide +kernel
theorem D32_268 : decode method_3_code 268 = .ok (.dup, 1) := by decide +kernel
theorem D32_269 : decode method_3_code 269 = .ok (.iconst 1, 1) := by decide +kernel
theorem D32_270 : decode method_3_code 270 = .ok (.bipush 104, 2) := by decide +kernel
theorem D32_272 : decode method_3_code 272 = .ok (.castore, 1) := by decide +kernel
theorem D32_273 : decode method_3_code 273 = .ok (.dup, 1) := by decide +kernel
theorem D32_274 : decode method_3_code 274 = .ok (.iconst 2, 1) := by decide +kernel
theorem D32_275 : decode method_3_code 275 = .ok (.bipush 101, 2) := by decide +kernel
theorem D32_277 : decode method_3_code 277 = .ok (.castore, 1) := by decide +kernel
theorem D32_278 : decode method_3_code 278 = .ok (.dup, 1) := by decide +kernel
theorem D32_279 : decode method_3_code 279 = .ok (.iconst 3, 1) := by decide +kernel
theorem D32_280 : decode method_3_code 280 = .ok (.bipush 32, 2) := by decide +kernel
theorem D32_282 : decode method_3_code 282 = .ok (.castore, 1) := by decide +kernel
theorem D32_283 : decode method_3_code 283 = .ok (.dup, 1) := by decide +kernel
theorem D32_284 : decode method_3_code 284 = .ok (.iconst 4, 1) := by decide +kernel
theorem D32_285 : decode method_3_code 285 = .ok (.bipush 116, 2) := by decide +kernel
theorem D32_287 : decode method_3_code 287 = .ok (.castore, 1) := by decide +kernel
theorem D32_288 : decode method_3_code 288 = .ok (.dup, 1) := by decide +kernel
theorem D32_289 : decode method_3_code 289 = .ok (.iconst 5, 1) := by decide +kernel
theorem D32_290 : decode method_3_code 290 = .ok (.bipush 111, 2) := by decide +kernel
theorem D32_292 : decode method_3_code 292 = .ok (.castore, 1) := by decide +kernel
theorem D32_293 : decode method_3_code 293 = .ok (.dup, 1) := by decide +kernel
theorem D32_294 : decode method_3_code 294 = .ok (.bipush 6, 2) := by decide +kernel
theorem D32_296 : decode method_3_code 296 = .ok (.bipush 103, 2) := by decide +kernel
theorem D32_298 : decode method_3_code 298 = .ok (.castore, 1) := by decide +kernel
theorem D32_299 : decode method_3_code 299 = .ok (.dup, 1) := by decide +kernel
theorem D32_300 : decode method_3_code 300 = .ok (.bipush 7, 2) := by decide +kernel
theorem D32_302 : decode method_3_code 302 = .ok (.bipush 103, 2) := by decide +kernel
theorem D32_304 : decode method_3_code 304 = .ok (.castore, 1) := by decide +kernel
theorem D32_305 : decode method_3_code 305 = .ok (.dup, 1) := by decide +kernel
theorem D32_306 : decode method_3_code 306 = .ok (.bipush 8, 2) := by decide +kernel
theorem D32_308 : decode method_3_code 308 = .ok (.bipush 108, 2) := by decide +kernel
theorem D32_310 : decode method_3_code 310 = .ok (.castore, 1) := by decide +kernel
theorem D32_311 : decode method_3_code 311 = .ok (.dup, 1) := by decide +kernel
theorem D32_312 : decode method_3_code 312 = .ok (.bipush 9, 2) := by decide +kernel
theorem D32_314 : decode method_3_code 314 = .ok (.bipush 101, 2) := by decide +kernel
theorem D32_316 : decode method_3_code 316 = .ok (.castore, 1) := by decide +kernel
theorem D32_317 : decode method_3_code 317 = .ok (.dup, 1) := by decide +kernel
theorem D32_318 : decode method_3_code 318 = .ok (.bipush 10, 2) := by decide +kernel
theorem D32_320 : decode method_3_code 320 = .ok (.bipush 32, 2) := by decide +kernel
theorem D32_322 : decode method_3_code 322 = .ok (.castore, 1) := by decide +kernel
theorem D32_323 : decode method_3_code 323 = .ok (.dup, 1) := by decide +kernel
theorem D32_324 : decode method_3_code 324 = .ok (.bipush 11, 2) := by decide +kernel
theorem D32_326 : decode method_3_code 326 = .ok (.bipush 111, 2) := by decide +kernel
theorem D32_328 : decode method_3_code 328 = .ok (.castore, 1) := by decide +kernel
theorem D32_329 : decode method_3_code 329 = .ok (.dup, 1) := by decide +kernel
theorem D32_330 : decode method_3_code 330 = .ok (.bipush 12, 2) := by decide +kernel
theorem D32_332 : decode method_3_code 332 = .ok (.bipush 102, 2) := by decide +kernel
theorem D32_334 : decode method_3_code 334 = .ok (.castore, 1) := by decide +kernel
theorem D32_335 : decode method_3_code 335 = .ok (.dup, 1) := by decide +kernel
theorem D32_336 : decode method_3_code 336 = .ok (.bipush 13, 2) := by decide +kernel
theorem D32_338 : decode method_3_code 338 = .ok (.bipush 32, 2) := by decide +kernel
theorem D32_340 : decode method_3_code 340 = .ok (.castore, 1) := by decide +kernel
theorem D32_341 : decode method_3_code 341 = .ok (.dup, 1) := by decide +kernel
theorem D32_342 : decode method_3_code 342 = .ok (.bipush 14, 2) := by decide +kernel
theorem D32_344 : decode method_3_code 344 = .ok (.bipush 107, 2) := by decide +kernel
theorem D32_346 : decode method_3_code 346 = .ok (.castore, 1) := by decide +kernel
theorem D32_347 : decode method_3_code 347 = .ok (.dup, 1) := by decide +kernel
theorem D32_348 : decode method_3_code 348 = .ok (.bipush 15, 2) := by decide +kernel
theorem D32_350 : decode method_3_code 350 = .ok (.bipush 101, 2) := by decide +kernel
theorem D32_352 : decode method_3_code 352 = .ok (.castore, 1) := by decide +kernel
theorem D32_353 : decode method_3_code 353 = .ok (.dup, 1) := by decide +kernel
theorem D32_354 : decode method_3_code 354 = .ok (.bipush 16, 2) := by decide +kernel
theorem D32_356 : decode method_3_code 356 = .ok (.bipush 121, 2) := by decide +kernel
theorem D32_358 : decode method_3_code 358 = .ok (.castore, 1) := by decide +kernel
theorem D32_359 : decode method_3_code 359 = .ok (.dup, 1) := by decide +kernel
theorem D32_360 : decode method_3_code 360 = .ok (.bipush 17, 2) := by decide +kernel
theorem D32_362 : decode method_3_code 362 = .ok (.bipush 32, 2) := by decide +kernel
theorem D32_364 : decode method_3_code 364 = .ok (.castore, 1) := by decide +kernel
theorem D32_365 : decode method_3_code 365 = .ok (.dup, 1) := by decide +kernel
theorem D32_366 : decode method_3_code 366 = .ok (.bipush 18, 2) := by decide +kernel
theorem D32_368 : decode method_3_code 368 = .ok (.iload_n 2, 1) := by decide +kernel
theorem D32_369 : decode method_3_code 369 = .ok (.castore, 1) := by decide +kernel
theorem D32_370 : decode method_3_code 370 = .ok (.invokespecial 16, 3) := by decide +kernel
theorem D32_373 : decode method_3_code 373 = .ok (.areturn, 1) := by decide +kernel
theorem D32_131 : decode method_3_code 131 = .ok (.new 11, 3) := by decide +kernel
theorem D32_134 : decode method_3_code 134 = .ok (.dup, 1) := by decide +kernel
theorem D32_135 : decode method_3_code 135 = .ok (.bipush 18, 2) := by decide +kernel
theorem D32_137 : decode method_3_code 137 = .ok (.newarray .char, 2) := by decide +kernel
theorem D32_139 : decode method_3_code 139 = .ok (.dup, 1) := by decide +kernel
theorem D32_140 : decode method_3_code 140 = .ok (.iconst 0, 1) := by decide +kernel
theorem D32_141 : decode method_3_code 141 = .ok (.bipush 116, 2) := by decide +kernel
theorem D32_143 : decode method_3_code 143 = .ok (.castore, 1) := by decide +kernel
theorem D32_144 : decode method_3_code 144 = .ok (.dup, 1) := by decide +kernel
theorem D32_145 : decode method_3_code 145 = .ok (.iconst 1, 1) := by decide +kernel
theorem D32_146 : decode method_3_code 146 = .ok (.bipush 104, 2) := by decide +kernel
theorem D32_148 : decode method_3_code 148 = .ok (.castore, 1) := by decide +kernel
theorem D32_149 : decode method_3_code 149 = .ok (.dup, 1) := by decide +kernel
theorem D32_150 : decode method_3_code 150 = .ok (.iconst 2, 1) := by decide +kernel
theorem D32_151 : decode method_3_code 151 = .ok (.bipush 101, 2) := by decide +kernel
theorem D32_153 : decode method_3_code 153 = .ok (.castore, 1) := by decide +kernel
theorem D32_154 : decode method_3_code 154 = .ok (.dup, 1) := by decide +kernel
theorem D32_155 : decode method_3_code 155 = .ok (.iconst 3, 1) := by decide +kernel
theorem D32_156 : decode method_3_code 156 = .ok (.bipush 32, 2) := by decide +kernel
theorem D32_158 : decode method_3_code 158 = .ok (.castore, 1) := by decide +kernel
theorem D32_159 : decode method_3_code 159 = .ok (.dup, 1) := by decide +kernel
theorem D32_160 : decode method_3_code 160 = .ok (.iconst 4, 1) := by decide +kernel
theorem D32_161 : decode method_3_code 161 = .ok (.bipush 104, 2) := by decide +kernel
theorem D32_163 : decode method_3_code 163 = .ok (.castore, 1) := by decide +kernel
theorem D32_164 : decode method_3_code 164 = .ok (.dup, 1) := by decide +kernel
theorem D32_165 : decode method_3_code 165 = .ok (.iconst 5, 1) := by decide +kernel
theorem D32_166 : decode method_3_code 166 = .ok (.bipush 105, 2) := by decide +kernel
theorem D32_168 : decode method_3_code 168 = .ok (.castore, 1) := by decide +kernel
theorem D32_169 : decode method_3_code 169 = .ok (.dup, 1) := by decide +kernel
theorem D32_170 : decode method_3_code 170 = .ok (.bipush 6, 2) := by decide +kernel
theorem D32_172 : decode method_3_code 172 = .ok (.bipush 110, 2) := by decide +kernel
theorem D32_174 : decode method_3_code 174 = .ok (.castore, 1) := by decide +kernel
theorem D32_175 : decode method_3_code 175 = .ok (.dup, 1) := by decide +kernel
theorem D32_176 : decode method_3_code 176 = .ok (.bipush 7, 2) := by decide +kernel
theorem D32_178 : decode method_3_code 178 = .ok (.bipush 116, 2) := by decide +kernel
theorem D32_180 : decode method_3_code 180 = .ok (.castore, 1) := by decide +kernel
theorem D32_181 : decode method_3_code 181 = .ok (.dup, 1) := by decide +kernel
theorem D32_182 : decode method_3_code 182 = .ok (.bipush 8, 2) := by decide +kernel
theorem D32_184 : decode method_3_code 184 = .ok (.bipush 32, 2) := by decide +kernel
theorem D32_186 : decode method_3_code 186 = .ok (.castore, 1) := by decide +kernel
theorem D32_187 : decode method_3_code 187 = .ok (.dup, 1) := by decide +kernel
theorem D32_188 : decode method_3_code 188 = .ok (.bipush 9, 2) := by decide +kernel
theorem D32_190 : decode method_3_code 190 = .ok (.bipush 111, 2) := by decide +kernel
theorem D32_192 : decode method_3_code 192 = .ok (.castore, 1) := by decide +kernel
theorem D32_193 : decode method_3_code 193 = .ok (.dup, 1) := by decide +kernel
theorem D32_194 : decode method_3_code 194 = .ok (.bipush 10, 2) := by decide +kernel
theorem D32_196 : decode method_3_code 196 = .ok (.bipush 102, 2) := by decide +kernel
theorem D32_198 : decode method_3_code 198 = .ok (.castore, 1) := by decide +kernel
theorem D32_199 : decode method_3_code 199 = .ok (.dup, 1) := by decide +kernel
theorem D32_200 : decode method_3_code 200 = .ok (.bipush 11, 2) := by decide +kernel
theorem D32_202 : decode method_3_code 202 = .ok (.bipush 32, 2) := by decide +kernel
theorem D32_204 : decode method_3_code 204 = .ok (.castore, 1) := by decide +kernel
theorem D32_205 : decode method_3_code 205 = .ok (.dup, 1) := by decide +kernel
theorem D32_206 : decode method_3_code 206 = .ok (.bipush 12, 2) := by decide +kernel
theorem D32_208 : decode method_3_code 208 = .ok (.bipush 107, 2) := by decide +kernel
theorem D32_210 : decode method_3_code 210 = .ok (.castore, 1) := by decide +kernel
theorem D32_211 : decode method_3_code 211 = .ok (.dup, 1) := by decide +kernel
theorem D32_212 : decode method_3_code 212 = .ok (.bipush 13, 2) := by decide +kernel
theorem D32_214 : decode method_3_code 214 = .ok (.bipush 101, 2) := by decide +kernel
theorem D32_216 : decode method_3_code 216 = .ok (.castore, 1) := by decide +kernel
theorem D32_217 : decode method_3_code 217 = .ok (.dup, 1) := by decide +kernel
theorem D32_218 : decode method_3_code 218 = .ok (.bipush 14, 2) := by decide +kernel
theorem D32_220 : decode method_3_code 220 = .ok (.bipush 121, 2) := by decide +kernel
theorem D32_222 : decode method_3_code 222 = .ok (.castore, 1) := by decide +kernel
theorem D32_223 : decode method_3_code 223 = .ok (.dup, 1) := by decide +kernel
theorem D32_224 : decode method_3_code 224 = .ok (.bipush 15, 2) := by decide +kernel
theorem D32_226 : decode method_3_code 226 = .ok (.bipush 32, 2) := by decide +kernel
theorem D32_228 : decode method_3_code 228 = .ok (.castore, 1) := by decide +kernel
theorem D32_229 : decode method_3_code 229 = .ok (.dup, 1) := by decide +kernel
theorem D32_230 : decode method_3_code 230 = .ok (.bipush 16, 2) := by decide +kernel
theorem D32_232 : decode method_3_code 232 = .ok (.iload_n 2, 1) := by decide +kernel
theorem D32_233 : decode method_3_code 233 = .ok (.castore, 1) := by decide +kernel
theorem D32_234 : decode method_3_code 234 = .ok (.dup, 1) := by decide +kernel
theorem D32_235 : decode method_3_code 235 = .ok (.bipush 17, 2) := by decide +kernel
theorem D32_237 : decode method_3_code 237 = .ok (.iload_n 3, 1) := by decide +kernel
theorem D32_238 : decode method_3_code 238 = .ok (.castore, 1) := by decide +kernel
theorem D32_239 : decode method_3_code 239 = .ok (.invokespecial 16, 3) := by decide +kernel
theorem D32_242 : decode method_3_code 242 = .ok (.areturn, 1) := by decide +kernel
theorem D32_374 : decode method_3_code 374 = .ok (.new 11, 3) := by decide +kernel
theorem D32_377 : decode method_3_code 377 = .ok (.dup, 1) := by decide +kernel
theorem D32_378 : decode method_3_code 378 = .ok (.bipush 20, 2) := by decide +kernel
theorem D32_380 : decode method_3_code 380 = .ok (.newarray .char, 2) := by decide +kernel
theorem D32_382 : decode method_3_code 382 = .ok (.dup, 1) := by decide +kernel
theorem D32_383 : decode method_3_code 383 = .ok (.iconst 0, 1) := by decide +kernel
theorem D32_384 : decode method_3_code 384 = .ok (.bipush 116, 2) := by decide +kernel
theorem D32_386 : decode method_3_code 386 = .ok (.castore, 1) := by decide +kernel
theorem D32_387 : decode method_3_code 387 = .ok (.dup, 1) := by decide +kernel
theorem D32_388 : decode method_3_code 388 = .ok (.iconst 1, 1) := by decide +kernel
theorem D32_389 : decode method_3_code 389 = .ok (.bipush 104, 2) := by decide +kernel
theorem D32_391 : decode method_3_code 391 = .ok (.castore, 1) := by decide +kernel
theorem D32_392 : decode method_3_code 392 = .ok (.dup, 1) := by decide +kernel
theorem D32_393 : decode method_3_code 393 = .ok (.iconst 2, 1) := by decide +kernel
theorem D32_394 : decode method_3_code 394 = .ok (.bipush 101, 2) := by decide +kernel
theorem D32_396 : decode method_3_code 396 = .ok (.castore, 1) := by decide +kernel
theorem D32_397 : decode method_3_code 397 = .ok (.dup, 1) := by decide +kernel
theorem D32_398 : decode method_3_code 398 = .ok (.iconst 3, 1) := by decide +kernel
theorem D32_399 : decode method_3_code 399 = .ok (.bipush 32, 2) := by decide +kernel
theorem D32_401 : decode method_3_code 401 = .ok (.castore, 1) := by decide +kernel
theorem D32_402 : decode method_3_code 402 = .ok (.dup, 1) := by decide +kernel
theorem D32_403 : decode method_3_code 403 = .ok (.iconst 4, 1) := by decide +kernel
theorem D32_404 : decode method_3_code 404 = .ok (.bipush 116, 2) := by decide +kernel
theorem D32_406 : decode method_3_code 406 = .ok (.castore, 1) := by decide +kernel
theorem D32_407 : decode method_3_code 407 = .ok (.dup, 1) := by decide +kernel
theorem D32_408 : decode method_3_code 408 = .ok (.iconst 5, 1) := by decide +kernel
theorem D32_409 : decode method_3_code 409 = .ok (.bipush 111, 2) := by decide +kernel
theorem D32_411 : decode method_3_code 411 = .ok (.castore, 1) := by decide +kernel
theorem D32_412 : decode method_3_code 412 = .ok (.dup, 1) := by decide +kernel
theorem D32_413 : decode method_3_code 413 = .ok (.bipush 6, 2) := by decide +kernel
theorem D32_415 : decode method_3_code 415 = .ok (.bipush 103, 2) := by decide +kernel
theorem D32_417 : decode method_3_code 417 = .ok (.castore, 1) := by decide +kernel
theorem D32_418 : decode method_3_code 418 = .ok (.dup, 1) := by decide +kernel
theorem D32_419 : decode method_3_code 419 = .ok (.bipush 7, 2) := by decide +kernel
theorem D32_421 : decode method_3_code 421 = .ok (.bipush 103, 2) := by decide +kernel
theorem D32_423 : decode method_3_code 423 = .ok (.castore, 1) := by decide +kernel
theorem D32_424 : decode method_3_code 424 = .ok (.dup, 1) := by decide +kernel
theorem D32_425 : decode method_3_code 425 = .ok (.bipush 8, 2) := by decide +kernel
theorem D32_427 : decode method_3_code 427 = .ok (.bipush 108, 2) := by decide +kernel
theorem D32_429 : decode method_3_code 429 = .ok (.castore, 1) := by decide +kernel
theorem D32_430 : decode method_3_code 430 = .ok (.dup, 1) := by decide +kernel
theorem D32_431 : decode method_3_code 431 = .ok (.bipush 9, 2) := by decide +kernel
theorem D32_433 : decode method_3_code 433 = .ok (.bipush 101, 2) := by decide +kernel
theorem D32_435 : decode method_3_code 435 = .ok (.castore, 1) := by decide +kernel
theorem D32_436 : decode method_3_code 436 = .ok (.dup, 1) := by decide +kernel
theorem D32_437 : decode method_3_code 437 = .ok (.bipush 10, 2) := by decide +kernel
theorem D32_439 : decode method_3_code 439 = .ok (.bipush 32, 2) := by decide +kernel
theorem D32_441 : decode method_3_code 441 = .ok (.castore, 1) := by decide +kernel
theorem D32_442 : decode method_3_code 442 = .ok (.dup, 1) := by decide +kernel
theorem D32_443 : decode method_3_code 443 = .ok (.bipush 11, 2) := by decide +kernel
theorem D32_445 : decode method_3_code 445 = .ok (.bipush 111, 2) := by decide +kernel
theorem D32_447 : decode method_3_code 447 = .ok (.castore, 1) := by decide +kernel
theorem D32_448 : decode method_3_code 448 = .ok (.dup, 1) := by decide +kernel
theorem D32_449 : decode method_3_code 449 = .ok (.bipush 12, 2) := by decide +kernel
theorem D32_451 : decode method_3_code 451 = .ok (.bipush 102, 2) := by decide +kernel
theorem D32_453 : decode method_3_code 453 = .ok (.castore, 1) := by decide +kernel
theorem D32_454 : decode method_3_code 454 = .ok (.dup, 1) := by decide +kernel
theorem D32_455 : decode method_3_code 455 = .ok (.bipush 13, 2) := by decide +kernel
theorem D32_457 : decode method_3_code 457 = .ok (.bipush 32, 2) := by decide +kernel
theorem D32_459 : decode method_3_code 459 = .ok (.castore, 1) := by decide +kernel
theorem D32_460 : decode method_3_code 460 = .ok (.dup, 1) := by decide +kernel
theorem D32_461 : decode method_3_code 461 = .ok (.bipush 14, 2) := by decide +kernel
theorem D32_463 : decode method_3_code 463 = .ok (.bipush 107, 2) := by decide +kernel
theorem D32_465 : decode method_3_code 465 = .ok (.castore, 1) := by decide +kernel
theorem D32_466 : decode method_3_code 466 = .ok (.dup, 1) := by decide +kernel
theorem D32_467 : decode method_3_code 467 = .ok (.bipush 15, 2) := by decide +kernel
theorem D32_469 : decode method_3_code 469 = .ok (.bipush 101, 2) := by decide +kernel
theorem D32_471 : decode method_3_code 471 = .ok (.castore, 1) := by decide +kernel
theorem D32_472 : decode method_3_code 472 = .ok (.dup, 1) := by decide +kernel
theorem D32_473 : decode method_3_code 473 = .ok (.bipush 16, 2) := by decide +kernel
theorem D32_475 : decode method_3_code 475 = .ok (.bipush 121, 2) := by decide +kernel
theorem D32_477 : decode method_3_code 477 = .ok (.castore, 1) := by decide +kernel
theorem D32_478 : decode method_3_code 478 = .ok (.dup, 1) := by decide +kernel
theorem D32_479 : decode method_3_code 479 = .ok (.bipush 17, 2) := by decide +kernel
theorem D32_481 : decode method_3_code 481 = .ok (.bipush 32, 2) := by decide +kernel
theorem D32_483 : decode method_3_code 483 = .ok (.castore, 1) := by decide +kernel
theorem D32_484 : decode method_3_code 484 = .ok (.dup, 1) := by decide +kernel
theorem D32_485 : decode method_3_code 485 = .ok (.bipush 18, 2) := by decide +kernel
theorem D32_487 : decode method_3_code 487 = .ok (.iload_n 2, 1) := by decide +kernel
theorem D32_488 : decode method_3_code 488 = .ok (.castore, 1) := by decide +kernel
theorem D32_489 : decode method_3_code 489 = .ok (.dup, 1) := by decide +kernel
theorem D32_490 : decode method_3_code 490 = .ok (.bipush 19, 2) := by decide +kernel
theorem D32_492 : decode method_3_code 492 = .ok (.iload_n 3, 1) := by decide +kernel
theorem D32_493 : decode method_3_code 493 = .ok (.castore, 1) := by decide +kernel
theorem D32_494 : decode method_3_code 494 = .ok (.invokespecial 16, 3) := by decide +kernel
theorem D32_497 : decode method_3_code 497 = .ok (.areturn, 1) := by decide +kernel
theorem own_r3 (x : Int32) : (x &&& 2147483647) % 3 = 0 ∨ (x &&& 2147483647) % 3 = 1 ∨ (x &&& 2147483647) % 3 = 2 := by
  obtain ⟨h1, h2⟩ := own_rem (x := x) (k := 3) (by decide)
  have e : (3 : Int32).toInt = 3 := rfl
  rw [e] at h2
  generalize (x &&& 2147483647) % 3 = k at h1 h2
  have key : ∀ j : Int32, k.toInt = j.toInt → k = j := fun j h => Int32.toInt_inj.mp h
  have hs : k.toInt = 0 ∨ k.toInt = 1 ∨ k.toInt = 2 := by omega
  rcases hs with h | h | h
  · exact (Or.inl (key 0 h))
  · exact (Or.inr (Or.inl (key 1 h)))
  · exact (Or.inr (Or.inr (key 2 h)))
theorem m1_canEncode (V : Env1 Z a0 n0 uu0 uu1 uu2 uu3 uu4) (x0 : Int32) (h0 : Heap) (hO : Old Z n0 h0) (r0 : ¬ x0 < 0 ∧ ¬ 255 < x0) :
    Met Z a0 ELs True n0 l ⟨"java/lang/StringLatin1", "canEncode", "(C)Z"⟩ jdk_43_method_3_code 1 (some .boolean) ⟨0, 0, 0, 0⟩ #[.int x0] h0 [] (fun v h so => (v = some (.int 1) ∧ so = [] ∧ h0 = h)) := by
  refine Met.of (EWl V) (by first | decide +kernel | rfl) hO (L0 := #[.val (.int x0)]) rfl ?_
  intro p e s m below meth c T H
  show Go p e below _ (T.setTop (mkF m 0 _ []))
  refine G.iloadN H D12_0 (J := 1) rfl rfl ?_
  refine G.sipush H D12_1 (J := 4) rfl (v := 255) rfl ?_
  refine G.icmpNo H D12_4 (J := 7) rfl (XT.ii_gt_f r0.2) ?_
  refine G.iconst H D12_7 (J := 8) rfl (v := 1) rfl ?_
  refine G.goto H D12_8 (by decide) (J := 12) rfl ?_
  exact G.retN H (t := .boolean) rfl (by decide) D12_12 (so := []) all0 (by decide) (by decide) ⟨rfl, rfl, rfl⟩
theorem m2_toBytes (V : Env1 Z a0 n0 uu0 uu1 uu2 uu3 uu4) (x0 : Int32) (h0 : Heap) (hO : Old Z n0 h0)  :
    Met Z a0 ELs True n0 l ⟨"java/lang/StringLatin1", "toBytes", "(C)[B"⟩ jdk_43_method_46_code 1 (some (.array .byte)) ⟨0, 1, 1, 0⟩ #[.int x0] h0 [] (fun v h so => (∃ a2 : Addr, ∃ k5 : ClassId, v = some (.ref a2) ∧ so = [a2] ∧ Keep h0 h [] ∧ h0.size ≤ a2 ∧ Arv Z h a2 k5 .byte 1 [(.int (x0.toInt8.toInt32))] (.int 0) ∧ Exa Z h a2 "[B")) := by
  refine Met.of (EWl V) (by first | decide +kernel | rfl) hO (L0 := #[.val (.int x0)]) rfl ?_
  intro p e s m below meth c T H
  show Go p e below _ (T.setTop (mkF m 0 _ []))
  refine G.iconst H D13_0 (J := 1) rfl (v := 1) rfl ?_
  refine G.newP H (aty := .byte) (wd4 V) D13_1 (J := 3) rfl (by decide) (cap := 1) (by decide) (by decide) (by decide) (by decide) (vs := [.int 0]) rfl (ad := "[B") rfl ?_
  intro T1 h1_ a2 k5 ga2 H1 E3 A4 X6
  have na2 := H.nle ga2
  replace A4 : Arv Z h1_ a2 k5 .byte 1 [.int 0] (.int 0) := A4
  refine G.dup H1 D13_3 (J := 4) rfl rfl ?_
  refine G.iconst H1 D13_4 (J := 5) rfl (v := 0) rfl ?_
  refine G.iloadN H1 D13_5 (J := 6) rfl rfl ?_
  refine G.i2b H1 D13_6 (J := 7) rfl ?_
  refine G.stB H1 A4 (by decide) (i := 0) rfl lB na2 (Sf.mem (mG (i := 0) rfl)) (y := (x0.toInt8.toInt32)) (own_narB _) D13_7 (J := 8) rfl ?_
  intro T7 h7_ H7 W8 A9
  replace A9 : Arv Z h7_ a2 k5 .byte 1 [(.int (x0.toInt8.toInt32))] (.int 0) := A9
  have F10 := (Exa.wr W8 X6)
  have K11 : Keep h0 h7_ [] := (Keep.wr (Keep.ext (Keep.refl h0 []) E3) W8 (Or.inr (Nat.le_of_eq ga2.symm)))
  exact G.retA H7 (t := (.array .byte)) rfl rfl rfl D13_8 (so := [a2]) (allS (mG (i := 0) rfl) all0) (by decide) (by decide) ⟨a2, k5, rfl, rfl, K11, (Nat.le_of_eq ga2.symm), A9, F10⟩
theorem m3_init (V : Env1 Z a0 n0 uu0 uu1 uu2 uu3 uu4) (p0 : Addr) (p1 : Addr) (h0 : Heap) (hO : Old Z n0 h0) (f0 : Exa Z h0 p0 "java/lang/String") (f1 : Fld Z h0 p0 "java/lang/String" "value" "[B" .null) (g2 : n0 ≤ p0) (f3 : Fld Z h0 p0 "java/lang/String" "coder" "B" (.int 0)) :
    Met Z a0 ELs True n0 l ⟨"java/lang/String", "<init>", "([BB)V"⟩ jdk_42_method_151_code 3 none ⟨1, 0, 0, 12⟩ #[.ref p0, .ref p1, .int 0] h0 [p0] (fun v h so => (v = none ∧ so = [] ∧ Keep h0 h [p0] ∧ (∀ (O n d : String) (w : Value), Fld Z h0 p0 O n d w → RoadKit.slotOf Z O n d ≠ RoadKit.slotOf Z "java/lang/String" "value" "[B" → RoadKit.slotOf Z O n d ≠ RoadKit.slotOf Z "java/lang/String" "coder" "B" → Fld Z h p0 O n d w) ∧ Exa Z h p0 "java/lang/String" ∧ Fld Z h p0 "java/lang/String" "value" "[B" (.ref p1) ∧ Fld Z h p0 "java/lang/String" "coder" "B" (.int 0))) := by
  refine Met.of (EWl V) (by first | decide +kernel | rfl) hO (L0 := #[.val (.ref p0), .val (.ref p1), .val (.int 0)]) rfl ?_
  intro p e s m below meth c T H
  show Go p e below _ (T.setTop (mkF m 0 _ []))
  refine G.aloadN H D8_0 (J := 1) rfl rfl rfl ?_
  refine G.initO H (wd25 V) (wd26 V) (wd27 V) rfl D8_1 (J := 4) rfl (by decide) (W := 0) rfl (by decide) ?_
  intro T1 H2
  refine G.aloadN H2 D8_4 (J := 5) rfl rfl rfl ?_
  refine G.aloadN H2 D8_5 (J := 6) rfl rfl rfl ?_
  refine G.putF H2 (wd28 V) Via.refl f1 f0 (Or.inr ⟨(wd5 V), rfl, rfl⟩) (wd3 V) (ty := (.array .byte)) (by decide) rfl rfl g2 (Sf.mem (mG (i := 0) rfl)) D8_6 (J := 9) rfl ?_
  intro T3 h3_ H3 W4
  have F5 : Fld Z h3_ p0 "java/lang/String" "value" "[B" (.ref p1) := Fld.same W4 f1
  refine G.aloadN H3 D8_9 (J := 10) rfl rfl rfl ?_
  refine G.iloadN H3 D8_10 (J := 11) rfl rfl ?_
  have F6 := (Exa.wr W4 f0)
  have F7 := (Fld.other W4 f3 (Or.inr (slot_ne (Or.inr (wd6 V)) (Or.inr (wd5 V)) (by decide) (t := .byte) (t' := (.array .byte)) (by decide) (by decide))))
  refine G.putF H3 (wd29 V) Via.refl F7 F6 (Or.inr ⟨(wd6 V), rfl, rfl⟩) (wd3 V) (ty := .byte) (by decide) rfl rfl g2 (Sf.mem (mG (i := 0) rfl)) D8_11 (J := 14) rfl ?_
  intro T8 h8_ H8 W9
  have F10 : Fld Z h8_ p0 "java/lang/String" "coder" "B" (.int 0) := Fld.same W9 F7
  have F11 := (Exa.wr W9 F6)
  have F12 := (Fld.other W9 F5 (Or.inr (slot_ne (Or.inr (wd5 V)) (Or.inr (wd6 V)) (by decide) (t := (.array .byte)) (t' := .byte) (by decide) (by decide))))
  have K13 : Keep h0 h8_ [p0] := (Keep.wr (Keep.wr (Keep.refl h0 [p0]) W4 (Or.inl (mG (i := 0) rfl))) W9 (Or.inl (mG (i := 0) rfl)))
  exact G.retV H8 rfl D8_14 (so := []) all0 (by decide) (by decide) ⟨rfl, rfl, K13, (fun O n d w F hn0 hn1 => (Fld.other W9 (Fld.other W4 F (Or.inr hn0)) (Or.inr hn1))), F11, F12, F10⟩
theorem m4_valueOf (V : Env1 Z a0 n0 uu0 uu1 uu2 uu3 uu4) (x0 : Int32) (h0 : Heap) (hO : Old Z n0 h0) (r0 : ¬ x0 < 0 ∧ ¬ 255 < x0) :
    Met Z a0 ELs True n0 l ⟨"java/lang/String", "valueOf", "(C)Ljava/lang/String;"⟩ jdk_42_method_139_code 1 (some (.object "java/lang/String")) ⟨2, 2, 5, 27⟩ #[.int x0] h0 [] (fun v h so => (∃ a8 a16 : Addr, ∃ k17 : ClassId, v = some (.ref a8) ∧ so = [a8, a16] ∧ Keep h0 h [] ∧ h0.size ≤ a8 ∧ a8 < a16 ∧ Str Z h a8 a16 k17 [x0] ∧ Fld Z h a8 "java/lang/String" "value" "[B" (.ref a16) ∧ Fld Z h a8 "java/lang/String" "coder" "B" (.int 0))) := by
  refine Met.of (EWl V) (by first | decide +kernel | rfl) hO (L0 := #[.val (.int x0)]) rfl ?_
  intro p e s m below meth c T H
  show Go p e below _ (T.setTop (mkF m 0 _ []))
  refine G.getS H (wd12 V) Via.refl (Sta.ext H.old.2 (hv9 V)) D5_0 (J := 3) rfl ?_
  intro T1 H2
  refine G.ifNo H2 D5_3 (J := 6) rfl (XT.i0_eq_f (hv10 V)) ?_
  refine G.iloadN H2 D5_6 (J := 7) rfl rfl ?_
  refine G.callS H2 (m1_canEncode V x0 h0 H2.old r0) (wd13 V) (wd14 V) (wd15 V) (wd16 V) (by decide) (argsL := [.int x0]) (rest := []) (W := 0) rfl rfl (lenOf (pd_0) rfl) rfl rfl D5_7 (J := 10) rfl (by decide) (by decide) (by decide) (by decide) all0 ?_
  intro T3 h3_ v4 s5 H3 Q6
  obtain ⟨rfl, rfl, rfl⟩ := Q6
  show Go p e below _ (T3.setTop (mkF m 10 _ [.int 1]))
  refine G.ifNo H3 D5_10 (J := 13) rfl (by decide) ?_
  refine G.new H3 (wd17 V) (wd3 V) (wd2 V) D5_13 (J := 16) rfl (by decide) (by decide) ?_
  intro T7 h7_ a8 ga8 H7 E9 A10 D11
  have na8 := H3.nle ga8
  refine G.dup H7 D5_16 (J := 17) rfl rfl ?_
  refine G.iloadN H7 D5_17 (J := 18) rfl rfl ?_
  refine G.callS H7 (m2_toBytes V x0 h7_ H7.old) (wd18 V) (wd19 V) (wd15 V) (wd20 V) (by decide) (argsL := [.int x0]) (rest := [.ref a8, .ref a8]) (W := 2) rfl rfl (lenOf (pd_1) rfl) rfl rfl D5_18 (J := 21) rfl (by decide) (by decide) (by decide) (by decide) all0 ?_
  intro T12 h12_ v13 s14 H12 Q15
  obtain ⟨a16, k17, rfl, rfl, K18, g19, F20, F21⟩ := Q15
  have na16 : n0 ≤ a16 := Nat.le_trans H7.le g19
  show Go p e below _ (T12.setTop (mkF m 21 _ [.ref a16, .ref a8, .ref a8]))
  refine G.iconst H12 D5_21 (J := 22) rfl (v := 0) rfl ?_
  have F22 := (Exa.keep A10 K18)
  have F23 : Fld Z h7_ a8 "java/lang/String" "value" "[B" .null := D11 (Or.inr (wd5 V)) (ty := (.array .byte)) (by decide)
  have F24 := (Fld.keep F23 K18 nin0)
  have F25 : Fld Z h7_ a8 "java/lang/String" "coder" "B" (.int 0) := D11 (Or.inr (wd6 V)) (ty := .byte) (by decide)
  have F26 := (Fld.keep F25 K18 nin0)
  refine G.callI H12 (m3_init V a8 a16 h12_ H12.old F22 F24 na8 F26) rfl (wd21 V) (wd22 V) (wd2 V) (wd24 V) (by decide) (a := a8) (argsL := [.ref a16, .int 0]) (rest := [.ref a8]) (W := 1) rfl rfl (lenOf (pd_2) rfl) rfl rfl D5_22 (J := 25) rfl (by decide) (by decide) (by decide) (by decide) (allS (mG (i := 1) rfl) all0) ?_
  intro T27 h27_ v28 s29 H27 Q30
  obtain ⟨rfl, rfl, K31, U32, F33, F34, F35⟩ := Q30
  show Go p e below _ (T27.setTop (mkF m 25 _ [.ref a8]))
  have N36 : a16 ≠ a8 := Ne.symm (Exa.neArv (Exa.keep A10 K18) F20 (wd3 V))
  have F37 := (Arv.keep F20 K31 (ninS N36 nin0))
  have S38 : Str Z h27_ a8 a16 k17 [x0] := ⟨F33, F35, F34, F37, (cbS r0 cb0), Nat.le_of_ble_eq_true rfl⟩
  have K39 : Keep h0 h27_ [] := (Keep.trans (Keep.trans (Keep.ext (Keep.refl h0 []) E9) K18 all0) K31 (allS (Or.inr (Nat.le_of_eq ga8.symm)) all0))
  exact G.retA H27 (t := (.object "java/lang/String")) rfl rfl rfl D5_25 (so := [a8, a16]) (allS (mG (i := 1) rfl) (allS (mG (i := 0) rfl) all0)) (by decide) (by decide) ⟨a8, a16, k17, rfl, rfl, K39, (Nat.le_of_eq ga8.symm), (Nat.lt_of_lt_of_le A10.lt g19), S38, F34, F35⟩
theorem m5_init (V : Env1 Z a0 n0 uu0 uu1 uu2 uu3 uu4) (p0 : Addr) (h0 : Heap) (hO : Old Z n0 h0)  :
    Met Z a0 ELs True n0 l ⟨"java/lang/Record", "<init>", "()V"⟩ jdk_30_method_1_code 1 none ⟨1, 0, 0, 12⟩ #[.ref p0] h0 [] (fun v h so => (v = none ∧ so = [] ∧ h0 = h)) := by
  refine Met.of (EWl V) (by first | decide +kernel | rfl) hO (L0 := #[.val (.ref p0)]) rfl ?_
  intro p e s m below meth c T H
  show Go p e below _ (T.setTop (mkF m 0 _ []))
  refine G.aloadN H D2_0 (J := 1) rfl rfl rfl ?_
  refine G.initO H (wd44 V) (wd26 V) (wd27 V) rfl D2_1 (J := 4) rfl (by decide) (W := 0) rfl (by decide) ?_
  intro T1 H2
  exact G.retV H2 rfl D2_4 (so := []) all0 (by decide) (by decide) ⟨rfl, rfl, rfl⟩
theorem m6_requireNonNull (V : Env1 Z a0 n0 uu0 uu1 uu2 uu3 uu4) (p0 : Addr) (h0 : Heap) (hO : Old Z n0 h0)  :
    Met Z a0 ELs True n0 l ⟨"java/util/Objects", "requireNonNull", "(Ljava/lang/Object;Ljava/lang/String;)Ljava/lang/Object;"⟩ jdk_31_method_11_code 2 (some (.object "java/lang/Object")) ⟨0, 0, 0, 0⟩ #[.ref uu1, .ref p0] h0 [] (fun v h so => (v = some (.ref uu1) ∧ so = [] ∧ h0 = h)) := by
  refine Met.of (EWl V) (by first | decide +kernel | rfl) hO (L0 := #[.val (.ref uu1), .val (.ref p0)]) rfl ?_
  intro p e s m below meth c T H
  show Go p e below _ (T.setTop (mkF m 0 _ []))
  refine G.aloadN H D3_0 (J := 1) rfl rfl rfl ?_
  refine G.ifnonnullYes H D3_1 (by decide) (J := 13) rfl ?_
  refine G.aloadN H D3_13 (J := 14) rfl rfl rfl ?_
  exact G.retA H (t := (.object "java/lang/Object")) rfl rfl rfl D3_14 (so := []) all0 (by decide) (by decide) ⟨rfl, rfl, rfl⟩
theorem m7_requireNonNull (V : Env1 Z a0 n0 uu0 uu1 uu2 uu3 uu4) (p0 : Addr) (p1 : Addr) (h0 : Heap) (hO : Old Z n0 h0)  :
    Met Z a0 ELs True n0 l ⟨"java/util/Objects", "requireNonNull", "(Ljava/lang/Object;Ljava/lang/String;)Ljava/lang/Object;"⟩ jdk_31_method_11_code 2 (some (.object "java/lang/Object")) ⟨0, 0, 0, 0⟩ #[.ref p0, .ref p1] h0 [] (fun v h so => (v = some (.ref p0) ∧ so = [] ∧ h0 = h)) := by
  refine Met.of (EWl V) (by first | decide +kernel | rfl) hO (L0 := #[.val (.ref p0), .val (.ref p1)]) rfl ?_
  intro p e s m below meth c T H
  show Go p e below _ (T.setTop (mkF m 0 _ []))
  refine G.aloadN H D3_0 (J := 1) rfl rfl rfl ?_
  refine G.ifnonnullYes H D3_1 (by decide) (J := 13) rfl ?_
  refine G.aloadN H D3_13 (J := 14) rfl rfl rfl ?_
  exact G.retA H (t := (.object "java/lang/Object")) rfl rfl rfl D3_14 (so := []) all0 (by decide) (by decide) ⟨rfl, rfl, rfl⟩
theorem m8_init (V : Env1 Z a0 n0 uu0 uu1 uu2 uu3 uu4) (p0 : Addr) (p1 : Addr) (p2 : Addr) (h0 : Heap) (hO : Old Z n0 h0) (f0 : Exa Z h0 p0 "com/example/formboard/formboard/core/Board$Live") (f1 : Fld Z h0 p0 "com/example/formboard/formboard/core/Board$Live" "part" "Lcom/example/formboard/formboard/core/Board$Part;" .null) (g2 : n0 ≤ p0) (f3 : Fld Z h0 p0 "com/example/formboard/formboard/core/Board$Live" "key" "Ljava/lang/String;" .null) (f4 : Fld Z h0 p0 "com/example/formboard/formboard/core/Board$Live" "form" "Ljava/lang/String;" .null) :
    Met Z a0 ELs True n0 l ⟨"com/example/formboard/formboard/core/Board$Live", "<init>", "(Lcom/example/formboard/formboard/core/Board$Part;Ljava/lang/String;Ljava/lang/String;)V"⟩ prog_16_method_1_code 4 none ⟨2, 4, 40, 24⟩ #[.ref p0, .ref uu1, .ref p1, .ref p2] h0 [] (fun v h so => (v = none ∧ so = [] ∧ Keep h0 h [p0] ∧ (∀ (O n d : String) (w : Value), Fld Z h0 p0 O n d w → RoadKit.slotOf Z O n d ≠ RoadKit.slotOf Z "com/example/formboard/formboard/core/Board$Live" "part" "Lcom/example/formboard/formboard/core/Board$Part;" → RoadKit.slotOf Z O n d ≠ RoadKit.slotOf Z "com/example/formboard/formboard/core/Board$Live" "key" "Ljava/lang/String;" → RoadKit.slotOf Z O n d ≠ RoadKit.slotOf Z "com/example/formboard/formboard/core/Board$Live" "form" "Ljava/lang/String;" → Fld Z h p0 O n d w) ∧ Exa Z h p0 "com/example/formboard/formboard/core/Board$Live" ∧ Fld Z h p0 "com/example/formboard/formboard/core/Board$Live" "part" "Lcom/example/formboard/formboard/core/Board$Part;" (.ref uu1) ∧ Fld Z h p0 "com/example/formboard/formboard/core/Board$Live" "key" "Ljava/lang/String;" (.ref p1) ∧ Fld Z h p0 "com/example/formboard/formboard/core/Board$Live" "form" "Ljava/lang/String;" (.ref p2))) := by
  refine Met.of (EWl V) (by first | decide +kernel | rfl) hO (L0 := #[.val (.ref p0), .val (.ref uu1), .val (.ref p1), .val (.ref p2)]) rfl ?_
  intro p e s m below meth c T H
  show Go p e below _ (T.setTop (mkF m 0 _ []))
  refine G.aloadN H D33_0 (J := 1) rfl rfl rfl ?_
  refine G.callI H (m5_init V p0 h0 H.old) rfl (wd39 V) (wd40 V) (wd42 V) (wd43 V) (by decide) (a := p0) (argsL := []) (rest := []) (W := 0) rfl rfl (lenOf (pd_4) rfl) rfl rfl D33_1 (J := 4) rfl (by decide) (by decide) (by decide) (by decide) all0 ?_
  intro T1 h1_ v2 s3 H1 Q4
  obtain ⟨rfl, rfl, rfl⟩ := Q4
  show Go p e below _ (T1.setTop (mkF m 4 _ []))
  refine G.aloadN H1 D33_4 (J := 5) rfl rfl rfl ?_
  refine G.ldcS H1 trivial (wS V) (wd45 V) (by decide) (vs := [.int 112, .int 97, .int 114, .int 116]) (z := 4) (by decide) (by decide) rfl (n := 16) (by decide) (by decide) (by decide) (by decide) D33_5 (J := 7) rfl ?_
  intro T5 h5_ a6 b8 k9 H5 E7 X10 F11 F12 A13 Q14
  have S15 : Str Z h5_ a6 b8 k9 [112, 97, 114, 116] := ⟨X10, F11, F12, A13, by decide, by decide⟩
  refine G.callS H5 (m6_requireNonNull V a6 h5_ H5.old) (wd46 V) (wd47 V) (wd48 V) (wd49 V) (by decide) (argsL := [.ref uu1, .ref a6]) (rest := []) (W := 0) rfl rfl (lenOf (pd_5) rfl) rfl rfl D33_7 (J := 10) rfl (by decide) (by decide) (by decide) (by decide) all0 ?_
  intro T16 h16_ v17 s18 H16 Q19
  obtain ⟨rfl, rfl, rfl⟩ := Q19
  show Go p e below _ (T16.setTop (mkF m 10 _ [.ref uu1]))
  refine G.pop H16 D33_10 (J := 11) rfl rfl ?_
  refine G.aloadN H16 D33_11 (J := 12) rfl rfl rfl ?_
  refine G.ldcS H16 trivial (wS V) (wd50 V) (by decide) (vs := [.int 102, .int 111, .int 114, .int 109]) (z := 4) (by decide) (by decide) rfl (n := 16) (by decide) (by decide) (by decide) (by decide) D33_12 (J := 14) rfl ?_
  intro T20 h20_ a21 b23 k24 H20 E22 X25 F26 F27 A28 Q29
  have S30 : Str Z h20_ a21 b23 k24 [102, 111, 114, 109] := ⟨X25, F26, F27, A28, by decide, by decide⟩
  refine G.callS H20 (m7_requireNonNull V p2 a21 h20_ H20.old) (wd46 V) (wd47 V) (wd48 V) (wd49 V) (by decide) (argsL := [.ref p2, .ref a21]) (rest := []) (W := 0) rfl rfl (lenOf (pd_5) rfl) rfl rfl D33_14 (J := 17) rfl (by decide) (by decide) (by decide) (by decide) all0 ?_
  intro T31 h31_ v32 s33 H31 Q34
  obtain ⟨rfl, rfl, rfl⟩ := Q34
  show Go p e below _ (T31.setTop (mkF m 17 _ [.ref p2]))
  refine G.pop H31 D33_17 (J := 18) rfl rfl ?_
  refine G.aloadN H31 D33_18 (J := 19) rfl rfl rfl ?_
  refine G.aloadN H31 D33_19 (J := 20) rfl rfl rfl ?_
  have K35 : Keep h0 h20_ [] := (Keep.ext (Keep.ext (Keep.refl h0 []) E7) E22)
  have F36 := (Exa.keep f0 K35)
  have F37 := (Fld.keep f1 K35 nin0)
  refine G.putF H31 (wd51 V) Via.refl F37 F36 (Or.inr ⟨(wd52 V), rfl, rfl⟩) (wd34 V) (ty := (.object "com/example/formboard/formboard/core/Board$Part")) (by decide) rfl rfl g2 (Sf.exa F36) D33_20 (J := 23) rfl ?_
  intro T38 h38_ H38 W39
  have F40 : Fld Z h38_ p0 "com/example/formboard/formboard/core/Board$Live" "part" "Lcom/example/formboard/formboard/core/Board$Part;" (.ref uu1) := Fld.same W39 F37
  refine G.aloadN H38 D33_23 (J := 24) rfl rfl rfl ?_
  refine G.aloadN H38 D33_24 (J := 25) rfl rfl rfl ?_
  have F41 := (Exa.wr W39 F36)
  have F42 := (Fld.other W39 (Fld.keep f3 K35 nin0) (Or.inr (slot_ne (Or.inr (wd54 V)) (Or.inr (wd52 V)) (by decide) (t := (.object "java/lang/String")) (t' := (.object "com/example/formboard/formboard/core/Board$Part")) (by decide) (by decide))))
  refine G.putF H38 (wd53 V) Via.refl F42 F41 (Or.inr ⟨(wd54 V), rfl, rfl⟩) (wd34 V) (ty := (.object "java/lang/String")) (by decide) rfl rfl g2 (Sf.exa F41) D33_25 (J := 28) rfl ?_
  intro T43 h43_ H43 W44
  have F45 : Fld Z h43_ p0 "com/example/formboard/formboard/core/Board$Live" "key" "Ljava/lang/String;" (.ref p1) := Fld.same W44 F42
  refine G.aloadN H43 D33_28 (J := 29) rfl rfl rfl ?_
  refine G.aloadN H43 D33_29 (J := 30) rfl rfl rfl ?_
  have F46 := (Exa.wr W44 F41)
  have F47 := (Fld.other W44 (Fld.other W39 (Fld.keep f4 K35 nin0) (Or.inr (slot_ne (Or.inr (wd56 V)) (Or.inr (wd52 V)) (by decide) (t := (.object "java/lang/String")) (t' := (.object "com/example/formboard/formboard/core/Board$Part")) (by decide) (by decide)))) (Or.inr (slot_ne (Or.inr (wd56 V)) (Or.inr (wd54 V)) (by decide) (t := (.object "java/lang/String")) (t' := (.object "java/lang/String")) (by decide) (by decide))))
  refine G.putF H43 (wd55 V) Via.refl F47 F46 (Or.inr ⟨(wd56 V), rfl, rfl⟩) (wd34 V) (ty := (.object "java/lang/String")) (by decide) rfl rfl g2 (Sf.exa F46) D33_30 (J := 33) rfl ?_
  intro T48 h48_ H48 W49
  have F50 : Fld Z h48_ p0 "com/example/formboard/formboard/core/Board$Live" "form" "Ljava/lang/String;" (.ref p2) := Fld.same W49 F47
  have F51 := (Exa.wr W49 F46)
  have F52 := (Fld.other W49 (Fld.other W44 F40 (Or.inr (slot_ne (Or.inr (wd52 V)) (Or.inr (wd54 V)) (by decide) (t := (.object "com/example/formboard/formboard/core/Board$Part")) (t' := (.object "java/lang/String")) (by decide) (by decide)))) (Or.inr (slot_ne (Or.inr (wd52 V)) (Or.inr (wd56 V)) (by decide) (t := (.object "com/example/formboard/formboard/core/Board$Part")) (t' := (.object "java/lang/String")) (by decide) (by decide))))
  have F53 := (Fld.other W49 F45 (Or.inr (slot_ne (Or.inr (wd54 V)) (Or.inr (wd56 V)) (by decide) (t := (.object "java/lang/String")) (t' := (.object "java/lang/String")) (by decide) (by decide))))
  have K54 : Keep h0 h48_ [p0] := (Keep.wr (Keep.wr (Keep.wr (Keep.ext (Keep.ext (Keep.refl h0 [p0]) E7) E22) W39 (Or.inl (mG (i := 0) rfl))) W44 (Or.inl (mG (i := 0) rfl))) W49 (Or.inl (mG (i := 0) rfl)))
  exact G.retV H48 rfl D33_33 (so := []) all0 (by decide) (by decide) ⟨rfl, rfl, K54, (fun O n d w F hn0 hn1 hn2 => (Fld.other W49 (Fld.other W44 (Fld.other W39 (Fld.ext E22 (Fld.ext E7 F)) (Or.inr hn0)) (Or.inr hn1)) (Or.inr hn2))), F51, F52, F53, F50⟩
theorem m9_ordinal (V : Env1 Z a0 n0 uu0 uu1 uu2 uu3 uu4)  (h0 : Heap) (hO : Old Z n0 h0)  :
    Met Z a0 ELs True n0 l ⟨"java/lang/Enum", "ordinal", "()I"⟩ jdk_37_method_2_code 1 (some .int) ⟨0, 0, 0, 0⟩ #[.ref uu1] h0 [] (fun v h so => (v = some (.int 0) ∧ so = [] ∧ h0 = h)) := by
  refine Met.of (EWl V) (by first | decide +kernel | rfl) hO (L0 := #[.val (.ref uu1)]) rfl ?_
  intro p e s m below meth c T H
  show Go p e below _ (T.setTop (mkF m 0 _ []))
  refine G.aloadN H D4_0 (J := 1) rfl rfl rfl ?_
  have B1 := Fld.ext H.old.2 (hv6 V)
  refine G.getF H (wd69 V) Via.refl B1 D4_1 (J := 4) rfl ?_
  intro T2 H3
  exact G.retI H3 rfl D4_4 (so := []) all0 (by decide) (by decide) ⟨rfl, rfl, rfl⟩
theorem m10_description (V : Env1 Z a0 n0 uu0 uu1 uu2 uu3 uu4) (p0 : Addr) (h0 : Heap) (hO : Old Z n0 h0) (f0 : Fld Z h0 p0 "com/example/formboard/formboard/core/Board$Live" "part" "Lcom/example/formboard/formboard/core/Board$Part;" (.ref uu1)) :
    Met Z a0 ELs True n0 l ⟨"com/example/formboard/formboard/core/Board$Live", "description", "()Ljava/lang/String;"⟩ prog_16_method_2_code 1 (some (.object "java/lang/String")) ⟨1, 2, 40, 12⟩ #[.ref p0] h0 [] (fun v h so => (∃ a9 b11 : Addr, ∃ k12 : ClassId, v = some (.ref a9) ∧ so = [] ∧ Keep h0 h [] ∧ Str Z h a9 b11 k12 [116, 104, 101, 32, 116, 105, 116, 108, 101])) := by
  refine Met.of (EWl V) (by first | decide +kernel | rfl) hO (L0 := #[.val (.ref p0)]) rfl ?_
  intro p e s m below meth c T H
  show Go p e below _ (T.setTop (mkF m 0 _ []))
  refine G.aloadN H D34_0 (J := 1) rfl rfl rfl ?_
  refine G.getF H (wd51 V) Via.refl f0 D34_1 (J := 4) rfl ?_
  intro T1 H2
  have B3 := Exa.ext H2.old.2 (hv3 V)
  refine G.callVU H2 (y := ⟨"com/example/formboard/formboard/core/Board$Part", "ordinal", "()I"⟩) (m9_ordinal V h0 H2.old) (wd62 V) (wd63 V) (wd64 V) (by decide) (wd66 V) (wd65 V) (wd67 V) (wd68 V) B3 (argsL := []) (rest := []) (W := 0) rfl rfl (lenOf (pd_7) rfl) rfl rfl D34_4 (J := 7) rfl (by decide) (by decide) (by decide) (by decide) all0 ?_
  intro T4 h4_ v5 s6 H4 Q7
  obtain ⟨rfl, rfl, rfl⟩ := Q7
  show Go p e below _ (T4.setTop (mkF m 7 _ [.int 0]))
  refine G.tswIn H4 D34_7 (by decide) (o := 35) rfl (by decide) (J := 42) rfl ?_
  refine G.ldcS H4 trivial (wS V) (wd71 V) (by decide) (vs := [.int 116, .int 104, .int 101, .int 32, .int 116, .int 105, .int 116, .int 108, .int 101]) (z := 9) (by decide) (by decide) rfl (n := 36) (by decide) (by decide) (by decide) (by decide) D34_42 (J := 44) rfl ?_
  intro T8 h8_ a9 b11 k12 H8 E10 X13 F14 F15 A16 Q17
  have S18 : Str Z h8_ a9 b11 k12 [116, 104, 101, 32, 116, 105, 116, 108, 101] := ⟨X13, F14, F15, A16, by decide, by decide⟩
  refine G.goto H8 D34_44 (by decide) (J := 94) rfl ?_
  have K19 : Keep h0 h8_ [] := (Keep.ext (Keep.refl h0 []) E10)
  exact G.retA H8 (t := (.object "java/lang/String")) rfl rfl rfl D34_94 (so := []) all0 (by decide) (by decide) ⟨a9, b11, k12, rfl, rfl, K19, S18⟩
theorem m11_expected (V : Env1 Z a0 n0 uu0 uu1 uu2 uu3 uu4) (x0 : Int32) (x1 : Int32) (h0 : Heap) (hO : Old Z n0 h0)  :
    Met Z a0 ELs True n0 l ⟨"com/example/formboard/formboard/core/LiveDescriptionPinLaw", "expected", "(IICC)Ljava/lang/String;"⟩ method_3_code 4 (some (.object "java/lang/String")) ⟨0, 2, 40, 0⟩ #[.int 0, .int 0, .int x0, .int x1] h0 [] (fun v h so => (∃ a2 b4 : Addr, ∃ k5 : ClassId, v = some (.ref a2) ∧ so = [] ∧ Keep h0 h [] ∧ Str Z h a2 b4 k5 [116, 104, 101, 32, 116, 105, 116, 108, 101])) := by
  refine Met.of (EWl V) (by first | decide +kernel | rfl) hO (L0 := #[.val (.int 0), .val (.int 0), .val (.int x0), .val (.int x1)]) rfl ?_
  intro p e s m below meth c T H
  show Go p e below _ (T.setTop (mkF m 0 _ []))
  refine G.iloadN H D32_0 (J := 1) rfl rfl ?_
  refine G.ifNo H D32_1 (J := 4) rfl (by decide) ?_
  refine G.ldcS H trivial (wS V) (wd76 V) (by decide) (vs := [.int 116, .int 104, .int 101, .int 32, .int 116, .int 105, .int 116, .int 108, .int 101]) (z := 9) (by decide) (by decide) rfl (n := 36) (by decide) (by decide) (by decide) (by decide) D32_4 (J := 6) rfl ?_
  intro T1 h1_ a2 b4 k5 H1 E3 X6 F7 F8 A9 Q10
  have S11 : Str Z h1_ a2 b4 k5 [116, 104, 101, 32, 116, 105, 116, 108, 101] := ⟨X6, F7, F8, A9, by decide, by decide⟩
  have K12 : Keep h0 h1_ [] := (Keep.ext (Keep.refl h0 []) E3)
  exact G.retA H1 (t := (.object "java/lang/String")) rfl rfl rfl D32_6 (so := []) all0 (by decide) (by decide) ⟨a2, b4, k5, rfl, rfl, K12, S11⟩
theorem m12_init (V : Env1 Z a0 n0 uu0 uu1 uu2 uu3 uu4) (p0 : Addr) (p1 : Addr) (h0 : Heap) (hO : Old Z n0 h0) (f0 : Exa Z h0 p0 "com/example/formboard/formboard/core/Board$Live") (f1 : Fld Z h0 p0 "com/example/formboard/formboard/core/Board$Live" "part" "Lcom/example/formboard/formboard/core/Board$Part;" .null) (g2 : n0 ≤ p0) (f3 : Fld Z h0 p0 "com/example/formboard/formboard/core/Board$Live" "key" "Ljava/lang/String;" .null) (f4 : Fld Z h0 p0 "com/example/formboard/formboard/core/Board$Live" "form" "Ljava/lang/String;" .null) :
    Met Z a0 ELs True n0 l ⟨"com/example/formboard/formboard/core/Board$Live", "<init>", "(Lcom/example/formboard/formboard/core/Board$Part;Ljava/lang/String;Ljava/lang/String;)V"⟩ prog_16_method_1_code 4 none ⟨2, 4, 40, 24⟩ #[.ref p0, .ref uu1, .null, .ref p1] h0 [] (fun v h so => (v = none ∧ so = [] ∧ Keep h0 h [p0] ∧ (∀ (O n d : String) (w : Value), Fld Z h0 p0 O n d w → RoadKit.slotOf Z O n d ≠ RoadKit.slotOf Z "com/example/formboard/formboard/core/Board$Live" "part" "Lcom/example/formboard/formboard/core/Board$Part;" → RoadKit.slotOf Z O n d ≠ RoadKit.slotOf Z "com/example/formboard/formboard/core/Board$Live" "key" "Ljava/lang/String;" → RoadKit.slotOf Z O n d ≠ RoadKit.slotOf Z "com/example/formboard/formboard/core/Board$Live" "form" "Ljava/lang/String;" → Fld Z h p0 O n d w) ∧ Exa Z h p0 "com/example/formboard/formboard/core/Board$Live" ∧ Fld Z h p0 "com/example/formboard/formboard/core/Board$Live" "part" "Lcom/example/formboard/formboard/core/Board$Part;" (.ref uu1) ∧ Fld Z h p0 "com/example/formboard/formboard/core/Board$Live" "key" "Ljava/lang/String;" .null ∧ Fld Z h p0 "com/example/formboard/formboard/core/Board$Live" "form" "Ljava/lang/String;" (.ref p1))) := by
  refine Met.of (EWl V) (by first | decide +kernel | rfl) hO (L0 := #[.val (.ref p0), .val (.ref uu1), .val .null, .val (.ref p1)]) rfl ?_
  intro p e s m below meth c T H
  show Go p e below _ (T.setTop (mkF m 0 _ []))
  refine G.aloadN H D33_0 (J := 1) rfl rfl rfl ?_
  refine G.callI H (m5_init V p0 h0 H.old) rfl (wd39 V) (wd40 V) (wd42 V) (wd43 V) (by decide) (a := p0) (argsL := []) (rest := []) (W := 0) rfl rfl (lenOf (pd_4) rfl) rfl rfl D33_1 (J := 4) rfl (by decide) (by decide) (by decide) (by decide) all0 ?_
  intro T1 h1_ v2 s3 H1 Q4
  obtain ⟨rfl, rfl, rfl⟩ := Q4
  show Go p e below _ (T1.setTop (mkF m 4 _ []))
  refine G.aloadN H1 D33_4 (J := 5) rfl rfl rfl ?_
  refine G.ldcS H1 trivial (wS V) (wd45 V) (by decide) (vs := [.int 112, .int 97, .int 114, .int 116]) (z := 4) (by decide) (by decide) rfl (n := 16) (by decide) (by decide) (by decide) (by decide) D33_5 (J := 7) rfl ?_
  intro T5 h5_ a6 b8 k9 H5 E7 X10 F11 F12 A13 Q14
  have S15 : Str Z h5_ a6 b8 k9 [112, 97, 114, 116] := ⟨X10, F11, F12, A13, by decide, by decide⟩
  refine G.callS H5 (m6_requireNonNull V a6 h5_ H5.old) (wd46 V) (wd47 V) (wd48 V) (wd49 V) (by decide) (argsL := [.ref uu1, .ref a6]) (rest := []) (W := 0) rfl rfl (lenOf (pd_5) rfl) rfl rfl D33_7 (J := 10) rfl (by decide) (by decide) (by decide) (by decide) all0 ?_
  intro T16 h16_ v17 s18 H16 Q19
  obtain ⟨rfl, rfl, rfl⟩ := Q19
  show Go p e below _ (T16.setTop (mkF m 10 _ [.ref uu1]))
  refine G.pop H16 D33_10 (J := 11) rfl rfl ?_
  refine G.aloadN H16 D33_11 (J := 12) rfl rfl rfl ?_
  refine G.ldcS H16 trivial (wS V) (wd50 V) (by decide) (vs := [.int 102, .int 111, .int 114, .int 109]) (z := 4) (by decide) (by decide) rfl (n := 16) (by decide) (by decide) (by decide) (by decide) D33_12 (J := 14) rfl ?_
  intro T20 h20_ a21 b23 k24 H20 E22 X25 F26 F27 A28 Q29
  have S30 : Str Z h20_ a21 b23 k24 [102, 111, 114, 109] := ⟨X25, F26, F27, A28, by decide, by decide⟩
  refine G.callS H20 (m7_requireNonNull V p1 a21 h20_ H20.old) (wd46 V) (wd47 V) (wd48 V) (wd49 V) (by decide) (argsL := [.ref p1, .ref a21]) (rest := []) (W := 0) rfl rfl (lenOf (pd_5) rfl) rfl rfl D33_14 (J := 17) rfl (by decide) (by decide) (by decide) (by decide) all0 ?_
  intro T31 h31_ v32 s33 H31 Q34
  obtain ⟨rfl, rfl, rfl⟩ := Q34
  show Go p e below _ (T31.setTop (mkF m 17 _ [.ref p1]))
  refine G.pop H31 D33_17 (J := 18) rfl rfl ?_
  refine G.aloadN H31 D33_18 (J := 19) rfl rfl rfl ?_
  refine G.aloadN H31 D33_19 (J := 20) rfl rfl rfl ?_
  have K35 : Keep h0 h20_ [] := (Keep.ext (Keep.ext (Keep.refl h0 []) E7) E22)
  have F36 := (Exa.keep f0 K35)
  have F37 := (Fld.keep f1 K35 nin0)
  refine G.putF H31 (wd51 V) Via.refl F37 F36 (Or.inr ⟨(wd52 V), rfl, rfl⟩) (wd34 V) (ty := (.object "com/example/formboard/formboard/core/Board$Part")) (by decide) rfl rfl g2 (Sf.exa F36) D33_20 (J := 23) rfl ?_
  intro T38 h38_ H38 W39
  have F40 : Fld Z h38_ p0 "com/example/formboard/formboard/core/Board$Live" "part" "Lcom/example/formboard/formboard/core/Board$Part;" (.ref uu1) := Fld.same W39 F37
  refine G.aloadN H38 D33_23 (J := 24) rfl rfl rfl ?_
  refine G.aloadN H38 D33_24 (J := 25) rfl rfl rfl ?_
  have F41 := (Exa.wr W39 F36)
  have F42 := (Fld.other W39 (Fld.keep f3 K35 nin0) (Or.inr (slot_ne (Or.inr (wd54 V)) (Or.inr (wd52 V)) (by decide) (t := (.object "java/lang/String")) (t' := (.object "com/example/formboard/formboard/core/Board$Part")) (by decide) (by decide))))
  refine G.putF H38 (wd53 V) Via.refl F42 F41 (Or.inr ⟨(wd54 V), rfl, rfl⟩) (wd34 V) (ty := (.object "java/lang/String")) (by decide) rfl rfl g2 (Sf.exa F41) D33_25 (J := 28) rfl ?_
  intro T43 h43_ H43 W44
  have F45 : Fld Z h43_ p0 "com/example/formboard/formboard/core/Board$Live" "key" "Ljava/lang/String;" .null := Fld.same W44 F42
  refine G.aloadN H43 D33_28 (J := 29) rfl rfl rfl ?_
  refine G.aloadN H43 D33_29 (J := 30) rfl rfl rfl ?_
  have F46 := (Exa.wr W44 F41)
  have F47 := (Fld.other W44 (Fld.other W39 (Fld.keep f4 K35 nin0) (Or.inr (slot_ne (Or.inr (wd56 V)) (Or.inr (wd52 V)) (by decide) (t := (.object "java/lang/String")) (t' := (.object "com/example/formboard/formboard/core/Board$Part")) (by decide) (by decide)))) (Or.inr (slot_ne (Or.inr (wd56 V)) (Or.inr (wd54 V)) (by decide) (t := (.object "java/lang/String")) (t' := (.object "java/lang/String")) (by decide) (by decide))))
  refine G.putF H43 (wd55 V) Via.refl F47 F46 (Or.inr ⟨(wd56 V), rfl, rfl⟩) (wd34 V) (ty := (.object "java/lang/String")) (by decide) rfl rfl g2 (Sf.exa F46) D33_30 (J := 33) rfl ?_
  intro T48 h48_ H48 W49
  have F50 : Fld Z h48_ p0 "com/example/formboard/formboard/core/Board$Live" "form" "Ljava/lang/String;" (.ref p1) := Fld.same W49 F47
  have F51 := (Exa.wr W49 F46)
  have F52 := (Fld.other W49 (Fld.other W44 F40 (Or.inr (slot_ne (Or.inr (wd52 V)) (Or.inr (wd54 V)) (by decide) (t := (.object "com/example/formboard/formboard/core/Board$Part")) (t' := (.object "java/lang/String")) (by decide) (by decide)))) (Or.inr (slot_ne (Or.inr (wd52 V)) (Or.inr (wd56 V)) (by decide) (t := (.object "com/example/formboard/formboard/core/Board$Part")) (t' := (.object "java/lang/String")) (by decide) (by decide))))
  have F53 := (Fld.other W49 F45 (Or.inr (slot_ne (Or.inr (wd54 V)) (Or.inr (wd56 V)) (by decide) (t := (.object "java/lang/String")) (t' := (.object "java/lang/String")) (by decide) (by decide))))
  have K54 : Keep h0 h48_ [p0] := (Keep.wr (Keep.wr (Keep.wr (Keep.ext (Keep.ext (Keep.refl h0 [p0]) E7) E22) W39 (Or.inl (mG (i := 0) rfl))) W44 (Or.inl (mG (i := 0) rfl))) W49 (Or.inl (mG (i := 0) rfl)))
  exact G.retV H48 rfl D33_33 (so := []) all0 (by decide) (by decide) ⟨rfl, rfl, K54, (fun O n d w F hn0 hn1 hn2 => (Fld.other W49 (Fld.other W44 (Fld.other W39 (Fld.ext E22 (Fld.ext E7 F)) (Or.inr hn0)) (Or.inr hn1)) (Or.inr hn2))), F51, F52, F53, F50⟩
theorem m13_requireNonNull (V : Env1 Z a0 n0 uu0 uu1 uu2 uu3 uu4) (p0 : Addr) (h0 : Heap) (hO : Old Z n0 h0)  :
    Met Z a0 ELs True n0 l ⟨"java/util/Objects", "requireNonNull", "(Ljava/lang/Object;Ljava/lang/String;)Ljava/lang/Object;"⟩ jdk_31_method_11_code 2 (some (.object "java/lang/Object")) ⟨0, 0, 0, 0⟩ #[.ref uu0, .ref p0] h0 [] (fun v h so => (v = some (.ref uu0) ∧ so = [] ∧ h0 = h)) := by
  refine Met.of (EWl V) (by first | decide +kernel | rfl) hO (L0 := #[.val (.ref uu0), .val (.ref p0)]) rfl ?_
  intro p e s m below meth c T H
  show Go p e below _ (T.setTop (mkF m 0 _ []))
  refine G.aloadN H D3_0 (J := 1) rfl rfl rfl ?_
  refine G.ifnonnullYes H D3_1 (by decide) (J := 13) rfl ?_
  refine G.aloadN H D3_13 (J := 14) rfl rfl rfl ?_
  exact G.retA H (t := (.object "java/lang/Object")) rfl rfl rfl D3_14 (so := []) all0 (by decide) (by decide) ⟨rfl, rfl, rfl⟩
theorem m14_init (V : Env1 Z a0 n0 uu0 uu1 uu2 uu3 uu4) (p0 : Addr) (p1 : Addr) (p2 : Addr) (h0 : Heap) (hO : Old Z n0 h0) (f0 : Exa Z h0 p0 "com/example/formboard/formboard/core/Board$Live") (f1 : Fld Z h0 p0 "com/example/formboard/formboard/core/Board$Live" "part" "Lcom/example/formboard/formboard/core/Board$Part;" .null) (g2 : n0 ≤ p0) (f3 : Fld Z h0 p0 "com/example/formboard/formboard/core/Board$Live" "key" "Ljava/lang/String;" .null) (f4 : Fld Z h0 p0 "com/example/formboard/formboard/core/Board$Live" "form" "Ljava/lang/String;" .null) :
    Met Z a0 ELs True n0 l ⟨"com/example/formboard/formboard/core/Board$Live", "<init>", "(Lcom/example/formboard/formboard/core/Board$Part;Ljava/lang/String;Ljava/lang/String;)V"⟩ prog_16_method_1_code 4 none ⟨2, 4, 40, 24⟩ #[.ref p0, .ref uu0, .ref p1, .ref p2] h0 [] (fun v h so => (v = none ∧ so = [] ∧ Keep h0 h [p0] ∧ (∀ (O n d : String) (w : Value), Fld Z h0 p0 O n d w → RoadKit.slotOf Z O n d ≠ RoadKit.slotOf Z "com/example/formboard/formboard/core/Board$Live" "part" "Lcom/example/formboard/formboard/core/Board$Part;" → RoadKit.slotOf Z O n d ≠ RoadKit.slotOf Z "com/example/formboard/formboard/core/Board$Live" "key" "Ljava/lang/String;" → RoadKit.slotOf Z O n d ≠ RoadKit.slotOf Z "com/example/formboard/formboard/core/Board$Live" "form" "Ljava/lang/String;" → Fld Z h p0 O n d w) ∧ Exa Z h p0 "com/example/formboard/formboard/core/Board$Live" ∧ Fld Z h p0 "com/example/formboard/formboard/core/Board$Live" "part" "Lcom/example/formboard/formboard/core/Board$Part;" (.ref uu0) ∧ Fld Z h p0 "com/example/formboard/formboard/core/Board$Live" "key" "Ljava/lang/String;" (.ref p1) ∧ Fld Z h p0 "com/example/formboard/formboard/core/Board$Live" "form" "Ljava/lang/String;" (.ref p2))) := by
  refine Met.of (EWl V) (by first | decide +kernel | rfl) hO (L0 := #[.val (.ref p0), .val (.ref uu0), .val (.ref p1), .val (.ref p2)]) rfl ?_
  intro p e s m below meth c T H
  show Go p e below _ (T.setTop (mkF m 0 _ []))
  refine G.aloadN H D33_0 (J := 1) rfl rfl rfl ?_
  refine G.callI H (m5_init V p0 h0 H.old) rfl (wd39 V) (wd40 V) (wd42 V) (wd43 V) (by decide) (a := p0) (argsL := []) (rest := []) (W := 0) rfl rfl (lenOf (pd_4) rfl) rfl rfl D33_1 (J := 4) rfl (by decide) (by decide) (by decide) (by decide) all0 ?_
  intro T1 h1_ v2 s3 H1 Q4
  obtain ⟨rfl, rfl, rfl⟩ := Q4
  show Go p e below _ (T1.setTop (mkF m 4 _ []))
  refine G.aloadN H1 D33_4 (J := 5) rfl rfl rfl ?_
  refine G.ldcS H1 trivial (wS V) (wd45 V) (by decide) (vs := [.int 112, .int 97, .int 114, .int 116]) (z := 4) (by decide) (by decide) rfl (n := 16) (by decide) (by decide) (by decide) (by decide) D33_5 (J := 7) rfl ?_
  intro T5 h5_ a6 b8 k9 H5 E7 X10 F11 F12 A13 Q14
  have S15 : Str Z h5_ a6 b8 k9 [112, 97, 114, 116] := ⟨X10, F11, F12, A13, by decide, by decide⟩
  refine G.callS H5 (m13_requireNonNull V a6 h5_ H5.old) (wd46 V) (wd47 V) (wd48 V) (wd49 V) (by decide) (argsL := [.ref uu0, .ref a6]) (rest := []) (W := 0) rfl rfl (lenOf (pd_5) rfl) rfl rfl D33_7 (J := 10) rfl (by decide) (by decide) (by decide) (by decide) all0 ?_
  intro T16 h16_ v17 s18 H16 Q19
  obtain ⟨rfl, rfl, rfl⟩ := Q19
  show Go p e below _ (T16.setTop (mkF m 10 _ [.ref uu0]))
  refine G.pop H16 D33_10 (J := 11) rfl rfl ?_
  refine G.aloadN H16 D33_11 (J := 12) rfl rfl rfl ?_
  refine G.ldcS H16 trivial (wS V) (wd50 V) (by decide) (vs := [.int 102, .int 111, .int 114, .int 109]) (z := 4) (by decide) (by decide) rfl (n := 16) (by decide) (by decide) (by decide) (by decide) D33_12 (J := 14) rfl ?_
  intro T20 h20_ a21 b23 k24 H20 E22 X25 F26 F27 A28 Q29
  have S30 : Str Z h20_ a21 b23 k24 [102, 111, 114, 109] := ⟨X25, F26, F27, A28, by decide, by decide⟩
  refine G.callS H20 (m7_requireNonNull V p2 a21 h20_ H20.old) (wd46 V) (wd47 V) (wd48 V) (wd49 V) (by decide) (argsL := [.ref p2, .ref a21]) (rest := []) (W := 0) rfl rfl (lenOf (pd_5) rfl) rfl rfl D33_14 (J := 17) rfl (by decide) (by decide) (by decide) (by decide) all0 ?_
  intro T31 h31_ v32 s33 H31 Q34
  obtain ⟨rfl, rfl, rfl⟩ := Q34
  show Go p e below _ (T31.setTop (mkF m 17 _ [.ref p2]))
  refine G.pop H31 D33_17 (J := 18) rfl rfl ?_
  refine G.aloadN H31 D33_18 (J := 19) rfl rfl rfl ?_
  refine G.aloadN H31 D33_19 (J := 20) rfl rfl rfl ?_
  have K35 : Keep h0 h20_ [] := (Keep.ext (Keep.ext (Keep.refl h0 []) E7) E22)
  have F36 := (Exa.keep f0 K35)
  have F37 := (Fld.keep f1 K35 nin0)
  refine G.putF H31 (wd51 V) Via.refl F37 F36 (Or.inr ⟨(wd52 V), rfl, rfl⟩) (wd34 V) (ty := (.object "com/example/formboard/formboard/core/Board$Part")) (by decide) rfl rfl g2 (Sf.exa F36) D33_20 (J := 23) rfl ?_
  intro T38 h38_ H38 W39
  have F40 : Fld Z h38_ p0 "com/example/formboard/formboard/core/Board$Live" "part" "Lcom/example/formboard/formboard/core/Board$Part;" (.ref uu0) := Fld.same W39 F37
  refine G.aloadN H38 D33_23 (J := 24) rfl rfl rfl ?_
  refine G.aloadN H38 D33_24 (J := 25) rfl rfl rfl ?_
  have F41 := (Exa.wr W39 F36)
  have F42 := (Fld.other W39 (Fld.keep f3 K35 nin0) (Or.inr (slot_ne (Or.inr (wd54 V)) (Or.inr (wd52 V)) (by decide) (t := (.object "java/lang/String")) (t' := (.object "com/example/formboard/formboard/core/Board$Part")) (by decide) (by decide))))
  refine G.putF H38 (wd53 V) Via.refl F42 F41 (Or.inr ⟨(wd54 V), rfl, rfl⟩) (wd34 V) (ty := (.object "java/lang/String")) (by decide) rfl rfl g2 (Sf.exa F41) D33_25 (J := 28) rfl ?_
  intro T43 h43_ H43 W44
  have F45 : Fld Z h43_ p0 "com/example/formboard/formboard/core/Board$Live" "key" "Ljava/lang/String;" (.ref p1) := Fld.same W44 F42
  refine G.aloadN H43 D33_28 (J := 29) rfl rfl rfl ?_
  refine G.aloadN H43 D33_29 (J := 30) rfl rfl rfl ?_
  have F46 := (Exa.wr W44 F41)
  have F47 := (Fld.other W44 (Fld.other W39 (Fld.keep f4 K35 nin0) (Or.inr (slot_ne (Or.inr (wd56 V)) (Or.inr (wd52 V)) (by decide) (t := (.object "java/lang/String")) (t' := (.object "com/example/formboard/formboard/core/Board$Part")) (by decide) (by decide)))) (Or.inr (slot_ne (Or.inr (wd56 V)) (Or.inr (wd54 V)) (by decide) (t := (.object "java/lang/String")) (t' := (.object "java/lang/String")) (by decide) (by decide))))
  refine G.putF H43 (wd55 V) Via.refl F47 F46 (Or.inr ⟨(wd56 V), rfl, rfl⟩) (wd34 V) (ty := (.object "java/lang/String")) (by decide) rfl rfl g2 (Sf.exa F46) D33_30 (J := 33) rfl ?_
  intro T48 h48_ H48 W49
  have F50 : Fld Z h48_ p0 "com/example/formboard/formboard/core/Board$Live" "form" "Ljava/lang/String;" (.ref p2) := Fld.same W49 F47
  have F51 := (Exa.wr W49 F46)
  have F52 := (Fld.other W49 (Fld.other W44 F40 (Or.inr (slot_ne (Or.inr (wd52 V)) (Or.inr (wd54 V)) (by decide) (t := (.object "com/example/formboard/formboard/core/Board$Part")) (t' := (.object "java/lang/String")) (by decide) (by decide)))) (Or.inr (slot_ne (Or.inr (wd52 V)) (Or.inr (wd56 V)) (by decide) (t := (.object "com/example/formboard/formboard/core/Board$Part")) (t' := (.object "java/lang/String")) (by decide) (by decide))))
  have F53 := (Fld.other W49 F45 (Or.inr (slot_ne (Or.inr (wd54 V)) (Or.inr (wd56 V)) (by decide) (t := (.object "java/lang/String")) (t' := (.object "java/lang/String")) (by decide) (by decide))))
  have K54 : Keep h0 h48_ [p0] := (Keep.wr (Keep.wr (Keep.wr (Keep.ext (Keep.ext (Keep.refl h0 [p0]) E7) E22) W39 (Or.inl (mG (i := 0) rfl))) W44 (Or.inl (mG (i := 0) rfl))) W49 (Or.inl (mG (i := 0) rfl)))
  exact G.retV H48 rfl D33_33 (so := []) all0 (by decide) (by decide) ⟨rfl, rfl, K54, (fun O n d w F hn0 hn1 hn2 => (Fld.other W49 (Fld.other W44 (Fld.other W39 (Fld.ext E22 (Fld.ext E7 F)) (Or.inr hn0)) (Or.inr hn1)) (Or.inr hn2))), F51, F52, F53, F50⟩
theorem m15_ordinal (V : Env1 Z a0 n0 uu0 uu1 uu2 uu3 uu4)  (h0 : Heap) (hO : Old Z n0 h0)  :
    Met Z a0 ELs True n0 l ⟨"java/lang/Enum", "ordinal", "()I"⟩ jdk_37_method_2_code 1 (some .int) ⟨0, 0, 0, 0⟩ #[.ref uu0] h0 [] (fun v h so => (v = some (.int 1) ∧ so = [] ∧ h0 = h)) := by
  refine Met.of (EWl V) (by first | decide +kernel | rfl) hO (L0 := #[.val (.ref uu0)]) rfl ?_
  intro p e s m below meth c T H
  show Go p e below _ (T.setTop (mkF m 0 _ []))
  refine G.aloadN H D4_0 (J := 1) rfl rfl rfl ?_
  have B1 := Fld.ext H.old.2 (hv7 V)
  refine G.getF H (wd69 V) Via.refl B1 D4_1 (J := 4) rfl ?_
  intro T2 H3
  exact G.retI H3 rfl D4_4 (so := []) all0 (by decide) (by decide) ⟨rfl, rfl, rfl⟩
theorem m16_init (V : Env1 Z a0 n0 uu0 uu1 uu2 uu3 uu4) (p0 : Addr) (h0 : Heap) (hO : Old Z n0 h0) (f0 : Exa Z h0 p0 "java/lang/StringBuilder") (f1 : Fld Z h0 p0 "java/lang/AbstractStringBuilder" "value" "[B" .null) (g2 : n0 ≤ p0) (f3 : Fld Z h0 p0 "java/lang/AbstractStringBuilder" "coder" "B" (.int 0)) :
    Met Z a0 ELs True n0 l ⟨"java/lang/AbstractStringBuilder", "<init>", "(I)V"⟩ jdk_68_method_2_code 2 none ⟨1, 1, 16, 12⟩ #[.ref p0, .int 16] h0 [] (fun v h so => (∃ a6 : Addr, ∃ k9 : ClassId, v = none ∧ so = [a6] ∧ Keep h0 h [p0] ∧ h0.size ≤ a6 ∧ (∀ (O n d : String) (w : Value), Fld Z h0 p0 O n d w → RoadKit.slotOf Z O n d ≠ RoadKit.slotOf Z "java/lang/AbstractStringBuilder" "value" "[B" → RoadKit.slotOf Z O n d ≠ RoadKit.slotOf Z "java/lang/AbstractStringBuilder" "coder" "B" → Fld Z h p0 O n d w) ∧ Exa Z h p0 "java/lang/StringBuilder" ∧ Fld Z h p0 "java/lang/AbstractStringBuilder" "value" "[B" (.ref a6) ∧ Fld Z h p0 "java/lang/AbstractStringBuilder" "coder" "B" (.int 0) ∧ Arv Z h a6 k9 .byte 16 [.int 0, .int 0, .int 0, .int 0, .int 0, .int 0, .int 0, .int 0, .int 0, .int 0, .int 0, .int 0, .int 0, .int 0, .int 0, .int 0] (.int 0) ∧ Exa Z h a6 "[B")) := by
  refine Met.of (EWl V) (by first | decide +kernel | rfl) hO (L0 := #[.val (.ref p0), .val (.int 16)]) rfl ?_
  intro p e s m below meth c T H
  show Go p e below _ (T.setTop (mkF m 0 _ []))
  refine G.aloadN H D25_0 (J := 1) rfl rfl rfl ?_
  refine G.initO H (wd96 V) (wd26 V) (wd27 V) rfl D25_1 (J := 4) rfl (by decide) (W := 0) rfl (by decide) ?_
  intro T1 H2
  refine G.getS H2 (wd97 V) Via.refl (Sta.ext H2.old.2 (hv9 V)) D25_4 (J := 7) rfl ?_
  intro T3 H4
  refine G.ifNo H4 D25_7 (J := 10) rfl (XT.i0_eq_f (hv10 V)) ?_
  refine G.aloadN H4 D25_10 (J := 11) rfl rfl rfl ?_
  refine G.iloadN H4 D25_11 (J := 12) rfl rfl ?_
  refine G.newP H4 (aty := .byte) (wd4 V) D25_12 (J := 14) rfl (by decide) (cap := 16) (by decide) (by decide) (by decide) (by decide) (vs := [.int 0, .int 0, .int 0, .int 0, .int 0, .int 0, .int 0, .int 0, .int 0, .int 0, .int 0, .int 0, .int 0, .int 0, .int 0, .int 0]) rfl (ad := "[B") rfl ?_
  intro T5 h5_ a6 k9 ga6 H5 E7 A8 X10
  have na6 := H4.nle ga6
  replace A8 : Arv Z h5_ a6 k9 .byte 16 [.int 0, .int 0, .int 0, .int 0, .int 0, .int 0, .int 0, .int 0, .int 0, .int 0, .int 0, .int 0, .int 0, .int 0, .int 0, .int 0] (.int 0) := A8
  have F11 := (Exa.ext E7 f0)
  have F12 := (Fld.ext E7 f1)
  refine G.putF H5 (wd98 V) Via.refl F12 F11 (Or.inl (wd99 V)) (wd85 V) (ty := (.array .byte)) (by decide) rfl rfl g2 (Sf.exa F11) D25_14 (J := 17) rfl ?_
  intro T13 h13_ H13 W14
  have F15 : Fld Z h13_ p0 "java/lang/AbstractStringBuilder" "value" "[B" (.ref a6) := Fld.same W14 F12
  refine G.aloadN H13 D25_17 (J := 18) rfl rfl rfl ?_
  refine G.iconst H13 D25_18 (J := 19) rfl (v := 0) rfl ?_
  have F16 := (Exa.wr W14 F11)
  have F17 := (Fld.other W14 (Fld.ext E7 f3) (Or.inr (slot_ne (Or.inl (wd101 V)) (Or.inl (wd99 V)) (by decide) (t := .byte) (t' := (.array .byte)) (by decide) (by decide))))
  refine G.putF H13 (wd100 V) Via.refl F17 F16 (Or.inl (wd101 V)) (wd85 V) (ty := .byte) (by decide) rfl rfl g2 (Sf.exa F16) D25_19 (J := 22) rfl ?_
  intro T18 h18_ H18 W19
  have F20 : Fld Z h18_ p0 "java/lang/AbstractStringBuilder" "coder" "B" (.int 0) := Fld.same W19 F17
  refine G.goto H18 D25_22 (by decide) (J := 38) rfl ?_
  have F21 := (Exa.wr W19 F16)
  have F22 := (Fld.other W19 F15 (Or.inr (slot_ne (Or.inl (wd99 V)) (Or.inl (wd101 V)) (by decide) (t := (.array .byte)) (t' := .byte) (by decide) (by decide))))
  have K23 : Keep h5_ h18_ [p0] := (Keep.wr (Keep.wr (Keep.refl h5_ [p0]) W14 (Or.inl (mG (i := 0) rfl))) W19 (Or.inl (mG (i := 0) rfl)))
  have N24 : a6 ≠ p0 := Ne.symm (Exa.neArv (Exa.ext E7 f0) A8 (wd85 V))
  have F25 := (Arv.keep A8 K23 (ninS N24 nin0))
  have F26 := (Exa.keep X10 K23)
  have K27 : Keep h0 h18_ [p0] := (Keep.wr (Keep.wr (Keep.ext (Keep.refl h0 [p0]) E7) W14 (Or.inl (mG (i := 0) rfl))) W19 (Or.inl (mG (i := 0) rfl)))
  exact G.retV H18 rfl D25_38 (so := [a6]) (allS (mG (i := 0) rfl) all0) (by decide) (by decide) ⟨a6, k9, rfl, rfl, K27, (Nat.le_of_eq ga6.symm), (fun O n d w F hn0 hn1 => (Fld.other W19 (Fld.other W14 (Fld.ext E7 F) (Or.inr hn0)) (Or.inr hn1))), F21, F22, F20, F25, F26⟩
theorem m17_init (V : Env1 Z a0 n0 uu0 uu1 uu2 uu3 uu4) (p0 : Addr) (h0 : Heap) (hO : Old Z n0 h0) (f0 : Exa Z h0 p0 "java/lang/StringBuilder") (f1 : Fld Z h0 p0 "java/lang/AbstractStringBuilder" "value" "[B" .null) (g2 : n0 ≤ p0) (f3 : Fld Z h0 p0 "java/lang/AbstractStringBuilder" "coder" "B" (.int 0)) :
    Met Z a0 ELs True n0 l ⟨"java/lang/StringBuilder", "<init>", "()V"⟩ jdk_67_method_1_code 1 none ⟨2, 1, 16, 25⟩ #[.ref p0] h0 [] (fun v h so => (∃ a5 : Addr, ∃ k6 : ClassId, v = none ∧ so = [a5] ∧ Keep h0 h [p0] ∧ h0.size ≤ a5 ∧ (∀ (O n d : String) (w : Value), Fld Z h0 p0 O n d w → RoadKit.slotOf Z O n d ≠ RoadKit.slotOf Z "java/lang/AbstractStringBuilder" "value" "[B" → RoadKit.slotOf Z O n d ≠ RoadKit.slotOf Z "java/lang/AbstractStringBuilder" "coder" "B" → Fld Z h p0 O n d w) ∧ Exa Z h p0 "java/lang/StringBuilder" ∧ Fld Z h p0 "java/lang/AbstractStringBuilder" "value" "[B" (.ref a5) ∧ Fld Z h p0 "java/lang/AbstractStringBuilder" "coder" "B" (.int 0) ∧ Arv Z h a5 k6 .byte 16 [.int 0, .int 0, .int 0, .int 0, .int 0, .int 0, .int 0, .int 0, .int 0, .int 0, .int 0, .int 0, .int 0, .int 0, .int 0, .int 0] (.int 0) ∧ Exa Z h a5 "[B")) := by
  refine Met.of (EWl V) (by first | decide +kernel | rfl) hO (L0 := #[.val (.ref p0)]) rfl ?_
  intro p e s m below meth c T H
  show Go p e below _ (T.setTop (mkF m 0 _ []))
  refine G.aloadN H D19_0 (J := 1) rfl rfl rfl ?_
  refine G.bipush H D19_1 (J := 3) rfl (v := 16) rfl ?_
  refine G.callI H (m16_init V p0 h0 H.old f0 f1 g2 f3) rfl (wd90 V) (wd91 V) (wd94 V) (wd95 V) (by decide) (a := p0) (argsL := [.int 16]) (rest := []) (W := 0) rfl rfl (lenOf (pd_10) rfl) rfl rfl D19_3 (J := 6) rfl (by decide) (by decide) (by decide) (by decide) all0 ?_
  intro T1 h1_ v2 s3 H1 Q4
  obtain ⟨a5, k6, rfl, rfl, K7, g8, U9, F10, F11, F12, F13, F14⟩ := Q4
  have na5 : n0 ≤ a5 := Nat.le_trans H.le g8
  show Go p e below _ (T1.setTop (mkF m 6 _ []))
  have K15 : Keep h0 h1_ [p0] := (Keep.trans (Keep.refl h0 [p0]) K7 (allS (Or.inl (mG (i := 0) rfl)) all0))
  exact G.retV H1 rfl D19_6 (so := [a5]) (allS (mG (i := 0) rfl) all0) (by decide) (by decide) ⟨a5, k6, rfl, rfl, K15, g8, (fun O n d w F hn0 hn1 => (U9 O n d w F hn0 hn1)), F10, F11, F12, F13, F14⟩
theorem m18_coder (V : Env1 Z a0 n0 uu0 uu1 uu2 uu3 uu4) (p0 : Addr) (h0 : Heap) (hO : Old Z n0 h0) (f0 : Fld Z h0 p0 "java/lang/String" "coder" "B" (.int 0)) :
    Met Z a0 ELs True n0 l ⟨"java/lang/String", "coder", "()B"⟩ jdk_42_method_152_code 1 (some .byte) ⟨0, 0, 0, 0⟩ #[.ref p0] h0 [] (fun v h so => (v = some (.int 0) ∧ so = [] ∧ h0 = h)) := by
  refine Met.of (EWl V) (by first | decide +kernel | rfl) hO (L0 := #[.val (.ref p0)]) rfl ?_
  intro p e s m below meth c T H
  show Go p e below _ (T.setTop (mkF m 0 _ []))
  refine G.getS H (wd12 V) Via.refl (Sta.ext H.old.2 (hv9 V)) D9_0 (J := 3) rfl ?_
  intro T1 H2
  refine G.ifNo H2 D9_3 (J := 6) rfl (XT.i0_eq_f (hv10 V)) ?_
  refine G.aloadN H2 D9_6 (J := 7) rfl rfl rfl ?_
  refine G.getF H2 (wd29 V) Via.refl f0 D9_7 (J := 10) rfl ?_
  intro T3 H4
  refine G.goto H4 D9_10 (by decide) (J := 14) rfl ?_
  exact G.retN H4 (t := .byte) rfl (by decide) D9_14 (so := []) all0 (by decide) (by decide) ⟨rfl, rfl, rfl⟩
theorem m19_length (V : Env1 Z a0 n0 uu0 uu1 uu2 uu3 uu4) (p0 : Addr) (p1 : Addr) (c0 : ClassId) (h0 : Heap) (hO : Old Z n0 h0) (f0 : Fld Z h0 p0 "java/lang/String" "value" "[B" (.ref p1)) (f1 : Arv Z h0 p1 c0 .byte 16 [.int 116, .int 104, .int 101, .int 32, .int 104, .int 105, .int 110, .int 116, .int 32, .int 111, .int 102, .int 32, .int 107, .int 101, .int 121, .int 32] (.int 0)) (f2 : Exa Z h0 p0 "java/lang/String") (f3 : Fld Z h0 p0 "java/lang/String" "coder" "B" (.int 0)) :
    Met Z a0 ELs True n0 l ⟨"java/lang/String", "length", "()I"⟩ jdk_42_method_54_code 1 (some .int) ⟨1, 0, 0, 13⟩ #[.ref p0] h0 [] (fun v h so => (v = some (.int 16) ∧ so = [] ∧ h0 = h)) := by
  refine Met.of (EWl V) (by first | decide +kernel | rfl) hO (L0 := #[.val (.ref p0)]) rfl ?_
  intro p e s m below meth c T H
  show Go p e below _ (T.setTop (mkF m 0 _ []))
  refine G.aloadN H D11_0 (J := 1) rfl rfl rfl ?_
  refine G.getF H (wd28 V) Via.refl f0 D11_1 (J := 4) rfl ?_
  intro T1 H2
  refine G.arrlen H2 f1 D11_4 (J := 5) rfl ?_
  refine G.aloadN H2 D11_5 (J := 6) rfl rfl rfl ?_
  refine G.callV H2 (m18_coder V p0 h0 H2.old f3) (wd118 V) (wd119 V) (nf_sel (wd121 V)) (wd121 V) (wd120 V) (wd2 V) (wd122 V) (by decide) f2 (argsL := []) (rest := [.int 16]) (W := 1) rfl rfl (lenOf (pd_11) rfl) rfl rfl D11_6 (J := 9) rfl (by decide) (by decide) (by decide) (by decide) all0 ?_
  intro T3 h3_ v4 s5 H3 Q6
  obtain ⟨rfl, rfl, rfl⟩ := Q6
  show Go p e below _ (T3.setTop (mkF m 9 _ [.int 0, .int 16]))
  refine G.ishr H3 D11_9 (J := 10) rfl ?_
  show Go p e below _ (T3.setTop (mkF m 10 _ [.int 16]))
  exact G.retI H3 rfl D11_10 (so := []) all0 (by decide) (by decide) ⟨rfl, rfl, rfl⟩
theorem m20_ensureCapacityInternal (V : Env1 Z a0 n0 uu0 uu1 uu2 uu3 uu4) (p0 : Addr) (p1 : Addr) (c0 : ClassId) (h0 : Heap) (hO : Old Z n0 h0) (f0 : Fld Z h0 p0 "java/lang/AbstractStringBuilder" "value" "[B" (.ref p1)) (f1 : Arv Z h0 p1 c0 .byte 16 [.int 0, .int 0, .int 0, .int 0, .int 0, .int 0, .int 0, .int 0, .int 0, .int 0, .int 0, .int 0, .int 0, .int 0, .int 0, .int 0] (.int 0)) (f2 : Fld Z h0 p0 "java/lang/AbstractStringBuilder" "coder" "B" (.int 0)) :
    Met Z a0 ELs True n0 l ⟨"java/lang/AbstractStringBuilder", "ensureCapacityInternal", "(I)V"⟩ jdk_68_method_9_code 3 none ⟨0, 0, 0, 0⟩ #[.ref p0, .int 16] h0 [] (fun v h so => (v = none ∧ so = [] ∧ h0 = h)) := by
  refine Met.of (EWl V) (by first | decide +kernel | rfl) hO (L0 := #[.val (.ref p0), .val (.int 16), .unset]) rfl ?_
  intro p e s m below meth c T H
  show Go p e below _ (T.setTop (mkF m 0 _ []))
  refine G.aloadN H D31_0 (J := 1) rfl rfl rfl ?_
  refine G.getF H (wd98 V) Via.refl f0 D31_1 (J := 4) rfl ?_
  intro T1 H2
  refine G.arrlen H2 f1 D31_4 (J := 5) rfl ?_
  refine G.aloadN H2 D31_5 (J := 6) rfl rfl rfl ?_
  refine G.getF H2 (wd100 V) Via.refl f2 D31_6 (J := 9) rfl ?_
  intro T3 H4
  refine G.ishr H4 D31_9 (J := 10) rfl ?_
  show Go p e below _ (T3.setTop (mkF m 10 _ [.int 16]))
  refine G.istoreN H4 (L' := #[.val (.ref p0), .val (.int 16), .val (.int 16)]) D31_10 (J := 11) rfl rfl ?_
  refine G.iloadN H4 D31_11 (J := 12) rfl rfl ?_
  refine G.iloadN H4 D31_12 (J := 13) rfl rfl ?_
  refine G.isub H4 D31_13 (J := 14) rfl ?_
  show Go p e below _ (T3.setTop (mkF m 14 _ [.int 0]))
  refine G.ifYes H4 D31_14 (by decide) (by decide) (J := 38) rfl ?_
  exact G.retV H4 rfl D31_38 (so := []) all0 (by decide) (by decide) ⟨rfl, rfl, rfl⟩
theorem m21_inflateIfNeededFor (V : Env1 Z a0 n0 uu0 uu1 uu2 uu3 uu4) (p0 : Addr) (p1 : Addr) (h0 : Heap) (hO : Old Z n0 h0) (f0 : Fld Z h0 p0 "java/lang/AbstractStringBuilder" "coder" "B" (.int 0)) (f1 : Exa Z h0 p1 "java/lang/String") (f2 : Fld Z h0 p1 "java/lang/String" "coder" "B" (.int 0)) :
    Met Z a0 ELs True n0 l ⟨"java/lang/AbstractStringBuilder", "inflateIfNeededFor", "(Ljava/lang/String;)V"⟩ jdk_68_method_71_code 2 none ⟨1, 0, 0, 13⟩ #[.ref p0, .ref p1] h0 [] (fun v h so => (v = none ∧ so = [] ∧ h0 = h)) := by
  refine Met.of (EWl V) (by first | decide +kernel | rfl) hO (L0 := #[.val (.ref p0), .val (.ref p1)]) rfl ?_
  intro p e s m below meth c T H
  show Go p e below _ (T.setTop (mkF m 0 _ []))
  refine G.getS H (wd97 V) Via.refl (Sta.ext H.old.2 (hv9 V)) D29_0 (J := 3) rfl ?_
  intro T1 H2
  refine G.ifNo H2 D29_3 (J := 6) rfl (XT.i0_eq_f (hv10 V)) ?_
  refine G.aloadN H2 D29_6 (J := 7) rfl rfl rfl ?_
  refine G.getF H2 (wd100 V) Via.refl f0 D29_7 (J := 10) rfl ?_
  intro T3 H4
  refine G.aloadN H4 D29_10 (J := 11) rfl rfl rfl ?_
  refine G.callV H4 (m18_coder V p1 h0 H4.old f2) (wd140 V) (wd119 V) (nf_sel (wd121 V)) (wd121 V) (wd120 V) (wd2 V) (wd122 V) (by decide) f1 (argsL := []) (rest := [.int 0]) (W := 1) rfl rfl (lenOf (pd_11) rfl) rfl rfl D29_11 (J := 14) rfl (by decide) (by decide) (by decide) (by decide) all0 ?_
  intro T5 h5_ v6 s7 H5 Q8
  obtain ⟨rfl, rfl, rfl⟩ := Q8
  show Go p e below _ (T5.setTop (mkF m 14 _ [.int 0, .int 0]))
  refine G.icmpYes H5 D29_14 (by decide) (by decide) (J := 21) rfl ?_
  exact G.retV H5 rfl D29_21 (so := []) all0 (by decide) (by decide) ⟨rfl, rfl, rfl⟩
theorem m22_getBytes (V : Env1 Z a0 n0 uu0 uu1 uu2 uu3 uu4) (p0 : Addr) (p1 : Addr) (p2 : Addr) (c0 : ClassId) (c1 : ClassId) (h0 : Heap) (hO : Old Z n0 h0) (f0 : Exa Z h0 p0 "java/lang/String") (f1 : Fld Z h0 p0 "java/lang/String" "coder" "B" (.int 0)) (f2 : Fld Z h0 p0 "java/lang/String" "value" "[B" (.ref p2)) (f3 : Arv Z h0 p2 c0 .byte 16 [.int 116, .int 104, .int 101, .int 32, .int 104, .int 105, .int 110, .int 116, .int 32, .int 111, .int 102, .int 32, .int 107, .int 101, .int 121, .int 32] (.int 0)) (f4 : Arv Z h0 p1 c1 .byte 16 [.int 0, .int 0, .int 0, .int 0, .int 0, .int 0, .int 0, .int 0, .int 0, .int 0, .int 0, .int 0, .int 0, .int 0, .int 0, .int 0] (.int 0)) (g5 : n0 ≤ p1) :
    Met Z a0 ELs True n0 l ⟨"java/lang/String", "getBytes", "([BIB)V"⟩ jdk_42_method_147_code 4 none ⟨1, 0, 0, 40⟩ #[.ref p0, .ref p1, .int 0, .int 0] h0 [p1] (fun v h so => (v = none ∧ so = [] ∧ Keep h0 h [p1] ∧ Arv Z h p1 c1 .byte 16 [.int 116, .int 104, .int 101, .int 32, .int 104, .int 105, .int 110, .int 116, .int 32, .int 111, .int 102, .int 32, .int 107, .int 101, .int 121, .int 32] (.int 0))) := by
  refine Met.of (EWl V) (by first | decide +kernel | rfl) hO (L0 := #[.val (.ref p0), .val (.ref p1), .val (.int 0), .val (.int 0)]) rfl ?_
  intro p e s m below meth c T H
  show Go p e below _ (T.setTop (mkF m 0 _ []))
  refine G.aloadN H D6_0 (J := 1) rfl rfl rfl ?_
  refine G.callV H (m18_coder V p0 h0 H.old f1) (wd118 V) (wd119 V) (nf_sel (wd121 V)) (wd121 V) (wd120 V) (wd2 V) (wd122 V) (by decide) f0 (argsL := []) (rest := []) (W := 0) rfl rfl (lenOf (pd_11) rfl) rfl rfl D6_1 (J := 4) rfl (by decide) (by decide) (by decide) (by decide) all0 ?_
  intro T1 h1_ v2 s3 H1 Q4
  obtain ⟨rfl, rfl, rfl⟩ := Q4
  show Go p e below _ (T1.setTop (mkF m 4 _ [.int 0]))
  refine G.iloadN H1 D6_4 (J := 5) rfl rfl ?_
  refine G.icmpNo H1 D6_5 (J := 8) rfl (by decide) ?_
  refine G.aloadN H1 D6_8 (J := 9) rfl rfl rfl ?_
  refine G.getF H1 (wd28 V) Via.refl f2 D6_9 (J := 12) rfl ?_
  intro T5 H6
  refine G.iconst H6 D6_12 (J := 13) rfl (v := 0) rfl ?_
  refine G.aloadN H6 D6_13 (J := 14) rfl rfl rfl ?_
  refine G.iloadN H6 D6_14 (J := 15) rfl rfl ?_
  refine G.iloadN H6 D6_15 (J := 16) rfl rfl ?_
  refine G.ishl H6 D6_16 (J := 17) rfl ?_
  show Go p e below _ (T5.setTop (mkF m 17 _ [.int 0, .ref p1, .int 0, .ref p2]))
  refine G.aloadN H6 D6_17 (J := 18) rfl rfl rfl ?_
  refine G.getF H6 (wd28 V) Via.refl f2 D6_18 (J := 21) rfl ?_
  intro T7 H8
  refine G.arrlen H8 f3 D6_21 (J := 22) rfl ?_
  refine G.copy H8 (wd146 V) (wd149 V) (wd147 V) (wd148 V) f3 f4 (us := [.int 116, .int 104, .int 101, .int 32, .int 104, .int 105, .int 110, .int 116, .int 32, .int 111, .int 102, .int 32, .int 107, .int 101, .int 121, .int 32]) (Or.inl ⟨rfl, rfl⟩) (by decide) (by decide) (by decide) (by decide) (by decide) rfl lB (vr := [.int 116, .int 104, .int 101, .int 32, .int 104, .int 105, .int 110, .int 116, .int 32, .int 111, .int 102, .int 32, .int 107, .int 101, .int 121, .int 32]) rfl g5 (Sf.mem (mG (i := 0) rfl)) (st := []) (W := 0) rfl rfl D6_22 (J := 25) rfl (by decide) (by decide) ?_
  intro T9 h9_ H9 K10 A11
  refine G.goto H9 D6_25 (by decide) (J := 43) rfl ?_
  have K12 : Keep h0 h9_ [p1] := (Keep.trans (Keep.refl h0 [p1]) K10 (allS (Or.inl (mG (i := 0) rfl)) all0))
  exact G.retV H9 rfl D6_43 (so := []) all0 (by decide) (by decide) ⟨rfl, rfl, K12, A11⟩
theorem m23_putStringAt (V : Env1 Z a0 n0 uu0 uu1 uu2 uu3 uu4) (p0 : Addr) (p1 : Addr) (p2 : Addr) (p3 : Addr) (c0 : ClassId) (c1 : ClassId) (h0 : Heap) (hO : Old Z n0 h0) (f0 : Exa Z h0 p0 "java/lang/StringBuilder") (f1 : Fld Z h0 p0 "java/lang/AbstractStringBuilder" "coder" "B" (.int 0)) (f2 : Exa Z h0 p1 "java/lang/String") (f3 : Fld Z h0 p1 "java/lang/String" "coder" "B" (.int 0)) (f4 : Fld Z h0 p0 "java/lang/AbstractStringBuilder" "value" "[B" (.ref p2)) (f5 : Fld Z h0 p1 "java/lang/String" "value" "[B" (.ref p3)) (f6 : Arv Z h0 p3 c0 .byte 16 [.int 116, .int 104, .int 101, .int 32, .int 104, .int 105, .int 110, .int 116, .int 32, .int 111, .int 102, .int 32, .int 107, .int 101, .int 121, .int 32] (.int 0)) (f7 : Arv Z h0 p2 c1 .byte 16 [.int 0, .int 0, .int 0, .int 0, .int 0, .int 0, .int 0, .int 0, .int 0, .int 0, .int 0, .int 0, .int 0, .int 0, .int 0, .int 0] (.int 0)) (g8 : n0 ≤ p2) :
    Met Z a0 ELs True n0 l ⟨"java/lang/AbstractStringBuilder", "putStringAt", "(ILjava/lang/String;)V"⟩ jdk_68_method_73_code 3 none ⟨2, 0, 0, 55⟩ #[.ref p0, .int 0, .ref p1] h0 [p2] (fun v h so => (v = none ∧ so = [] ∧ Keep h0 h [p2] ∧ Arv Z h p2 c1 .byte 16 [.int 116, .int 104, .int 101, .int 32, .int 104, .int 105, .int 110, .int 116, .int 32, .int 111, .int 102, .int 32, .int 107, .int 101, .int 121, .int 32] (.int 0))) := by
  refine Met.of (EWl V) (by first | decide +kernel | rfl) hO (L0 := #[.val (.ref p0), .val (.int 0), .val (.ref p1)]) rfl ?_
  intro p e s m below meth c T H
  show Go p e below _ (T.setTop (mkF m 0 _ []))
  refine G.aloadN H D30_0 (J := 1) rfl rfl rfl ?_
  refine G.aloadN H D30_1 (J := 2) rfl rfl rfl ?_
  refine G.callV H (m21_inflateIfNeededFor V p0 p1 h0 H.old f1 f2 f3) (wd135 V) (decl_of (wd136 V) (wd139 V)) (nf_sel (wd138 V)) (wd138 V) (wd136 V) (wd94 V) (wd139 V) (by decide) f0 (argsL := [.ref p1]) (rest := []) (W := 0) rfl rfl (lenOf (pd_12) rfl) rfl rfl D30_2 (J := 5) rfl (by decide) (by decide) (by decide) (by decide) all0 ?_
  intro T1 h1_ v2 s3 H1 Q4
  obtain ⟨rfl, rfl, rfl⟩ := Q4
  show Go p e below _ (T1.setTop (mkF m 5 _ []))
  refine G.aloadN H1 D30_5 (J := 6) rfl rfl rfl ?_
  refine G.aloadN H1 D30_6 (J := 7) rfl rfl rfl ?_
  refine G.getF H1 (wd98 V) Via.refl f4 D30_7 (J := 10) rfl ?_
  intro T5 H6
  refine G.iloadN H6 D30_10 (J := 11) rfl rfl ?_
  refine G.aloadN H6 D30_11 (J := 12) rfl rfl rfl ?_
  refine G.getF H6 (wd100 V) Via.refl f1 D30_12 (J := 15) rfl ?_
  intro T7 H8
  refine G.callV H8 (m22_getBytes V p1 p2 p3 c0 c1 h0 H8.old f2 f3 f5 f6 f7 g8) (wd141 V) (wd142 V) (nf_sel (wd144 V)) (wd144 V) (wd143 V) (wd2 V) (wd145 V) (by decide) f2 (argsL := [.ref p2, .int 0, .int 0]) (rest := []) (W := 0) rfl rfl (lenOf (pd_13) rfl) rfl rfl D30_15 (J := 18) rfl (by decide) (by decide) (by decide) (by decide) (allS (mG (i := 0) rfl) all0) ?_
  intro T9 h9_ v10 s11 H9 Q12
  obtain ⟨rfl, rfl, K13, F14⟩ := Q12
  show Go p e below _ (T9.setTop (mkF m 18 _ []))
  have K15 : Keep h0 h9_ [p2] := (Keep.trans (Keep.refl h0 [p2]) K13 (allS (Or.inl (mG (i := 0) rfl)) all0))
  exact G.retV H9 rfl D30_18 (so := []) all0 (by decide) (by decide) ⟨rfl, rfl, K15, F14⟩
theorem m24_append (V : Env1 Z a0 n0 uu0 uu1 uu2 uu3 uu4) (p0 : Addr) (p1 : Addr) (p2 : Addr) (c0 : ClassId) (p3 : Addr) (c1 : ClassId) (h0 : Heap) (hO : Old Z n0 h0) (f0 : Exa Z h0 p1 "java/lang/String") (f1 : Fld Z h0 p1 "java/lang/String" "value" "[B" (.ref p2)) (f2 : Arv Z h0 p2 c0 .byte 16 [.int 116, .int 104, .int 101, .int 32, .int 104, .int 105, .int 110, .int 116, .int 32, .int 111, .int 102, .int 32, .int 107, .int 101, .int 121, .int 32] (.int 0)) (f3 : Fld Z h0 p1 "java/lang/String" "coder" "B" (.int 0)) (f4 : Fld Z h0 p0 "java/lang/AbstractStringBuilder" "count" "I" (.int 0)) (f5 : Exa Z h0 p0 "java/lang/StringBuilder") (f6 : Fld Z h0 p0 "java/lang/AbstractStringBuilder" "value" "[B" (.ref p3)) (f7 : Arv Z h0 p3 c1 .byte 16 [.int 0, .int 0, .int 0, .int 0, .int 0, .int 0, .int 0, .int 0, .int 0, .int 0, .int 0, .int 0, .int 0, .int 0, .int 0, .int 0] (.int 0)) (f8 : Fld Z h0 p0 "java/lang/AbstractStringBuilder" "coder" "B" (.int 0)) (g9 : n0 ≤ p3) (g10 : n0 ≤ p0) :
    Met Z a0 ELs True n0 l ⟨"java/lang/AbstractStringBuilder", "append", "(Ljava/lang/String;)Ljava/lang/AbstractStringBuilder;"⟩ jdk_68_method_22_code 3 (some (.object "java/lang/AbstractStringBuilder")) ⟨3, 0, 0, 69⟩ #[.ref p0, .ref p1] h0 [p3] (fun v h so => (v = some (.ref p0) ∧ so = [] ∧ Keep h0 h [p3, p0] ∧ (∀ (O n d : String) (w : Value), Fld Z h0 p0 O n d w → RoadKit.slotOf Z O n d ≠ RoadKit.slotOf Z "java/lang/AbstractStringBuilder" "count" "I" → Fld Z h p0 O n d w) ∧ Arv Z h p3 c1 .byte 16 [.int 116, .int 104, .int 101, .int 32, .int 104, .int 105, .int 110, .int 116, .int 32, .int 111, .int 102, .int 32, .int 107, .int 101, .int 121, .int 32] (.int 0) ∧ Fld Z h p0 "java/lang/AbstractStringBuilder" "count" "I" (.int 16) ∧ Exa Z h p0 "java/lang/StringBuilder" ∧ Fld Z h p0 "java/lang/AbstractStringBuilder" "value" "[B" (.ref p3) ∧ Fld Z h p0 "java/lang/AbstractStringBuilder" "coder" "B" (.int 0))) := by
  refine Met.of (EWl V) (by first | decide +kernel | rfl) hO (L0 := #[.val (.ref p0), .val (.ref p1), .unset]) rfl ?_
  intro p e s m below meth c T H
  show Go p e below _ (T.setTop (mkF m 0 _ []))
  refine G.aloadN H D24_0 (J := 1) rfl rfl rfl ?_
  refine G.ifnonnullYes H D24_1 (by decide) (J := 9) rfl ?_
  refine G.aloadN H D24_9 (J := 10) rfl rfl rfl ?_
  refine G.callV H (m19_length V p1 p2 c0 h0 H.old f1 f2 f0 f3) (wd113 V) (wd114 V) (nf_sel (wd116 V)) (wd116 V) (wd115 V) (wd2 V) (wd117 V) (by decide) f0 (argsL := []) (rest := []) (W := 0) rfl rfl (lenOf (pd_7) rfl) rfl rfl D24_10 (J := 13) rfl (by decide) (by decide) (by decide) (by decide) all0 ?_
  intro T1 h1_ v2 s3 H1 Q4
  obtain ⟨rfl, rfl, rfl⟩ := Q4
  show Go p e below _ (T1.setTop (mkF m 13 _ [.int 16]))
  refine G.istoreN H1 (L' := #[.val (.ref p0), .val (.ref p1), .val (.int 16)]) D24_13 (J := 14) rfl rfl ?_
  refine G.aloadN H1 D24_14 (J := 15) rfl rfl rfl ?_
  refine G.aloadN H1 D24_15 (J := 16) rfl rfl rfl ?_
  refine G.getF H1 (wd123 V) Via.refl f4 D24_16 (J := 19) rfl ?_
  intro T5 H6
  refine G.iloadN H6 D24_19 (J := 20) rfl rfl ?_
  refine G.iadd H6 D24_20 (J := 21) rfl ?_
  show Go p e below _ (T5.setTop (mkF m 21 _ [.int 16, .ref p0]))
  refine G.callV H6 (m20_ensureCapacityInternal V p0 p3 c1 h0 H6.old f6 f7 f8) (wd125 V) (decl_of (wd126 V) (wd129 V)) (nf_sel (wd128 V)) (wd128 V) (wd126 V) (wd94 V) (wd129 V) (by decide) f5 (argsL := [.int 16]) (rest := []) (W := 0) rfl rfl (lenOf (pd_10) rfl) rfl rfl D24_21 (J := 24) rfl (by decide) (by decide) (by decide) (by decide) all0 ?_
  intro T7 h7_ v8 s9 H7 Q10
  obtain ⟨rfl, rfl, rfl⟩ := Q10
  show Go p e below _ (T7.setTop (mkF m 24 _ []))
  refine G.aloadN H7 D24_24 (J := 25) rfl rfl rfl ?_
  refine G.aloadN H7 D24_25 (J := 26) rfl rfl rfl ?_
  refine G.getF H7 (wd123 V) Via.refl f4 D24_26 (J := 29) rfl ?_
  intro T11 H12
  refine G.aloadN H12 D24_29 (J := 30) rfl rfl rfl ?_
  refine G.callV H12 (m23_putStringAt V p0 p1 p3 p2 c0 c1 h0 H12.old f5 f8 f0 f3 f6 f1 f2 f7 g9) (wd130 V) (decl_of (wd131 V) (wd134 V)) (nf_sel (wd133 V)) (wd133 V) (wd131 V) (wd94 V) (wd134 V) (by decide) f5 (argsL := [.int 0, .ref p1]) (rest := []) (W := 0) rfl rfl (lenOf (pd_14) rfl) rfl rfl D24_30 (J := 33) rfl (by decide) (by decide) (by decide) (by decide) (allS (mG (i := 0) rfl) all0) ?_
  intro T13 h13_ v14 s15 H13 Q16
  obtain ⟨rfl, rfl, K17, F18⟩ := Q16
  show Go p e below _ (T13.setTop (mkF m 33 _ []))
  refine G.aloadN H13 D24_33 (J := 34) rfl rfl rfl ?_
  refine G.dup H13 D24_34 (J := 35) rfl rfl ?_
  have N19 : p0 ≠ p3 := Exa.neArv (Exa.keep f5 K17) F18 (wd85 V)
  have F20 := (Fld.keep f4 K17 (ninS N19 nin0))
  refine G.getF H13 (wd123 V) Via.refl F20 D24_35 (J := 38) rfl ?_
  intro T21 H22
  refine G.iloadN H22 D24_38 (J := 39) rfl rfl ?_
  refine G.iadd H22 D24_39 (J := 40) rfl ?_
  show Go p e below _ (T21.setTop (mkF m 40 _ [.int 16, .ref p0]))
  have F23 := (Exa.keep f5 K17)
  refine G.putF H22 (wd123 V) Via.refl F20 F23 (Or.inl (wd124 V)) (wd85 V) (ty := .int) (by decide) rfl rfl g10 (Sf.exa F23) D24_40 (J := 43) rfl ?_
  intro T24 h24_ H24 W25
  have F26 : Fld Z h24_ p0 "java/lang/AbstractStringBuilder" "count" "I" (.int 16) := Fld.same W25 F20
  refine G.aloadN H24 D24_43 (J := 44) rfl rfl rfl ?_
  have F27 := (Arv.other F18 W25 (Ne.symm N19))
  have F28 := (Exa.wr W25 F23)
  have F29 := (Fld.other W25 (Fld.keep f6 K17 (ninS N19 nin0)) (Or.inr (slot_ne (Or.inl (wd99 V)) (Or.inl (wd124 V)) (by decide) (t := (.array .byte)) (t' := .int) (by decide) (by decide))))
  have F30 := (Fld.other W25 (Fld.keep f8 K17 (ninS N19 nin0)) (Or.inr (slot_ne (Or.inl (wd101 V)) (Or.inl (wd124 V)) (by decide) (t := .byte) (t' := .int) (by decide) (by decide))))
  have K31 : Keep h0 h24_ [p3, p0] := (Keep.wr (Keep.trans (Keep.refl h0 [p3, p0]) K17 (allS (Or.inl (mG (i := 0) rfl)) all0)) W25 (Or.inl (mG (i := 1) rfl)))
  exact G.retA H24 (t := (.object "java/lang/AbstractStringBuilder")) rfl rfl rfl D24_44 (so := []) all0 (by decide) (by decide) ⟨rfl, rfl, K31, (fun O n d w F hn0 => (Fld.other W25 (Fld.keep F K17 (ninS N19 nin0)) (Or.inr hn0))), F27, F26, F28, F29, F30⟩
theorem m25_append (V : Env1 Z a0 n0 uu0 uu1 uu2 uu3 uu4) (p0 : Addr) (p1 : Addr) (p2 : Addr) (c0 : ClassId) (p3 : Addr) (c1 : ClassId) (h0 : Heap) (hO : Old Z n0 h0) (f0 : Exa Z h0 p1 "java/lang/String") (f1 : Fld Z h0 p1 "java/lang/String" "value" "[B" (.ref p2)) (f2 : Arv Z h0 p2 c0 .byte 16 [.int 116, .int 104, .int 101, .int 32, .int 104, .int 105, .int 110, .int 116, .int 32, .int 111, .int 102, .int 32, .int 107, .int 101, .int 121, .int 32] (.int 0)) (f3 : Fld Z h0 p1 "java/lang/String" "coder" "B" (.int 0)) (f4 : Fld Z h0 p0 "java/lang/AbstractStringBuilder" "count" "I" (.int 0)) (f5 : Exa Z h0 p0 "java/lang/StringBuilder") (f6 : Fld Z h0 p0 "java/lang/AbstractStringBuilder" "value" "[B" (.ref p3)) (f7 : Arv Z h0 p3 c1 .byte 16 [.int 0, .int 0, .int 0, .int 0, .int 0, .int 0, .int 0, .int 0, .int 0, .int 0, .int 0, .int 0, .int 0, .int 0, .int 0, .int 0] (.int 0)) (f8 : Fld Z h0 p0 "java/lang/AbstractStringBuilder" "coder" "B" (.int 0)) (g9 : n0 ≤ p3) (g10 : n0 ≤ p0) :
    Met Z a0 ELs True n0 l ⟨"java/lang/StringBuilder", "append", "(Ljava/lang/String;)Ljava/lang/StringBuilder;"⟩ jdk_67_method_7_code 2 (some (.object "java/lang/StringBuilder")) ⟨4, 0, 0, 83⟩ #[.ref p0, .ref p1] h0 [p3] (fun v h so => (v = some (.ref p0) ∧ so = [] ∧ Keep h0 h [p3, p0] ∧ (∀ (O n d : String) (w : Value), Fld Z h0 p0 O n d w → RoadKit.slotOf Z O n d ≠ RoadKit.slotOf Z "java/lang/AbstractStringBuilder" "count" "I" → Fld Z h p0 O n d w) ∧ Arv Z h p3 c1 .byte 16 [.int 116, .int 104, .int 101, .int 32, .int 104, .int 105, .int 110, .int 116, .int 32, .int 111, .int 102, .int 32, .int 107, .int 101, .int 121, .int 32] (.int 0) ∧ Fld Z h p0 "java/lang/AbstractStringBuilder" "count" "I" (.int 16) ∧ Exa Z h p0 "java/lang/StringBuilder" ∧ Fld Z h p0 "java/lang/AbstractStringBuilder" "value" "[B" (.ref p3) ∧ Fld Z h p0 "java/lang/AbstractStringBuilder" "coder" "B" (.int 0))) := by
  refine Met.of (EWl V) (by first | decide +kernel | rfl) hO (L0 := #[.val (.ref p0), .val (.ref p1)]) rfl ?_
  intro p e s m below meth c T H
  show Go p e below _ (T.setTop (mkF m 0 _ []))
  refine G.aloadN H D21_0 (J := 1) rfl rfl rfl ?_
  refine G.aloadN H D21_1 (J := 2) rfl rfl rfl ?_
  refine G.callSup H (m24_append V p0 p1 p2 c0 p3 c1 h0 H.old f0 f1 f2 f3 f4 f5 f6 f7 f8 g9 g10) (wd108 V) (same_of (wd111 V) (wd128 V) rfl (by decide)) (wd109 V) (wd110 V) (by decide) (wd94 V) (wd112 V) (a := p0) (Ins.self f5) (argsL := [.ref p1]) (rest := []) (W := 0) rfl rfl (lenOf (pd_15) rfl) rfl rfl D21_2 (J := 5) rfl (by decide) (by decide) (by decide) (by decide) (allS (mG (i := 0) rfl) all0) ?_
  intro T1 h1_ v2 s3 H1 Q4
  obtain ⟨rfl, rfl, K5, U6, F7, F8, F9, F10, F11⟩ := Q4
  show Go p e below _ (T1.setTop (mkF m 5 _ [.ref p0]))
  refine G.pop H1 D21_5 (J := 6) rfl rfl ?_
  refine G.aloadN H1 D21_6 (J := 7) rfl rfl rfl ?_
  have K12 : Keep h0 h1_ [p3, p0] := (Keep.trans (Keep.refl h0 [p3, p0]) K5 (allS (Or.inl (mG (i := 0) rfl)) (allS (Or.inl (mG (i := 1) rfl)) all0)))
  exact G.retA H1 (t := (.object "java/lang/StringBuilder")) rfl rfl rfl D21_7 (so := []) all0 (by decide) (by decide) ⟨rfl, rfl, K12, (fun O n d w F hn0 => (U6 O n d w F hn0)), F7, F8, F9, F10, F11⟩
theorem m26_length (V : Env1 Z a0 n0 uu0 uu1 uu2 uu3 uu4) (p0 : Addr) (p1 : Addr) (c0 : ClassId) (h0 : Heap) (hO : Old Z n0 h0) (f0 : Fld Z h0 p0 "java/lang/String" "value" "[B" (.ref p1)) (f1 : Arv Z h0 p1 c0 .byte 0 [] (.int 0)) (f2 : Exa Z h0 p0 "java/lang/String") (f3 : Fld Z h0 p0 "java/lang/String" "coder" "B" (.int 0)) :
    Met Z a0 ELs True n0 l ⟨"java/lang/String", "length", "()I"⟩ jdk_42_method_54_code 1 (some .int) ⟨1, 0, 0, 13⟩ #[.ref p0] h0 [] (fun v h so => (v = some (.int 0) ∧ so = [] ∧ h0 = h)) := by
  refine Met.of (EWl V) (by first | decide +kernel | rfl) hO (L0 := #[.val (.ref p0)]) rfl ?_
  intro p e s m below meth c T H
  show Go p e below _ (T.setTop (mkF m 0 _ []))
  refine G.aloadN H D11_0 (J := 1) rfl rfl rfl ?_
  refine G.getF H (wd28 V) Via.refl f0 D11_1 (J := 4) rfl ?_
  intro T1 H2
  refine G.arrlen H2 f1 D11_4 (J := 5) rfl ?_
  refine G.aloadN H2 D11_5 (J := 6) rfl rfl rfl ?_
  refine G.callV H2 (m18_coder V p0 h0 H2.old f3) (wd118 V) (wd119 V) (nf_sel (wd121 V)) (wd121 V) (wd120 V) (wd2 V) (wd122 V) (by decide) f2 (argsL := []) (rest := [.int 0]) (W := 1) rfl rfl (lenOf (pd_11) rfl) rfl rfl D11_6 (J := 9) rfl (by decide) (by decide) (by decide) (by decide) all0 ?_
  intro T3 h3_ v4 s5 H3 Q6
  obtain ⟨rfl, rfl, rfl⟩ := Q6
  show Go p e below _ (T3.setTop (mkF m 9 _ [.int 0, .int 0]))
  refine G.ishr H3 D11_9 (J := 10) rfl ?_
  show Go p e below _ (T3.setTop (mkF m 10 _ [.int 0]))
  exact G.retI H3 rfl D11_10 (so := []) all0 (by decide) (by decide) ⟨rfl, rfl, rfl⟩
theorem m27_ensureCapacityInternal (V : Env1 Z a0 n0 uu0 uu1 uu2 uu3 uu4) (p0 : Addr) (p1 : Addr) (c0 : ClassId) (h0 : Heap) (hO : Old Z n0 h0) (f0 : Fld Z h0 p0 "java/lang/AbstractStringBuilder" "value" "[B" (.ref p1)) (f1 : Arv Z h0 p1 c0 .byte 16 [.int 116, .int 104, .int 101, .int 32, .int 104, .int 105, .int 110, .int 116, .int 32, .int 111, .int 102, .int 32, .int 107, .int 101, .int 121, .int 32] (.int 0)) (f2 : Fld Z h0 p0 "java/lang/AbstractStringBuilder" "coder" "B" (.int 0)) :
    Met Z a0 ELs True n0 l ⟨"java/lang/AbstractStringBuilder", "ensureCapacityInternal", "(I)V"⟩ jdk_68_method_9_code 3 none ⟨0, 0, 0, 0⟩ #[.ref p0, .int 16] h0 [] (fun v h so => (v = none ∧ so = [] ∧ h0 = h)) := by
  refine Met.of (EWl V) (by first | decide +kernel | rfl) hO (L0 := #[.val (.ref p0), .val (.int 16), .unset]) rfl ?_
  intro p e s m below meth c T H
  show Go p e below _ (T.setTop (mkF m 0 _ []))
  refine G.aloadN H D31_0 (J := 1) rfl rfl rfl ?_
  refine G.getF H (wd98 V) Via.refl f0 D31_1 (J := 4) rfl ?_
  intro T1 H2
  refine G.arrlen H2 f1 D31_4 (J := 5) rfl ?_
  refine G.aloadN H2 D31_5 (J := 6) rfl rfl rfl ?_
  refine G.getF H2 (wd100 V) Via.refl f2 D31_6 (J := 9) rfl ?_
  intro T3 H4
  refine G.ishr H4 D31_9 (J := 10) rfl ?_
  show Go p e below _ (T3.setTop (mkF m 10 _ [.int 16]))
  refine G.istoreN H4 (L' := #[.val (.ref p0), .val (.int 16), .val (.int 16)]) D31_10 (J := 11) rfl rfl ?_
  refine G.iloadN H4 D31_11 (J := 12) rfl rfl ?_
  refine G.iloadN H4 D31_12 (J := 13) rfl rfl ?_
  refine G.isub H4 D31_13 (J := 14) rfl ?_
  show Go p e below _ (T3.setTop (mkF m 14 _ [.int 0]))
  refine G.ifYes H4 D31_14 (by decide) (by decide) (J := 38) rfl ?_
  exact G.retV H4 rfl D31_38 (so := []) all0 (by decide) (by decide) ⟨rfl, rfl, rfl⟩
theorem m28_getBytes (V : Env1 Z a0 n0 uu0 uu1 uu2 uu3 uu4) (p0 : Addr) (p1 : Addr) (p2 : Addr) (c0 : ClassId) (c1 : ClassId) (h0 : Heap) (hO : Old Z n0 h0) (f0 : Exa Z h0 p0 "java/lang/String") (f1 : Fld Z h0 p0 "java/lang/String" "coder" "B" (.int 0)) (f2 : Fld Z h0 p0 "java/lang/String" "value" "[B" (.ref p2)) (f3 : Arv Z h0 p2 c0 .byte 0 [] (.int 0)) (f4 : Arv Z h0 p1 c1 .byte 16 [.int 116, .int 104, .int 101, .int 32, .int 104, .int 105, .int 110, .int 116, .int 32, .int 111, .int 102, .int 32, .int 107, .int 101, .int 121, .int 32] (.int 0)) (g5 : n0 ≤ p1) :
    Met Z a0 ELs True n0 l ⟨"java/lang/String", "getBytes", "([BIB)V"⟩ jdk_42_method_147_code 4 none ⟨1, 0, 0, 40⟩ #[.ref p0, .ref p1, .int 16, .int 0] h0 [p1] (fun v h so => (v = none ∧ so = [] ∧ Keep h0 h [p1] ∧ Arv Z h p1 c1 .byte 16 [.int 116, .int 104, .int 101, .int 32, .int 104, .int 105, .int 110, .int 116, .int 32, .int 111, .int 102, .int 32, .int 107, .int 101, .int 121, .int 32] (.int 0))) := by
  refine Met.of (EWl V) (by first | decide +kernel | rfl) hO (L0 := #[.val (.ref p0), .val (.ref p1), .val (.int 16), .val (.int 0)]) rfl ?_
  intro p e s m below meth c T H
  show Go p e below _ (T.setTop (mkF m 0 _ []))
  refine G.aloadN H D6_0 (J := 1) rfl rfl rfl ?_
  refine G.callV H (m18_coder V p0 h0 H.old f1) (wd118 V) (wd119 V) (nf_sel (wd121 V)) (wd121 V) (wd120 V) (wd2 V) (wd122 V) (by decide) f0 (argsL := []) (rest := []) (W := 0) rfl rfl (lenOf (pd_11) rfl) rfl rfl D6_1 (J := 4) rfl (by decide) (by decide) (by decide) (by decide) all0 ?_
  intro T1 h1_ v2 s3 H1 Q4
  obtain ⟨rfl, rfl, rfl⟩ := Q4
  show Go p e below _ (T1.setTop (mkF m 4 _ [.int 0]))
  refine G.iloadN H1 D6_4 (J := 5) rfl rfl ?_
  refine G.icmpNo H1 D6_5 (J := 8) rfl (by decide) ?_
  refine G.aloadN H1 D6_8 (J := 9) rfl rfl rfl ?_
  refine G.getF H1 (wd28 V) Via.refl f2 D6_9 (J := 12) rfl ?_
  intro T5 H6
  refine G.iconst H6 D6_12 (J := 13) rfl (v := 0) rfl ?_
  refine G.aloadN H6 D6_13 (J := 14) rfl rfl rfl ?_
  refine G.iloadN H6 D6_14 (J := 15) rfl rfl ?_
  refine G.iloadN H6 D6_15 (J := 16) rfl rfl ?_
  refine G.ishl H6 D6_16 (J := 17) rfl ?_
  show Go p e below _ (T5.setTop (mkF m 17 _ [.int 16, .ref p1, .int 0, .ref p2]))
  refine G.aloadN H6 D6_17 (J := 18) rfl rfl rfl ?_
  refine G.getF H6 (wd28 V) Via.refl f2 D6_18 (J := 21) rfl ?_
  intro T7 H8
  refine G.arrlen H8 f3 D6_21 (J := 22) rfl ?_
  refine G.copy H8 (wd146 V) (wd149 V) (wd147 V) (wd148 V) f3 f4 (us := []) (Or.inl ⟨rfl, rfl⟩) (by decide) (by decide) (by decide) (by decide) (by decide) rfl lB (vr := [.int 116, .int 104, .int 101, .int 32, .int 104, .int 105, .int 110, .int 116, .int 32, .int 111, .int 102, .int 32, .int 107, .int 101, .int 121, .int 32]) rfl g5 (Sf.mem (mG (i := 0) rfl)) (st := []) (W := 0) rfl rfl D6_22 (J := 25) rfl (by decide) (by decide) ?_
  intro T9 h9_ H9 K10 A11
  refine G.goto H9 D6_25 (by decide) (J := 43) rfl ?_
  have K12 : Keep h0 h9_ [p1] := (Keep.trans (Keep.refl h0 [p1]) K10 (allS (Or.inl (mG (i := 0) rfl)) all0))
  exact G.retV H9 rfl D6_43 (so := []) all0 (by decide) (by decide) ⟨rfl, rfl, K12, A11⟩
theorem m29_putStringAt (V : Env1 Z a0 n0 uu0 uu1 uu2 uu3 uu4) (p0 : Addr) (p1 : Addr) (p2 : Addr) (p3 : Addr) (c0 : ClassId) (c1 : ClassId) (h0 : Heap) (hO : Old Z n0 h0) (f0 : Exa Z h0 p0 "java/lang/StringBuilder") (f1 : Fld Z h0 p0 "java/lang/AbstractStringBuilder" "coder" "B" (.int 0)) (f2 : Exa Z h0 p1 "java/lang/String") (f3 : Fld Z h0 p1 "java/lang/String" "coder" "B" (.int 0)) (f4 : Fld Z h0 p0 "java/lang/AbstractStringBuilder" "value" "[B" (.ref p2)) (f5 : Fld Z h0 p1 "java/lang/String" "value" "[B" (.ref p3)) (f6 : Arv Z h0 p3 c0 .byte 0 [] (.int 0)) (f7 : Arv Z h0 p2 c1 .byte 16 [.int 116, .int 104, .int 101, .int 32, .int 104, .int 105, .int 110, .int 116, .int 32, .int 111, .int 102, .int 32, .int 107, .int 101, .int 121, .int 32] (.int 0)) (g8 : n0 ≤ p2) :
    Met Z a0 ELs True n0 l ⟨"java/lang/AbstractStringBuilder", "putStringAt", "(ILjava/lang/String;)V"⟩ jdk_68_method_73_code 3 none ⟨2, 0, 0, 55⟩ #[.ref p0, .int 16, .ref p1] h0 [p2] (fun v h so => (v = none ∧ so = [] ∧ Keep h0 h [p2] ∧ Arv Z h p2 c1 .byte 16 [.int 116, .int 104, .int 101, .int 32, .int 104, .int 105, .int 110, .int 116, .int 32, .int 111, .int 102, .int 32, .int 107, .int 101, .int 121, .int 32] (.int 0))) := by
  refine Met.of (EWl V) (by first | decide +kernel | rfl) hO (L0 := #[.val (.ref p0), .val (.int 16), .val (.ref p1)]) rfl ?_
  intro p e s m below meth c T H
  show Go p e below _ (T.setTop (mkF m 0 _ []))
  refine G.aloadN H D30_0 (J := 1) rfl rfl rfl ?_
  refine G.aloadN H D30_1 (J := 2) rfl rfl rfl ?_
  refine G.callV H (m21_inflateIfNeededFor V p0 p1 h0 H.old f1 f2 f3) (wd135 V) (decl_of (wd136 V) (wd139 V)) (nf_sel (wd138 V)) (wd138 V) (wd136 V) (wd94 V) (wd139 V) (by decide) f0 (argsL := [.ref p1]) (rest := []) (W := 0) rfl rfl (lenOf (pd_12) rfl) rfl rfl D30_2 (J := 5) rfl (by decide) (by decide) (by decide) (by decide) all0 ?_
  intro T1 h1_ v2 s3 H1 Q4
  obtain ⟨rfl, rfl, rfl⟩ := Q4
  show Go p e below _ (T1.setTop (mkF m 5 _ []))
  refine G.aloadN H1 D30_5 (J := 6) rfl rfl rfl ?_
  refine G.aloadN H1 D30_6 (J := 7) rfl rfl rfl ?_
  refine G.getF H1 (wd98 V) Via.refl f4 D30_7 (J := 10) rfl ?_
  intro T5 H6
  refine G.iloadN H6 D30_10 (J := 11) rfl rfl ?_
  refine G.aloadN H6 D30_11 (J := 12) rfl rfl rfl ?_
  refine G.getF H6 (wd100 V) Via.refl f1 D30_12 (J := 15) rfl ?_
  intro T7 H8
  refine G.callV H8 (m28_getBytes V p1 p2 p3 c0 c1 h0 H8.old f2 f3 f5 f6 f7 g8) (wd141 V) (wd142 V) (nf_sel (wd144 V)) (wd144 V) (wd143 V) (wd2 V) (wd145 V) (by decide) f2 (argsL := [.ref p2, .int 16, .int 0]) (rest := []) (W := 0) rfl rfl (lenOf (pd_13) rfl) rfl rfl D30_15 (J := 18) rfl (by decide) (by decide) (by decide) (by decide) (allS (mG (i := 0) rfl) all0) ?_
  intro T9 h9_ v10 s11 H9 Q12
  obtain ⟨rfl, rfl, K13, F14⟩ := Q12
  show Go p e below _ (T9.setTop (mkF m 18 _ []))
  have K15 : Keep h0 h9_ [p2] := (Keep.trans (Keep.refl h0 [p2]) K13 (allS (Or.inl (mG (i := 0) rfl)) all0))
  exact G.retV H9 rfl D30_18 (so := []) all0 (by decide) (by decide) ⟨rfl, rfl, K15, F14⟩
theorem m30_append (V : Env1 Z a0 n0 uu0 uu1 uu2 uu3 uu4) (p0 : Addr) (p1 : Addr) (p2 : Addr) (c0 : ClassId) (p3 : Addr) (c1 : ClassId) (h0 : Heap) (hO : Old Z n0 h0) (f0 : Exa Z h0 p1 "java/lang/String") (f1 : Fld Z h0 p1 "java/lang/String" "value" "[B" (.ref p2)) (f2 : Arv Z h0 p2 c0 .byte 0 [] (.int 0)) (f3 : Fld Z h0 p1 "java/lang/String" "coder" "B" (.int 0)) (f4 : Fld Z h0 p0 "java/lang/AbstractStringBuilder" "count" "I" (.int 16)) (f5 : Exa Z h0 p0 "java/lang/StringBuilder") (f6 : Fld Z h0 p0 "java/lang/AbstractStringBuilder" "value" "[B" (.ref p3)) (f7 : Arv Z h0 p3 c1 .byte 16 [.int 116, .int 104, .int 101, .int 32, .int 104, .int 105, .int 110, .int 116, .int 32, .int 111, .int 102, .int 32, .int 107, .int 101, .int 121, .int 32] (.int 0)) (f8 : Fld Z h0 p0 "java/lang/AbstractStringBuilder" "coder" "B" (.int 0)) (g9 : n0 ≤ p3) (g10 : n0 ≤ p0) :
    Met Z a0 ELs True n0 l ⟨"java/lang/AbstractStringBuilder", "append", "(Ljava/lang/String;)Ljava/lang/AbstractStringBuilder;"⟩ jdk_68_method_22_code 3 (some (.object "java/lang/AbstractStringBuilder")) ⟨3, 0, 0, 69⟩ #[.ref p0, .ref p1] h0 [p3] (fun v h so => (v = some (.ref p0) ∧ so = [] ∧ Keep h0 h [p3, p0] ∧ (∀ (O n d : String) (w : Value), Fld Z h0 p0 O n d w → RoadKit.slotOf Z O n d ≠ RoadKit.slotOf Z "java/lang/AbstractStringBuilder" "count" "I" → Fld Z h p0 O n d w) ∧ Arv Z h p3 c1 .byte 16 [.int 116, .int 104, .int 101, .int 32, .int 104, .int 105, .int 110, .int 116, .int 32, .int 111, .int 102, .int 32, .int 107, .int 101, .int 121, .int 32] (.int 0) ∧ Fld Z h p0 "java/lang/AbstractStringBuilder" "count" "I" (.int 16) ∧ Exa Z h p0 "java/lang/StringBuilder" ∧ Fld Z h p0 "java/lang/AbstractStringBuilder" "value" "[B" (.ref p3) ∧ Fld Z h p0 "java/lang/AbstractStringBuilder" "coder" "B" (.int 0))) := by
  refine Met.of (EWl V) (by first | decide +kernel | rfl) hO (L0 := #[.val (.ref p0), .val (.ref p1), .unset]) rfl ?_
  intro p e s m below meth c T H
  show Go p e below _ (T.setTop (mkF m 0 _ []))
  refine G.aloadN H D24_0 (J := 1) rfl rfl rfl ?_
  refine G.ifnonnullYes H D24_1 (by decide) (J := 9) rfl ?_
  refine G.aloadN H D24_9 (J := 10) rfl rfl rfl ?_
  refine G.callV H (m26_length V p1 p2 c0 h0 H.old f1 f2 f0 f3) (wd113 V) (wd114 V) (nf_sel (wd116 V)) (wd116 V) (wd115 V) (wd2 V) (wd117 V) (by decide) f0 (argsL := []) (rest := []) (W := 0) rfl rfl (lenOf (pd_7) rfl) rfl rfl D24_10 (J := 13) rfl (by decide) (by decide) (by decide) (by decide) all0 ?_
  intro T1 h1_ v2 s3 H1 Q4
  obtain ⟨rfl, rfl, rfl⟩ := Q4
  show Go p e below _ (T1.setTop (mkF m 13 _ [.int 0]))
  refine G.istoreN H1 (L' := #[.val (.ref p0), .val (.ref p1), .val (.int 0)]) D24_13 (J := 14) rfl rfl ?_
  refine G.aloadN H1 D24_14 (J := 15) rfl rfl rfl ?_
  refine G.aloadN H1 D24_15 (J := 16) rfl rfl rfl ?_
  refine G.getF H1 (wd123 V) Via.refl f4 D24_16 (J := 19) rfl ?_
  intro T5 H6
  refine G.iloadN H6 D24_19 (J := 20) rfl rfl ?_
  refine G.iadd H6 D24_20 (J := 21) rfl ?_
  show Go p e below _ (T5.setTop (mkF m 21 _ [.int 16, .ref p0]))
  refine G.callV H6 (m27_ensureCapacityInternal V p0 p3 c1 h0 H6.old f6 f7 f8) (wd125 V) (decl_of (wd126 V) (wd129 V)) (nf_sel (wd128 V)) (wd128 V) (wd126 V) (wd94 V) (wd129 V) (by decide) f5 (argsL := [.int 16]) (rest := []) (W := 0) rfl rfl (lenOf (pd_10) rfl) rfl rfl D24_21 (J := 24) rfl (by decide) (by decide) (by decide) (by decide) all0 ?_
  intro T7 h7_ v8 s9 H7 Q10
  obtain ⟨rfl, rfl, rfl⟩ := Q10
  show Go p e below _ (T7.setTop (mkF m 24 _ []))
  refine G.aloadN H7 D24_24 (J := 25) rfl rfl rfl ?_
  refine G.aloadN H7 D24_25 (J := 26) rfl rfl rfl ?_
  refine G.getF H7 (wd123 V) Via.refl f4 D24_26 (J := 29) rfl ?_
  intro T11 H12
  refine G.aloadN H12 D24_29 (J := 30) rfl rfl rfl ?_
  refine G.callV H12 (m29_putStringAt V p0 p1 p3 p2 c0 c1 h0 H12.old f5 f8 f0 f3 f6 f1 f2 f7 g9) (wd130 V) (decl_of (wd131 V) (wd134 V)) (nf_sel (wd133 V)) (wd133 V) (wd131 V) (wd94 V) (wd134 V) (by decide) f5 (argsL := [.int 16, .ref p1]) (rest := []) (W := 0) rfl rfl (lenOf (pd_14) rfl) rfl rfl D24_30 (J := 33) rfl (by decide) (by decide) (by decide) (by decide) (allS (mG (i := 0) rfl) all0) ?_
  intro T13 h13_ v14 s15 H13 Q16
  obtain ⟨rfl, rfl, K17, F18⟩ := Q16
  show Go p e below _ (T13.setTop (mkF m 33 _ []))
  refine G.aloadN H13 D24_33 (J := 34) rfl rfl rfl ?_
  refine G.dup H13 D24_34 (J := 35) rfl rfl ?_
  have N19 : p0 ≠ p3 := Exa.neArv (Exa.keep f5 K17) F18 (wd85 V)
  have F20 := (Fld.keep f4 K17 (ninS N19 nin0))
  refine G.getF H13 (wd123 V) Via.refl F20 D24_35 (J := 38) rfl ?_
  intro T21 H22
  refine G.iloadN H22 D24_38 (J := 39) rfl rfl ?_
  refine G.iadd H22 D24_39 (J := 40) rfl ?_
  show Go p e below _ (T21.setTop (mkF m 40 _ [.int 16, .ref p0]))
  have F23 := (Exa.keep f5 K17)
  refine G.putF H22 (wd123 V) Via.refl F20 F23 (Or.inl (wd124 V)) (wd85 V) (ty := .int) (by decide) rfl rfl g10 (Sf.exa F23) D24_40 (J := 43) rfl ?_
  intro T24 h24_ H24 W25
  have F26 : Fld Z h24_ p0 "java/lang/AbstractStringBuilder" "count" "I" (.int 16) := Fld.same W25 F20
  refine G.aloadN H24 D24_43 (J := 44) rfl rfl rfl ?_
  have F27 := (Arv.other F18 W25 (Ne.symm N19))
  have F28 := (Exa.wr W25 F23)
  have F29 := (Fld.other W25 (Fld.keep f6 K17 (ninS N19 nin0)) (Or.inr (slot_ne (Or.inl (wd99 V)) (Or.inl (wd124 V)) (by decide) (t := (.array .byte)) (t' := .int) (by decide) (by decide))))
  have F30 := (Fld.other W25 (Fld.keep f8 K17 (ninS N19 nin0)) (Or.inr (slot_ne (Or.inl (wd101 V)) (Or.inl (wd124 V)) (by decide) (t := .byte) (t' := .int) (by decide) (by decide))))
  have K31 : Keep h0 h24_ [p3, p0] := (Keep.wr (Keep.trans (Keep.refl h0 [p3, p0]) K17 (allS (Or.inl (mG (i := 0) rfl)) all0)) W25 (Or.inl (mG (i := 1) rfl)))
  exact G.retA H24 (t := (.object "java/lang/AbstractStringBuilder")) rfl rfl rfl D24_44 (so := []) all0 (by decide) (by decide) ⟨rfl, rfl, K31, (fun O n d w F hn0 => (Fld.other W25 (Fld.keep F K17 (ninS N19 nin0)) (Or.inr hn0))), F27, F26, F28, F29, F30⟩
theorem m31_append (V : Env1 Z a0 n0 uu0 uu1 uu2 uu3 uu4) (p0 : Addr) (p1 : Addr) (p2 : Addr) (c0 : ClassId) (p3 : Addr) (c1 : ClassId) (h0 : Heap) (hO : Old Z n0 h0) (f0 : Exa Z h0 p1 "java/lang/String") (f1 : Fld Z h0 p1 "java/lang/String" "value" "[B" (.ref p2)) (f2 : Arv Z h0 p2 c0 .byte 0 [] (.int 0)) (f3 : Fld Z h0 p1 "java/lang/String" "coder" "B" (.int 0)) (f4 : Fld Z h0 p0 "java/lang/AbstractStringBuilder" "count" "I" (.int 16)) (f5 : Exa Z h0 p0 "java/lang/StringBuilder") (f6 : Fld Z h0 p0 "java/lang/AbstractStringBuilder" "value" "[B" (.ref p3)) (f7 : Arv Z h0 p3 c1 .byte 16 [.int 116, .int 104, .int 101, .int 32, .int 104, .int 105, .int 110, .int 116, .int 32, .int 111, .int 102, .int 32, .int 107, .int 101, .int 121, .int 32] (.int 0)) (f8 : Fld Z h0 p0 "java/lang/AbstractStringBuilder" "coder" "B" (.int 0)) (g9 : n0 ≤ p3) (g10 : n0 ≤ p0) :
    Met Z a0 ELs True n0 l ⟨"java/lang/StringBuilder", "append", "(Ljava/lang/String;)Ljava/lang/StringBuilder;"⟩ jdk_67_method_7_code 2 (some (.object "java/lang/StringBuilder")) ⟨4, 0, 0, 83⟩ #[.ref p0, .ref p1] h0 [p3] (fun v h so => (v = some (.ref p0) ∧ so = [] ∧ Keep h0 h [p3, p0] ∧ (∀ (O n d : String) (w : Value), Fld Z h0 p0 O n d w → RoadKit.slotOf Z O n d ≠ RoadKit.slotOf Z "java/lang/AbstractStringBuilder" "count" "I" → Fld Z h p0 O n d w) ∧ Arv Z h p3 c1 .byte 16 [.int 116, .int 104, .int 101, .int 32, .int 104, .int 105, .int 110, .int 116, .int 32, .int 111, .int 102, .int 32, .int 107, .int 101, .int 121, .int 32] (.int 0) ∧ Fld Z h p0 "java/lang/AbstractStringBuilder" "count" "I" (.int 16) ∧ Exa Z h p0 "java/lang/StringBuilder" ∧ Fld Z h p0 "java/lang/AbstractStringBuilder" "value" "[B" (.ref p3) ∧ Fld Z h p0 "java/lang/AbstractStringBuilder" "coder" "B" (.int 0))) := by
  refine Met.of (EWl V) (by first | decide +kernel | rfl) hO (L0 := #[.val (.ref p0), .val (.ref p1)]) rfl ?_
  intro p e s m below meth c T H
  show Go p e below _ (T.setTop (mkF m 0 _ []))
  refine G.aloadN H D21_0 (J := 1) rfl rfl rfl ?_
  refine G.aloadN H D21_1 (J := 2) rfl rfl rfl ?_
  refine G.callSup H (m30_append V p0 p1 p2 c0 p3 c1 h0 H.old f0 f1 f2 f3 f4 f5 f6 f7 f8 g9 g10) (wd108 V) (same_of (wd111 V) (wd128 V) rfl (by decide)) (wd109 V) (wd110 V) (by decide) (wd94 V) (wd112 V) (a := p0) (Ins.self f5) (argsL := [.ref p1]) (rest := []) (W := 0) rfl rfl (lenOf (pd_15) rfl) rfl rfl D21_2 (J := 5) rfl (by decide) (by decide) (by decide) (by decide) (allS (mG (i := 0) rfl) all0) ?_
  intro T1 h1_ v2 s3 H1 Q4
  obtain ⟨rfl, rfl, K5, U6, F7, F8, F9, F10, F11⟩ := Q4
  show Go p e below _ (T1.setTop (mkF m 5 _ [.ref p0]))
  refine G.pop H1 D21_5 (J := 6) rfl rfl ?_
  refine G.aloadN H1 D21_6 (J := 7) rfl rfl rfl ?_
  have K12 : Keep h0 h1_ [p3, p0] := (Keep.trans (Keep.refl h0 [p3, p0]) K5 (allS (Or.inl (mG (i := 0) rfl)) (allS (Or.inl (mG (i := 1) rfl)) all0)))
  exact G.retA H1 (t := (.object "java/lang/StringBuilder")) rfl rfl rfl D21_7 (so := []) all0 (by decide) (by decide) ⟨rfl, rfl, K12, (fun O n d w F hn0 => (U6 O n d w F hn0)), F7, F8, F9, F10, F11⟩
theorem m32_getValue (V : Env1 Z a0 n0 uu0 uu1 uu2 uu3 uu4) (p0 : Addr) (p1 : Addr) (h0 : Heap) (hO : Old Z n0 h0) (f0 : Fld Z h0 p0 "java/lang/AbstractStringBuilder" "value" "[B" (.ref p1)) :
    Met Z a0 ELs True n0 l ⟨"java/lang/AbstractStringBuilder", "getValue", "()[B"⟩ jdk_68_method_64_code 1 (some (.array .byte)) ⟨0, 0, 0, 0⟩ #[.ref p0] h0 [] (fun v h so => (v = some (.ref p1) ∧ so = [] ∧ h0 = h)) := by
  refine Met.of (EWl V) (by first | decide +kernel | rfl) hO (L0 := #[.val (.ref p0)]) rfl ?_
  intro p e s m below meth c T H
  show Go p e below _ (T.setTop (mkF m 0 _ []))
  refine G.aloadN H D26_0 (J := 1) rfl rfl rfl ?_
  refine G.getF H (wd98 V) Via.refl f0 D26_1 (J := 4) rfl ?_
  intro T1 H2
  exact G.retA H2 (t := (.array .byte)) rfl rfl rfl D26_4 (so := []) all0 (by decide) (by decide) ⟨rfl, rfl, rfl⟩
theorem m33_length (V : Env1 Z a0 n0 uu0 uu1 uu2 uu3 uu4) (p0 : Addr) (h0 : Heap) (hO : Old Z n0 h0) (f0 : Fld Z h0 p0 "java/lang/AbstractStringBuilder" "count" "I" (.int 16)) :
    Met Z a0 ELs True n0 l ⟨"java/lang/AbstractStringBuilder", "length", "()I"⟩ jdk_68_method_6_code 1 (some .int) ⟨0, 0, 0, 0⟩ #[.ref p0] h0 [] (fun v h so => (v = some (.int 16) ∧ so = [] ∧ h0 = h)) := by
  refine Met.of (EWl V) (by first | decide +kernel | rfl) hO (L0 := #[.val (.ref p0)]) rfl ?_
  intro p e s m below meth c T H
  show Go p e below _ (T.setTop (mkF m 0 _ []))
  refine G.aloadN H D28_0 (J := 1) rfl rfl rfl ?_
  refine G.getF H (wd123 V) Via.refl f0 D28_1 (J := 4) rfl ?_
  intro T1 H2
  exact G.retI H2 rfl D28_4 (so := []) all0 (by decide) (by decide) ⟨rfl, rfl, rfl⟩
theorem m34_length (V : Env1 Z a0 n0 uu0 uu1 uu2 uu3 uu4) (p0 : Addr) (h0 : Heap) (hO : Old Z n0 h0) (f0 : Fld Z h0 p0 "java/lang/AbstractStringBuilder" "count" "I" (.int 16)) (f1 : Exa Z h0 p0 "java/lang/StringBuilder") :
    Met Z a0 ELs True n0 l ⟨"java/lang/StringBuilder", "length", "()I"⟩ jdk_67_method_93_code 1 (some .int) ⟨1, 0, 0, 12⟩ #[.ref p0] h0 [] (fun v h so => (v = some (.int 16) ∧ so = [] ∧ h0 = h)) := by
  refine Met.of (EWl V) (by first | decide +kernel | rfl) hO (L0 := #[.val (.ref p0)]) rfl ?_
  intro p e s m below meth c T H
  show Go p e below _ (T.setTop (mkF m 0 _ []))
  refine G.aloadN H D22_0 (J := 1) rfl rfl rfl ?_
  refine G.callSup H (m33_length V p0 h0 H.old f0) (wd196 V) (same_of (wd191 V) (wd128 V) rfl (by decide)) (wd192 V) (wd110 V) (by decide) (wd94 V) (wd197 V) (a := p0) (Ins.self f1) (argsL := []) (rest := []) (W := 0) rfl rfl (lenOf (pd_7) rfl) rfl rfl D22_1 (J := 4) rfl (by decide) (by decide) (by decide) (by decide) all0 ?_
  intro T1 h1_ v2 s3 H1 Q4
  obtain ⟨rfl, rfl, rfl⟩ := Q4
  show Go p e below _ (T1.setTop (mkF m 4 _ [.int 16]))
  exact G.retI H1 rfl D22_4 (so := []) all0 (by decide) (by decide) ⟨rfl, rfl, rfl⟩
theorem m35_isLatin1 (V : Env1 Z a0 n0 uu0 uu1 uu2 uu3 uu4) (p0 : Addr) (h0 : Heap) (hO : Old Z n0 h0) (f0 : Fld Z h0 p0 "java/lang/AbstractStringBuilder" "coder" "B" (.int 0)) :
    Met Z a0 ELs True n0 l ⟨"java/lang/AbstractStringBuilder", "isLatin1", "()Z"⟩ jdk_68_method_68_code 1 (some .boolean) ⟨0, 0, 0, 0⟩ #[.ref p0] h0 [] (fun v h so => (v = some (.int 1) ∧ so = [] ∧ h0 = h)) := by
  refine Met.of (EWl V) (by first | decide +kernel | rfl) hO (L0 := #[.val (.ref p0)]) rfl ?_
  intro p e s m below meth c T H
  show Go p e below _ (T.setTop (mkF m 0 _ []))
  refine G.getS H (wd97 V) Via.refl (Sta.ext H.old.2 (hv9 V)) D27_0 (J := 3) rfl ?_
  intro T1 H2
  refine G.ifNo H2 D27_3 (J := 6) rfl (XT.i0_eq_f (hv10 V)) ?_
  refine G.aloadN H2 D27_6 (J := 7) rfl rfl rfl ?_
  refine G.getF H2 (wd100 V) Via.refl f0 D27_7 (J := 10) rfl ?_
  intro T3 H4
  refine G.ifNo H4 D27_10 (J := 13) rfl (by decide) ?_
  refine G.iconst H4 D27_13 (J := 14) rfl (v := 1) rfl ?_
  refine G.goto H4 D27_14 (by decide) (J := 18) rfl ?_
  exact G.retN H4 (t := .boolean) rfl (by decide) D27_18 (so := []) all0 (by decide) (by decide) ⟨rfl, rfl, rfl⟩
theorem m36_copyOfRange (V : Env1 Z a0 n0 uu0 uu1 uu2 uu3 uu4) (p0 : Addr) (c0 : ClassId) (h0 : Heap) (hO : Old Z n0 h0) (f0 : Arv Z h0 p0 c0 .byte 16 [.int 116, .int 104, .int 101, .int 32, .int 104, .int 105, .int 110, .int 116, .int 32, .int 111, .int 102, .int 32, .int 107, .int 101, .int 121, .int 32] (.int 0)) (f1 : Exa Z h0 p0 "[B") :
    Met Z a0 ELs True n0 l ⟨"java/util/Arrays", "copyOfRange", "([BII)[B"⟩ jdk_65_method_132_code 3 (some (.array .byte)) ⟨1, 1, 16, 14⟩ #[.ref p0, .int 0, .int 16] h0 [] (fun v h so => (∃ a2 : Addr, v = some (.ref a2) ∧ so = [a2] ∧ Keep h0 h [] ∧ h0.size ≤ a2 ∧ Arv Z h a2 c0 .byte 16 [.int 116, .int 104, .int 101, .int 32, .int 104, .int 105, .int 110, .int 116, .int 32, .int 111, .int 102, .int 32, .int 107, .int 101, .int 121, .int 32] (.int 0) ∧ Exa Z h a2 "[B")) := by
  refine Met.of (EWl V) (by first | decide +kernel | rfl) hO (L0 := #[.val (.ref p0), .val (.int 0), .val (.int 16)]) rfl ?_
  intro p e s m below meth c T H
  show Go p e below _ (T.setTop (mkF m 0 _ []))
  refine G.iloadN H D17_0 (J := 1) rfl rfl ?_
  refine G.ifNo H D17_1 (J := 4) rfl (by decide) ?_
  refine G.iloadN H D17_4 (J := 5) rfl rfl ?_
  refine G.aloadN H D17_5 (J := 6) rfl rfl rfl ?_
  refine G.arrlen H f0 D17_6 (J := 7) rfl ?_
  refine G.icmpYes H D17_7 (by decide) (by decide) (J := 17) rfl ?_
  refine G.aloadN H D17_17 (J := 18) rfl rfl rfl ?_
  refine G.clone H (wd237 V) (wd238 V) (wd242 V) (wd240 V) (wd241 V) (wd243 V) f0 f1 (st := []) (W := 0) (cap := 16) rfl rfl D17_18 (J := 21) rfl (by decide) (by decide) (by decide) (by decide) (by decide) ?_
  intro T1 h1_ a2 ga2 H1 E3 A4 X5
  have na2 := H.nle ga2
  refine G.castY H1 (wd244 V) (Ins.self X5) D17_21 (J := 24) rfl ?_
  intro T6 H7
  have K8 : Keep h0 h1_ [] := (Keep.ext (Keep.refl h0 []) E3)
  exact G.retA H7 (t := (.array .byte)) rfl rfl rfl D17_24 (so := [a2]) (allS (mG (i := 0) rfl) all0) (by decide) (by decide) ⟨a2, rfl, rfl, K8, (Nat.le_of_eq ga2.symm), A4, X5⟩
theorem m37_init (V : Env1 Z a0 n0 uu0 uu1 uu2 uu3 uu4) (p0 : Addr) (p1 : Addr) (p2 : Addr) (c0 : ClassId) (h0 : Heap) (hO : Old Z n0 h0) (f0 : Exa Z h0 p1 "java/lang/StringBuilder") (f1 : Fld Z h0 p1 "java/lang/AbstractStringBuilder" "value" "[B" (.ref p2)) (f2 : Fld Z h0 p1 "java/lang/AbstractStringBuilder" "count" "I" (.int 16)) (f3 : Fld Z h0 p1 "java/lang/AbstractStringBuilder" "coder" "B" (.int 0)) (f4 : Exa Z h0 p0 "java/lang/String") (f5 : Fld Z h0 p0 "java/lang/String" "coder" "B" (.int 0)) (g6 : n0 ≤ p0) (f7 : Arv Z h0 p2 c0 .byte 16 [.int 116, .int 104, .int 101, .int 32, .int 104, .int 105, .int 110, .int 116, .int 32, .int 111, .int 102, .int 32, .int 107, .int 101, .int 121, .int 32] (.int 0)) (f8 : Exa Z h0 p2 "[B") (f9 : Fld Z h0 p0 "java/lang/String" "value" "[B" .null) :
    Met Z a0 ELs True n0 l ⟨"java/lang/String", "<init>", "(Ljava/lang/AbstractStringBuilder;Ljava/lang/Void;)V"⟩ jdk_42_method_150_code 5 none ⟨2, 1, 16, 29⟩ #[.ref p0, .ref p1, .null] h0 [p0] (fun v h so => (∃ a25 : Addr, v = none ∧ so = [a25] ∧ Keep h0 h [p0] ∧ h0.size ≤ a25 ∧ (∀ (O n d : String) (w : Value), Fld Z h0 p0 O n d w → RoadKit.slotOf Z O n d ≠ RoadKit.slotOf Z "java/lang/String" "coder" "B" → RoadKit.slotOf Z O n d ≠ RoadKit.slotOf Z "java/lang/String" "value" "[B" → Fld Z h p0 O n d w) ∧ Exa Z h p0 "java/lang/String" ∧ Fld Z h p0 "java/lang/String" "coder" "B" (.int 0) ∧ Fld Z h p0 "java/lang/String" "value" "[B" (.ref a25) ∧ Arv Z h a25 c0 .byte 16 [.int 116, .int 104, .int 101, .int 32, .int 104, .int 105, .int 110, .int 116, .int 32, .int 111, .int 102, .int 32, .int 107, .int 101, .int 121, .int 32] (.int 0) ∧ Exa Z h a25 "[B")) := by
  refine Met.of (EWl V) (by first | decide +kernel | rfl) hO (L0 := #[.val (.ref p0), .val (.ref p1), .val .null, .unset, .unset]) rfl ?_
  intro p e s m below meth c T H
  show Go p e below _ (T.setTop (mkF m 0 _ []))
  refine G.aloadN H D7_0 (J := 1) rfl rfl rfl ?_
  refine G.initO H (wd25 V) (wd26 V) (wd27 V) rfl D7_1 (J := 4) rfl (by decide) (W := 0) rfl (by decide) ?_
  intro T1 H2
  refine G.aloadN H2 D7_4 (J := 5) rfl rfl rfl ?_
  refine G.callV H2 (m32_getValue V p1 p2 h0 H2.old f1) (wd185 V) (wd186 V) (nf_sel (wd188 V)) (wd188 V) (wd187 V) (wd94 V) (wd189 V) (by decide) f0 (argsL := []) (rest := []) (W := 0) rfl rfl (lenOf (pd_17) rfl) rfl rfl D7_5 (J := 8) rfl (by decide) (by decide) (by decide) (by decide) all0 ?_
  intro T3 h3_ v4 s5 H3 Q6
  obtain ⟨rfl, rfl, rfl⟩ := Q6
  show Go p e below _ (T3.setTop (mkF m 8 _ [.ref p2]))
  refine G.astoreN H3 (L' := #[.val (.ref p0), .val (.ref p1), .val .null, .val (.ref p2), .unset]) D7_8 (J := 9) rfl rfl rfl ?_
  refine G.aloadN H3 D7_9 (J := 10) rfl rfl rfl ?_
  refine G.callV H3 (m34_length V p1 h0 H3.old f2 f0) (wd190 V) (wd191 V) (nf_sib (wd128 V) rfl) (wd193 V) (wd194 V) (wd86 V) (wd195 V) (by decide) f0 (argsL := []) (rest := []) (W := 0) rfl rfl (lenOf (pd_7) rfl) rfl rfl D7_10 (J := 13) rfl (by decide) (by decide) (by decide) (by decide) all0 ?_
  intro T7 h7_ v8 s9 H7 Q10
  obtain ⟨rfl, rfl, rfl⟩ := Q10
  show Go p e below _ (T7.setTop (mkF m 13 _ [.int 16]))
  refine G.istore H7 (L' := #[.val (.ref p0), .val (.ref p1), .val .null, .val (.ref p2), .val (.int 16)]) D7_13 (J := 15) rfl rfl ?_
  refine G.aloadN H7 D7_15 (J := 16) rfl rfl rfl ?_
  refine G.callV H7 (m35_isLatin1 V p1 h0 H7.old f3) (wd198 V) (wd199 V) (nf_sel (wd201 V)) (wd201 V) (wd200 V) (wd94 V) (wd202 V) (by decide) f0 (argsL := []) (rest := []) (W := 0) rfl rfl (lenOf (pd_18) rfl) rfl rfl D7_16 (J := 19) rfl (by decide) (by decide) (by decide) (by decide) all0 ?_
  intro T11 h11_ v12 s13 H11 Q14
  obtain ⟨rfl, rfl, rfl⟩ := Q14
  show Go p e below _ (T11.setTop (mkF m 19 _ [.int 1]))
  refine G.ifNo H11 D7_19 (J := 22) rfl (by decide) ?_
  refine G.aloadN H11 D7_22 (J := 23) rfl rfl rfl ?_
  refine G.iconst H11 D7_23 (J := 24) rfl (v := 0) rfl ?_
  refine G.putF H11 (wd29 V) Via.refl f5 f4 (Or.inr ⟨(wd6 V), rfl, rfl⟩) (wd3 V) (ty := .byte) (by decide) rfl rfl g6 (Sf.mem (mG (i := 0) rfl)) D7_24 (J := 27) rfl ?_
  intro T15 h15_ H15 W16
  have F17 : Fld Z h15_ p0 "java/lang/String" "coder" "B" (.int 0) := Fld.same W16 f5
  refine G.aloadN H15 D7_27 (J := 28) rfl rfl rfl ?_
  refine G.aloadN H15 D7_28 (J := 29) rfl rfl rfl ?_
  refine G.iconst H15 D7_29 (J := 30) rfl (v := 0) rfl ?_
  refine G.iload H15 D7_30 (J := 32) rfl rfl ?_
  have N18 : p2 ≠ p0 := Ne.symm (Exa.neArv f4 f7 (wd3 V))
  have F19 := (Arv.other f7 W16 N18)
  have F20 := (Exa.wr W16 f8)
  refine G.callS H15 (m36_copyOfRange V p2 c0 h15_ H15.old F19 F20) (wd203 V) (wd204 V) (wd167 V) (wd205 V) (by decide) (argsL := [.ref p2, .int 0, .int 16]) (rest := [.ref p0]) (W := 1) rfl rfl (lenOf (pd_19) rfl) rfl rfl D7_32 (J := 35) rfl (by decide) (by decide) (by decide) (by decide) all0 ?_
  intro T21 h21_ v22 s23 H21 Q24
  obtain ⟨a25, rfl, rfl, K26, g27, F28, F29⟩ := Q24
  have na25 : n0 ≤ a25 := Nat.le_trans H15.le g27
  show Go p e below _ (T21.setTop (mkF m 35 _ [.ref a25, .ref p0]))
  have K30 : Keep h0 h21_ [p0] := (Keep.trans (Keep.wr (Keep.refl h0 [p0]) W16 (Or.inl (mG (i := 0) rfl))) K26 all0)
  have F31 := (Exa.keep f4 K30)
  have F32 := (Fld.keep (Fld.other W16 f9 (Or.inr (slot_ne (Or.inr (wd5 V)) (Or.inr (wd6 V)) (by decide) (t := (.array .byte)) (t' := .byte) (by decide) (by decide)))) K26 nin0)
  refine G.putF H21 (wd28 V) Via.refl F32 F31 (Or.inr ⟨(wd5 V), rfl, rfl⟩) (wd3 V) (ty := (.array .byte)) (by decide) rfl rfl g6 (Sf.mem (mG (i := 1) rfl)) D7_35 (J := 38) rfl ?_
  intro T33 h33_ H33 W34
  have F35 : Fld Z h33_ p0 "java/lang/String" "value" "[B" (.ref a25) := Fld.same W34 F32
  refine G.goto H33 D7_38 (by decide) (J := 97) rfl ?_
  have F36 := (Exa.wr W34 F31)
  have F37 := (Fld.other W34 (Fld.keep F17 K26 nin0) (Or.inr (slot_ne (Or.inr (wd6 V)) (Or.inr (wd5 V)) (by decide) (t := .byte) (t' := (.array .byte)) (by decide) (by decide))))
  have N38 : a25 ≠ p0 := Ne.symm (Exa.neArv (Exa.keep (Exa.wr W16 f4) K26) F28 (wd3 V))
  have F39 := (Arv.other F28 W34 N38)
  have F40 := (Exa.wr W34 F29)
  have K41 : Keep h0 h33_ [p0] := (Keep.wr (Keep.trans (Keep.wr (Keep.refl h0 [p0]) W16 (Or.inl (mG (i := 0) rfl))) K26 all0) W34 (Or.inl (mG (i := 0) rfl)))
  have K42 : Keep h0 h15_ [p0] := (Keep.wr (Keep.refl h0 [p0]) W16 (Or.inl (mG (i := 0) rfl)))
  exact G.retV H33 rfl D7_97 (so := [a25]) (allS (mG (i := 0) rfl) all0) (by decide) (by decide) ⟨a25, rfl, rfl, K41, (Nat.le_trans K42.1 g27), (fun O n d w F hn0 hn1 => (Fld.other W34 (Fld.keep (Fld.other W16 F (Or.inr hn0)) K26 nin0) (Or.inr hn1))), F36, F37, F35, F39, F40⟩
theorem m38_init (V : Env1 Z a0 n0 uu0 uu1 uu2 uu3 uu4) (p0 : Addr) (p1 : Addr) (p2 : Addr) (c0 : ClassId) (h0 : Heap) (hO : Old Z n0 h0) (f0 : Exa Z h0 p1 "java/lang/StringBuilder") (f1 : Fld Z h0 p1 "java/lang/AbstractStringBuilder" "value" "[B" (.ref p2)) (f2 : Fld Z h0 p1 "java/lang/AbstractStringBuilder" "count" "I" (.int 16)) (f3 : Fld Z h0 p1 "java/lang/AbstractStringBuilder" "coder" "B" (.int 0)) (f4 : Exa Z h0 p0 "java/lang/String") (f5 : Fld Z h0 p0 "java/lang/String" "coder" "B" (.int 0)) (g6 : n0 ≤ p0) (f7 : Arv Z h0 p2 c0 .byte 16 [.int 116, .int 104, .int 101, .int 32, .int 104, .int 105, .int 110, .int 116, .int 32, .int 111, .int 102, .int 32, .int 107, .int 101, .int 121, .int 32] (.int 0)) (f8 : Exa Z h0 p2 "[B") (f9 : Fld Z h0 p0 "java/lang/String" "value" "[B" .null) :
    Met Z a0 ELs True n0 l ⟨"java/lang/String", "<init>", "(Ljava/lang/StringBuilder;)V"⟩ jdk_42_method_53_code 2 none ⟨3, 1, 16, 45⟩ #[.ref p0, .ref p1] h0 [p0] (fun v h so => (∃ a5 : Addr, v = none ∧ so = [a5] ∧ Keep h0 h [p0] ∧ h0.size ≤ a5 ∧ (∀ (O n d : String) (w : Value), Fld Z h0 p0 O n d w → RoadKit.slotOf Z O n d ≠ RoadKit.slotOf Z "java/lang/String" "coder" "B" → RoadKit.slotOf Z O n d ≠ RoadKit.slotOf Z "java/lang/String" "value" "[B" → Fld Z h p0 O n d w) ∧ Exa Z h p0 "java/lang/String" ∧ Fld Z h p0 "java/lang/String" "coder" "B" (.int 0) ∧ Fld Z h p0 "java/lang/String" "value" "[B" (.ref a5) ∧ Arv Z h a5 c0 .byte 16 [.int 116, .int 104, .int 101, .int 32, .int 104, .int 105, .int 110, .int 116, .int 32, .int 111, .int 102, .int 32, .int 107, .int 101, .int 121, .int 32] (.int 0) ∧ Exa Z h a5 "[B")) := by
  refine Met.of (EWl V) (by first | decide +kernel | rfl) hO (L0 := #[.val (.ref p0), .val (.ref p1)]) rfl ?_
  intro p e s m below meth c T H
  show Go p e below _ (T.setTop (mkF m 0 _ []))
  refine G.aloadN H D10_0 (J := 1) rfl rfl rfl ?_
  refine G.aloadN H D10_1 (J := 2) rfl rfl rfl ?_
  refine G.aconstNull H D10_2 (J := 3) rfl ?_
  refine G.callI H (m37_init V p0 p1 p2 c0 h0 H.old f0 f1 f2 f3 f4 f5 g6 f7 f8 f9) rfl (wd182 V) (wd183 V) (wd2 V) (wd184 V) (by decide) (a := p0) (argsL := [.ref p1, .null]) (rest := []) (W := 0) rfl rfl (lenOf (pd_20) rfl) rfl rfl D10_3 (J := 6) rfl (by decide) (by decide) (by decide) (by decide) (allS (mG (i := 0) rfl) all0) ?_
  intro T1 h1_ v2 s3 H1 Q4
  obtain ⟨a5, rfl, rfl, K6, g7, U8, F9, F10, F11, F12, F13⟩ := Q4
  have na5 : n0 ≤ a5 := Nat.le_trans H.le g7
  show Go p e below _ (T1.setTop (mkF m 6 _ []))
  have K14 : Keep h0 h1_ [p0] := (Keep.trans (Keep.refl h0 [p0]) K6 (allS (Or.inl (mG (i := 0) rfl)) all0))
  exact G.retV H1 rfl D10_6 (so := [a5]) (allS (mG (i := 0) rfl) all0) (by decide) (by decide) ⟨a5, rfl, rfl, K14, g7, (fun O n d w F hn0 hn1 => (U8 O n d w F hn0 hn1)), F9, F10, F11, F12, F13⟩
theorem m39_toString (V : Env1 Z a0 n0 uu0 uu1 uu2 uu3 uu4) (p0 : Addr) (p1 : Addr) (c0 : ClassId) (h0 : Heap) (hO : Old Z n0 h0) (f0 : Exa Z h0 p0 "java/lang/StringBuilder") (f1 : Fld Z h0 p0 "java/lang/AbstractStringBuilder" "value" "[B" (.ref p1)) (f2 : Fld Z h0 p0 "java/lang/AbstractStringBuilder" "count" "I" (.int 16)) (f3 : Fld Z h0 p0 "java/lang/AbstractStringBuilder" "coder" "B" (.int 0)) (f4 : Arv Z h0 p1 c0 .byte 16 [.int 116, .int 104, .int 101, .int 32, .int 104, .int 105, .int 110, .int 116, .int 32, .int 111, .int 102, .int 32, .int 107, .int 101, .int 121, .int 32] (.int 0)) (f5 : Exa Z h0 p1 "[B") :
    Met Z a0 ELs True n0 l ⟨"java/lang/StringBuilder", "toString", "()Ljava/lang/String;"⟩ jdk_67_method_42_code 1 (some (.object "java/lang/String")) ⟨4, 2, 20, 59⟩ #[.ref p0] h0 [] (fun v h so => (∃ a2 a18 : Addr, v = some (.ref a2) ∧ so = [a2, a18] ∧ Keep h0 h [] ∧ h0.size ≤ a2 ∧ a2 < a18 ∧ Str Z h a2 a18 c0 [116, 104, 101, 32, 104, 105, 110, 116, 32, 111, 102, 32, 107, 101, 121, 32] ∧ Fld Z h a2 "java/lang/String" "value" "[B" (.ref a18) ∧ Fld Z h a2 "java/lang/String" "coder" "B" (.int 0))) := by
  refine Met.of (EWl V) (by first | decide +kernel | rfl) hO (L0 := #[.val (.ref p0)]) rfl ?_
  intro p e s m below meth c T H
  show Go p e below _ (T.setTop (mkF m 0 _ []))
  refine G.new H (wd178 V) (wd3 V) (wd2 V) D20_0 (J := 3) rfl (by decide) (by decide) ?_
  intro T1 h1_ a2 ga2 H1 E3 A4 D5
  have na2 := H.nle ga2
  refine G.dup H1 D20_3 (J := 4) rfl rfl ?_
  refine G.aloadN H1 D20_4 (J := 5) rfl rfl rfl ?_
  have F6 := (Exa.ext E3 f0)
  have F7 := (Fld.ext E3 f1)
  have F8 := (Fld.ext E3 f2)
  have F9 := (Fld.ext E3 f3)
  have F10 : Fld Z h1_ a2 "java/lang/String" "coder" "B" (.int 0) := D5 (Or.inr (wd6 V)) (ty := .byte) (by decide)
  have F11 := (Arv.ext f4 E3)
  have F12 := (Exa.ext E3 f5)
  have F13 : Fld Z h1_ a2 "java/lang/String" "value" "[B" .null := D5 (Or.inr (wd5 V)) (ty := (.array .byte)) (by decide)
  refine G.callI H1 (m38_init V a2 p0 p1 c0 h1_ H1.old F6 F7 F8 F9 A4 F10 na2 F11 F12 F13) rfl (wd179 V) (wd180 V) (wd2 V) (wd181 V) (by decide) (a := a2) (argsL := [.ref p0]) (rest := [.ref a2]) (W := 1) rfl rfl (lenOf (pd_21) rfl) rfl rfl D20_5 (J := 8) rfl (by decide) (by decide) (by decide) (by decide) (allS (mG (i := 0) rfl) all0) ?_
  intro T14 h14_ v15 s16 H14 Q17
  obtain ⟨a18, rfl, rfl, K19, g20, U21, F22, F23, F24, F25, F26⟩ := Q17
  have na18 : n0 ≤ a18 := Nat.le_trans H1.le g20
  show Go p e below _ (T14.setTop (mkF m 8 _ [.ref a2]))
  have S27 : Str Z h14_ a2 a18 c0 [116, 104, 101, 32, 104, 105, 110, 116, 32, 111, 102, 32, 107, 101, 121, 32] := ⟨F22, F23, F24, F25, (cbS (by decide) (cbS (by decide) (cbS (by decide) (cbS (by decide) (cbS (by decide) (cbS (by decide) (cbS (by decide) (cbS (by decide) (cbS (by decide) (cbS (by decide) (cbS (by decide) (cbS (by decide) (cbS (by decide) (cbS (by decide) (cbS (by decide) (cbS (by decide) cb0)))))))))))))))), Nat.le_of_ble_eq_true rfl⟩
  have K28 : Keep h0 h14_ [] := (Keep.trans (Keep.ext (Keep.refl h0 []) E3) K19 (allS (Or.inr (Nat.le_of_eq ga2.symm)) all0))
  exact G.retA H14 (t := (.object "java/lang/String")) rfl rfl rfl D20_8 (so := [a2, a18]) (allS (mG (i := 1) rfl) (allS (mG (i := 0) rfl) all0)) (by decide) (by decide) ⟨a2, a18, rfl, rfl, K28, (Nat.le_of_eq ga2.symm), (Nat.lt_of_lt_of_le A4.lt g20), S27, F24, F23⟩
theorem m40_description (V : Env1 Z a0 n0 uu0 uu1 uu2 uu3 uu4) (p0 : Addr) (p1 : Addr) (p2 : Addr) (c0 : ClassId) (h0 : Heap) (hO : Old Z n0 h0) (f0 : Fld Z h0 p0 "com/example/formboard/formboard/core/Board$Live" "part" "Lcom/example/formboard/formboard/core/Board$Part;" (.ref uu0)) (f1 : Fld Z h0 p0 "com/example/formboard/formboard/core/Board$Live" "key" "Ljava/lang/String;" (.ref p1)) (f2 : Exa Z h0 p1 "java/lang/String") (f3 : Fld Z h0 p1 "java/lang/String" "value" "[B" (.ref p2)) (f4 : Arv Z h0 p2 c0 .byte 0 [] (.int 0)) (f5 : Fld Z h0 p1 "java/lang/String" "coder" "B" (.int 0)) :
    Met Z a0 ELs True n0 l ⟨"com/example/formboard/formboard/core/Board$Live", "description", "()Ljava/lang/String;"⟩ prog_16_method_2_code 1 (some (.object "java/lang/String")) ⟨5, 6, 108, 96⟩ #[.ref p0] h0 [] (fun v h so => (∃ a83 a84 : Addr, ∃ k20 : ClassId, v = some (.ref a83) ∧ so = [] ∧ Keep h0 h [] ∧ h0.size ≤ a83 ∧ a83 < a84 ∧ Str Z h a83 a84 k20 [116, 104, 101, 32, 104, 105, 110, 116, 32, 111, 102, 32, 107, 101, 121, 32])) := by
  refine Met.of (EWl V) (by first | decide +kernel | rfl) hO (L0 := #[.val (.ref p0)]) rfl ?_
  intro p e s m below meth c T H
  show Go p e below _ (T.setTop (mkF m 0 _ []))
  refine G.aloadN H D34_0 (J := 1) rfl rfl rfl ?_
  refine G.getF H (wd51 V) Via.refl f0 D34_1 (J := 4) rfl ?_
  intro T1 H2
  have B3 := Exa.ext H2.old.2 (hv1 V)
  refine G.callVU H2 (y := ⟨"com/example/formboard/formboard/core/Board$Part", "ordinal", "()I"⟩) (m15_ordinal V h0 H2.old) (wd62 V) (wd63 V) (wd64 V) (by decide) (wd66 V) (wd65 V) (wd67 V) (wd68 V) B3 (argsL := []) (rest := []) (W := 0) rfl rfl (lenOf (pd_7) rfl) rfl rfl D34_4 (J := 7) rfl (by decide) (by decide) (by decide) (by decide) all0 ?_
  intro T4 h4_ v5 s6 H4 Q7
  obtain ⟨rfl, rfl, rfl⟩ := Q7
  show Go p e below _ (T4.setTop (mkF m 7 _ [.int 1]))
  refine G.tswIn H4 D34_7 (by decide) (o := 40) rfl (by decide) (J := 47) rfl ?_
  refine G.new H4 (wd84 V) (wd85 V) (wd86 V) D34_47 (J := 50) rfl (by decide) (by decide) ?_
  intro T8 h8_ a9 ga9 H8 E10 A11 D12
  have na9 := H4.nle ga9
  refine G.dup H8 D34_50 (J := 51) rfl rfl ?_
  have F13 : Fld Z h8_ a9 "java/lang/AbstractStringBuilder" "value" "[B" .null := D12 (Or.inl (wd99 V)) (ty := (.array .byte)) (by decide)
  have F14 : Fld Z h8_ a9 "java/lang/AbstractStringBuilder" "coder" "B" (.int 0) := D12 (Or.inl (wd101 V)) (ty := .byte) (by decide)
  refine G.callI H8 (m17_init V a9 h8_ H8.old A11 F13 na9 F14) rfl (wd87 V) (wd88 V) (wd86 V) (wd89 V) (by decide) (a := a9) (argsL := []) (rest := [.ref a9]) (W := 1) rfl rfl (lenOf (pd_4) rfl) rfl rfl D34_51 (J := 54) rfl (by decide) (by decide) (by decide) (by decide) all0 ?_
  intro T15 h15_ v16 s17 H15 Q18
  obtain ⟨a19, k20, rfl, rfl, K21, g22, U23, F24, F25, F26, F27, F28⟩ := Q18
  have na19 : n0 ≤ a19 := Nat.le_trans H8.le g22
  show Go p e below _ (T15.setTop (mkF m 54 _ [.ref a9]))
  refine G.ldcS H15 trivial (wS V) (wd102 V) (by decide) (vs := [.int 116, .int 104, .int 101, .int 32, .int 104, .int 105, .int 110, .int 116, .int 32, .int 111, .int 102, .int 32, .int 107, .int 101, .int 121, .int 32]) (z := 16) (by decide) (by decide) rfl (n := 64) (by decide) (by decide) (by decide) (by decide) D34_54 (J := 56) rfl ?_
  intro T29 h29_ a30 b32 k33 H29 E31 X34 F35 F36 A37 Q38
  have S39 : Str Z h29_ a30 b32 k33 [116, 104, 101, 32, 104, 105, 110, 116, 32, 111, 102, 32, 107, 101, 121, 32] := ⟨X34, F35, F36, A37, by decide, by decide⟩
  have F40 := (Exa.ext E31 F24)
  have F41 : Fld Z h8_ a9 "java/lang/AbstractStringBuilder" "count" "I" (.int 0) := D12 (Or.inl (wd124 V)) (ty := .int) (by decide)
  have F42 := (Fld.ext E31 (U23 "java/lang/AbstractStringBuilder" "count" "I" (.int 0) F41 (slot_ne (Or.inl (wd124 V)) (Or.inl (wd99 V)) (by decide) (t := .int) (t' := (.array .byte)) (by decide) (by decide)) (slot_ne (Or.inl (wd124 V)) (Or.inl (wd101 V)) (by decide) (t := .int) (t' := .byte) (by decide) (by decide))))
  have F43 := (Fld.ext E31 F25)
  have F44 := (Arv.ext F27 E31)
  have F45 := (Fld.ext E31 F26)
  refine G.callV H29 (m25_append V a9 a30 b32 k33 a19 k20 h29_ H29.old X34 F36 A37 F35 F42 F40 F43 F44 F45 na19 na9) (wd103 V) (wd104 V) (nf_sel (wd106 V)) (wd106 V) (wd105 V) (wd86 V) (wd107 V) (by decide) F40 (argsL := [.ref a30]) (rest := []) (W := 0) rfl rfl (lenOf (pd_16) rfl) rfl rfl D34_56 (J := 59) rfl (by decide) (by decide) (by decide) (by decide) (allS (mG (i := 0) rfl) all0) ?_
  intro T46 h46_ v47 s48 H46 Q49
  obtain ⟨rfl, rfl, K50, U51, F52, F53, F54, F55, F56⟩ := Q49
  show Go p e below _ (T46.setTop (mkF m 59 _ [.ref a9]))
  refine G.aloadN H46 D34_59 (J := 60) rfl rfl rfl ?_
  have K57 : Keep h0 h8_ [] := (Keep.ext (Keep.refl h0 []) E10)
  have K58 : Keep h0 h46_ [] := (Keep.trans (Keep.ext (Keep.trans (Keep.ext (Keep.refl h0 []) E10) K21 (allS (Or.inr (Nat.le_of_eq ga9.symm)) all0)) E31) K50 (allS (Or.inr (Nat.le_trans K57.1 g22)) (allS (Or.inr (Nat.le_of_eq ga9.symm)) all0)))
  have F59 := (Fld.keep f1 K58 nin0)
  refine G.getF H46 (wd53 V) Via.refl F59 D34_60 (J := 63) rfl ?_
  intro T60 H61
  have F62 := (Exa.keep f2 K58)
  have F63 := (Fld.keep f3 K58 nin0)
  have F64 := (Arv.keep f4 K58 nin0)
  have F65 := (Fld.keep f5 K58 nin0)
  refine G.callV H61 (m31_append V a9 p1 p2 c0 a19 k20 h46_ H61.old F62 F63 F64 F65 F53 F54 F55 F52 F56 na19 na9) (wd103 V) (wd104 V) (nf_sel (wd106 V)) (wd106 V) (wd105 V) (wd86 V) (wd107 V) (by decide) F54 (argsL := [.ref p1]) (rest := []) (W := 0) rfl rfl (lenOf (pd_16) rfl) rfl rfl D34_63 (J := 66) rfl (by decide) (by decide) (by decide) (by decide) (allS (mG (i := 0) rfl) all0) ?_
  intro T66 h66_ v67 s68 H66 Q69
  obtain ⟨rfl, rfl, K70, U71, F72, F73, F74, F75, F76⟩ := Q69
  show Go p e below _ (T66.setTop (mkF m 66 _ [.ref a9]))
  have K77 : Keep h15_ h66_ [a19, a9] := (Keep.trans (Keep.trans (Keep.ext (Keep.refl h15_ [a19, a9]) E31) K50 (allS (Or.inl (mG (i := 0) rfl)) (allS (Or.inl (mG (i := 1) rfl)) all0))) K70 (allS (Or.inl (mG (i := 0) rfl)) (allS (Or.inl (mG (i := 1) rfl)) all0)))
  have F78 := (Exa.keep F28 K77)
  refine G.callV H66 (m39_toString V a9 a19 k20 h66_ H66.old F74 F75 F73 F76 F72 F78) (wd173 V) (wd174 V) (nf_sel (wd176 V)) (wd176 V) (wd175 V) (wd86 V) (wd177 V) (by decide) F74 (argsL := []) (rest := []) (W := 0) rfl rfl (lenOf (pd_8) rfl) rfl rfl D34_66 (J := 69) rfl (by decide) (by decide) (by decide) (by decide) all0 ?_
  intro T79 h79_ v80 s81 H79 Q82
  obtain ⟨a83, a84, rfl, rfl, K85, g86, g87, F88, F89, F90⟩ := Q82
  have na83 : n0 ≤ a83 := Nat.le_trans H66.le g86
  have na84 : n0 ≤ a84 := Nat.le_trans H66.le (Nat.le_of_lt (Nat.lt_of_le_of_lt g86 g87))
  show Go p e below _ (T79.setTop (mkF m 69 _ [.ref a83]))
  refine G.goto H79 D34_69 (by decide) (J := 94) rfl ?_
  have K91 : Keep h0 h79_ [] := (Keep.trans (Keep.trans (Keep.trans (Keep.ext (Keep.trans (Keep.ext (Keep.refl h0 []) E10) K21 (allS (Or.inr (Nat.le_of_eq ga9.symm)) all0)) E31) K50 (allS (Or.inr (Nat.le_trans K57.1 g22)) (allS (Or.inr (Nat.le_of_eq ga9.symm)) all0))) K70 (allS (Or.inr (Nat.le_trans K57.1 g22)) (allS (Or.inr (Nat.le_of_eq ga9.symm)) all0))) K85 all0)
  have K92 : Keep h0 h66_ [] := (Keep.trans (Keep.trans (Keep.ext (Keep.trans (Keep.ext (Keep.refl h0 []) E10) K21 (allS (Or.inr (Nat.le_of_eq ga9.symm)) all0)) E31) K50 (allS (Or.inr (Nat.le_trans K57.1 g22)) (allS (Or.inr (Nat.le_of_eq ga9.symm)) all0))) K70 (allS (Or.inr (Nat.le_trans K57.1 g22)) (allS (Or.inr (Nat.le_of_eq ga9.symm)) all0)))
  exact G.retA H79 (t := (.object "java/lang/String")) rfl rfl rfl D34_94 (so := []) all0 (by decide) (by decide) ⟨a83, a84, k20, rfl, rfl, K91, (Nat.le_trans K92.1 g86), g87, F88⟩
theorem m41_expected (V : Env1 Z a0 n0 uu0 uu1 uu2 uu3 uu4) (x0 : Int32) (x1 : Int32) (h0 : Heap) (hO : Old Z n0 h0)  :
    Met Z a0 ELs True n0 l ⟨"com/example/formboard/formboard/core/LiveDescriptionPinLaw", "expected", "(IICC)Ljava/lang/String;"⟩ method_3_code 4 (some (.object "java/lang/String")) ⟨0, 2, 68, 0⟩ #[.int 1, .int 0, .int x0, .int x1] h0 [] (fun v h so => (∃ a2 b4 : Addr, ∃ k5 : ClassId, v = some (.ref a2) ∧ so = [] ∧ Keep h0 h [] ∧ Str Z h a2 b4 k5 [116, 104, 101, 32, 104, 105, 110, 116, 32, 111, 102, 32, 107, 101, 121, 32])) := by
  refine Met.of (EWl V) (by first | decide +kernel | rfl) hO (L0 := #[.val (.int 1), .val (.int 0), .val (.int x0), .val (.int x1)]) rfl ?_
  intro p e s m below meth c T H
  show Go p e below _ (T.setTop (mkF m 0 _ []))
  refine G.iloadN H D32_0 (J := 1) rfl rfl ?_
  refine G.ifYes H D32_1 (by decide) (by decide) (J := 7) rfl ?_
  refine G.iloadN H D32_7 (J := 8) rfl rfl ?_
  refine G.iconst H D32_8 (J := 9) rfl (v := 1) rfl ?_
  refine G.icmpNo H D32_9 (J := 12) rfl (by decide) ?_
  refine G.iloadN H D32_12 (J := 13) rfl rfl ?_
  refine G.ifNo H D32_13 (J := 16) rfl (by decide) ?_
  refine G.ldcS H trivial (wS V) (wd246 V) (by decide) (vs := [.int 116, .int 104, .int 101, .int 32, .int 104, .int 105, .int 110, .int 116, .int 32, .int 111, .int 102, .int 32, .int 107, .int 101, .int 121, .int 32]) (z := 16) (by decide) (by decide) rfl (n := 64) (by decide) (by decide) (by decide) (by decide) D32_16 (J := 18) rfl ?_
  intro T1 h1_ a2 b4 k5 H1 E3 X6 F7 F8 A9 Q10
  have S11 : Str Z h1_ a2 b4 k5 [116, 104, 101, 32, 104, 105, 110, 116, 32, 111, 102, 32, 107, 101, 121, 32] := ⟨X6, F7, F8, A9, by decide, by decide⟩
  have K12 : Keep h0 h1_ [] := (Keep.ext (Keep.refl h0 []) E3)
  exact G.retA H1 (t := (.object "java/lang/String")) rfl rfl rfl D32_18 (so := []) all0 (by decide) (by decide) ⟨a2, b4, k5, rfl, rfl, K12, S11⟩
theorem m42_requireNonNull (V : Env1 Z a0 n0 uu0 uu1 uu2 uu3 uu4) (p0 : Addr) (h0 : Heap) (hO : Old Z n0 h0)  :
    Met Z a0 ELs True n0 l ⟨"java/util/Objects", "requireNonNull", "(Ljava/lang/Object;Ljava/lang/String;)Ljava/lang/Object;"⟩ jdk_31_method_11_code 2 (some (.object "java/lang/Object")) ⟨0, 0, 0, 0⟩ #[.ref uu2, .ref p0] h0 [] (fun v h so => (v = some (.ref uu2) ∧ so = [] ∧ h0 = h)) := by
  refine Met.of (EWl V) (by first | decide +kernel | rfl) hO (L0 := #[.val (.ref uu2), .val (.ref p0)]) rfl ?_
  intro p e s m below meth c T H
  show Go p e below _ (T.setTop (mkF m 0 _ []))
  refine G.aloadN H D3_0 (J := 1) rfl rfl rfl ?_
  refine G.ifnonnullYes H D3_1 (by decide) (J := 13) rfl ?_
  refine G.aloadN H D3_13 (J := 14) rfl rfl rfl ?_
  exact G.retA H (t := (.object "java/lang/Object")) rfl rfl rfl D3_14 (so := []) all0 (by decide) (by decide) ⟨rfl, rfl, rfl⟩
theorem m43_init (V : Env1 Z a0 n0 uu0 uu1 uu2 uu3 uu4) (p0 : Addr) (p1 : Addr) (p2 : Addr) (h0 : Heap) (hO : Old Z n0 h0) (f0 : Exa Z h0 p0 "com/example/formboard/formboard/core/Board$Live") (f1 : Fld Z h0 p0 "com/example/formboard/formboard/core/Board$Live" "part" "Lcom/example/formboard/formboard/core/Board$Part;" .null) (g2 : n0 ≤ p0) (f3 : Fld Z h0 p0 "com/example/formboard/formboard/core/Board$Live" "key" "Ljava/lang/String;" .null) (f4 : Fld Z h0 p0 "com/example/formboard/formboard/core/Board$Live" "form" "Ljava/lang/String;" .null) :
    Met Z a0 ELs True n0 l ⟨"com/example/formboard/formboard/core/Board$Live", "<init>", "(Lcom/example/formboard/formboard/core/Board$Part;Ljava/lang/String;Ljava/lang/String;)V"⟩ prog_16_method_1_code 4 none ⟨2, 4, 40, 24⟩ #[.ref p0, .ref uu2, .ref p1, .ref p2] h0 [] (fun v h so => (v = none ∧ so = [] ∧ Keep h0 h [p0] ∧ (∀ (O n d : String) (w : Value), Fld Z h0 p0 O n d w → RoadKit.slotOf Z O n d ≠ RoadKit.slotOf Z "com/example/formboard/formboard/core/Board$Live" "part" "Lcom/example/formboard/formboard/core/Board$Part;" → RoadKit.slotOf Z O n d ≠ RoadKit.slotOf Z "com/example/formboard/formboard/core/Board$Live" "key" "Ljava/lang/String;" → RoadKit.slotOf Z O n d ≠ RoadKit.slotOf Z "com/example/formboard/formboard/core/Board$Live" "form" "Ljava/lang/String;" → Fld Z h p0 O n d w) ∧ Exa Z h p0 "com/example/formboard/formboard/core/Board$Live" ∧ Fld Z h p0 "com/example/formboard/formboard/core/Board$Live" "part" "Lcom/example/formboard/formboard/core/Board$Part;" (.ref uu2) ∧ Fld Z h p0 "com/example/formboard/formboard/core/Board$Live" "key" "Ljava/lang/String;" (.ref p1) ∧ Fld Z h p0 "com/example/formboard/formboard/core/Board$Live" "form" "Ljava/lang/String;" (.ref p2))) := by
  refine Met.of (EWl V) (by first | decide +kernel | rfl) hO (L0 := #[.val (.ref p0), .val (.ref uu2), .val (.ref p1), .val (.ref p2)]) rfl ?_
  intro p e s m below meth c T H
  show Go p e below _ (T.setTop (mkF m 0 _ []))
  refine G.aloadN H D33_0 (J := 1) rfl rfl rfl ?_
  refine G.callI H (m5_init V p0 h0 H.old) rfl (wd39 V) (wd40 V) (wd42 V) (wd43 V) (by decide) (a := p0) (argsL := []) (rest := []) (W := 0) rfl rfl (lenOf (pd_4) rfl) rfl rfl D33_1 (J := 4) rfl (by decide) (by decide) (by decide) (by decide) all0 ?_
  intro T1 h1_ v2 s3 H1 Q4
  obtain ⟨rfl, rfl, rfl⟩ := Q4
  show Go p e below _ (T1.setTop (mkF m 4 _ []))
  refine G.aloadN H1 D33_4 (J := 5) rfl rfl rfl ?_
  refine G.ldcS H1 trivial (wS V) (wd45 V) (by decide) (vs := [.int 112, .int 97, .int 114, .int 116]) (z := 4) (by decide) (by decide) rfl (n := 16) (by decide) (by decide) (by decide) (by decide) D33_5 (J := 7) rfl ?_
  intro T5 h5_ a6 b8 k9 H5 E7 X10 F11 F12 A13 Q14
  have S15 : Str Z h5_ a6 b8 k9 [112, 97, 114, 116] := ⟨X10, F11, F12, A13, by decide, by decide⟩
  refine G.callS H5 (m42_requireNonNull V a6 h5_ H5.old) (wd46 V) (wd47 V) (wd48 V) (wd49 V) (by decide) (argsL := [.ref uu2, .ref a6]) (rest := []) (W := 0) rfl rfl (lenOf (pd_5) rfl) rfl rfl D33_7 (J := 10) rfl (by decide) (by decide) (by decide) (by decide) all0 ?_
  intro T16 h16_ v17 s18 H16 Q19
  obtain ⟨rfl, rfl, rfl⟩ := Q19
  show Go p e below _ (T16.setTop (mkF m 10 _ [.ref uu2]))
  refine G.pop H16 D33_10 (J := 11) rfl rfl ?_
  refine G.aloadN H16 D33_11 (J := 12) rfl rfl rfl ?_
  refine G.ldcS H16 trivial (wS V) (wd50 V) (by decide) (vs := [.int 102, .int 111, .int 114, .int 109]) (z := 4) (by decide) (by decide) rfl (n := 16) (by decide) (by decide) (by decide) (by decide) D33_12 (J := 14) rfl ?_
  intro T20 h20_ a21 b23 k24 H20 E22 X25 F26 F27 A28 Q29
  have S30 : Str Z h20_ a21 b23 k24 [102, 111, 114, 109] := ⟨X25, F26, F27, A28, by decide, by decide⟩
  refine G.callS H20 (m7_requireNonNull V p2 a21 h20_ H20.old) (wd46 V) (wd47 V) (wd48 V) (wd49 V) (by decide) (argsL := [.ref p2, .ref a21]) (rest := []) (W := 0) rfl rfl (lenOf (pd_5) rfl) rfl rfl D33_14 (J := 17) rfl (by decide) (by decide) (by decide) (by decide) all0 ?_
  intro T31 h31_ v32 s33 H31 Q34
  obtain ⟨rfl, rfl, rfl⟩ := Q34
  show Go p e below _ (T31.setTop (mkF m 17 _ [.ref p2]))
  refine G.pop H31 D33_17 (J := 18) rfl rfl ?_
  refine G.aloadN H31 D33_18 (J := 19) rfl rfl rfl ?_
  refine G.aloadN H31 D33_19 (J := 20) rfl rfl rfl ?_
  have K35 : Keep h0 h20_ [] := (Keep.ext (Keep.ext (Keep.refl h0 []) E7) E22)
  have F36 := (Exa.keep f0 K35)
  have F37 := (Fld.keep f1 K35 nin0)
  refine G.putF H31 (wd51 V) Via.refl F37 F36 (Or.inr ⟨(wd52 V), rfl, rfl⟩) (wd34 V) (ty := (.object "com/example/formboard/formboard/core/Board$Part")) (by decide) rfl rfl g2 (Sf.exa F36) D33_20 (J := 23) rfl ?_
  intro T38 h38_ H38 W39
  have F40 : Fld Z h38_ p0 "com/example/formboard/formboard/core/Board$Live" "part" "Lcom/example/formboard/formboard/core/Board$Part;" (.ref uu2) := Fld.same W39 F37
  refine G.aloadN H38 D33_23 (J := 24) rfl rfl rfl ?_
  refine G.aloadN H38 D33_24 (J := 25) rfl rfl rfl ?_
  have F41 := (Exa.wr W39 F36)
  have F42 := (Fld.other W39 (Fld.keep f3 K35 nin0) (Or.inr (slot_ne (Or.inr (wd54 V)) (Or.inr (wd52 V)) (by decide) (t := (.object "java/lang/String")) (t' := (.object "com/example/formboard/formboard/core/Board$Part")) (by decide) (by decide))))
  refine G.putF H38 (wd53 V) Via.refl F42 F41 (Or.inr ⟨(wd54 V), rfl, rfl⟩) (wd34 V) (ty := (.object "java/lang/String")) (by decide) rfl rfl g2 (Sf.exa F41) D33_25 (J := 28) rfl ?_
  intro T43 h43_ H43 W44
  have F45 : Fld Z h43_ p0 "com/example/formboard/formboard/core/Board$Live" "key" "Ljava/lang/String;" (.ref p1) := Fld.same W44 F42
  refine G.aloadN H43 D33_28 (J := 29) rfl rfl rfl ?_
  refine G.aloadN H43 D33_29 (J := 30) rfl rfl rfl ?_
  have F46 := (Exa.wr W44 F41)
  have F47 := (Fld.other W44 (Fld.other W39 (Fld.keep f4 K35 nin0) (Or.inr (slot_ne (Or.inr (wd56 V)) (Or.inr (wd52 V)) (by decide) (t := (.object "java/lang/String")) (t' := (.object "com/example/formboard/formboard/core/Board$Part")) (by decide) (by decide)))) (Or.inr (slot_ne (Or.inr (wd56 V)) (Or.inr (wd54 V)) (by decide) (t := (.object "java/lang/String")) (t' := (.object "java/lang/String")) (by decide) (by decide))))
  refine G.putF H43 (wd55 V) Via.refl F47 F46 (Or.inr ⟨(wd56 V), rfl, rfl⟩) (wd34 V) (ty := (.object "java/lang/String")) (by decide) rfl rfl g2 (Sf.exa F46) D33_30 (J := 33) rfl ?_
  intro T48 h48_ H48 W49
  have F50 : Fld Z h48_ p0 "com/example/formboard/formboard/core/Board$Live" "form" "Ljava/lang/String;" (.ref p2) := Fld.same W49 F47
  have F51 := (Exa.wr W49 F46)
  have F52 := (Fld.other W49 (Fld.other W44 F40 (Or.inr (slot_ne (Or.inr (wd52 V)) (Or.inr (wd54 V)) (by decide) (t := (.object "com/example/formboard/formboard/core/Board$Part")) (t' := (.object "java/lang/String")) (by decide) (by decide)))) (Or.inr (slot_ne (Or.inr (wd52 V)) (Or.inr (wd56 V)) (by decide) (t := (.object "com/example/formboard/formboard/core/Board$Part")) (t' := (.object "java/lang/String")) (by decide) (by decide))))
  have F53 := (Fld.other W49 F45 (Or.inr (slot_ne (Or.inr (wd54 V)) (Or.inr (wd56 V)) (by decide) (t := (.object "java/lang/String")) (t' := (.object "java/lang/String")) (by decide) (by decide))))
  have K54 : Keep h0 h48_ [p0] := (Keep.wr (Keep.wr (Keep.wr (Keep.ext (Keep.ext (Keep.refl h0 [p0]) E7) E22) W39 (Or.inl (mG (i := 0) rfl))) W44 (Or.inl (mG (i := 0) rfl))) W49 (Or.inl (mG (i := 0) rfl)))
  exact G.retV H48 rfl D33_33 (so := []) all0 (by decide) (by decide) ⟨rfl, rfl, K54, (fun O n d w F hn0 hn1 hn2 => (Fld.other W49 (Fld.other W44 (Fld.other W39 (Fld.ext E22 (Fld.ext E7 F)) (Or.inr hn0)) (Or.inr hn1)) (Or.inr hn2))), F51, F52, F53, F50⟩
theorem m44_ordinal (V : Env1 Z a0 n0 uu0 uu1 uu2 uu3 uu4)  (h0 : Heap) (hO : Old Z n0 h0)  :
    Met Z a0 ELs True n0 l ⟨"java/lang/Enum", "ordinal", "()I"⟩ jdk_37_method_2_code 1 (some .int) ⟨0, 0, 0, 0⟩ #[.ref uu2] h0 [] (fun v h so => (v = some (.int 2) ∧ so = [] ∧ h0 = h)) := by
  refine Met.of (EWl V) (by first | decide +kernel | rfl) hO (L0 := #[.val (.ref uu2)]) rfl ?_
  intro p e s m below meth c T H
  show Go p e below _ (T.setTop (mkF m 0 _ []))
  refine G.aloadN H D4_0 (J := 1) rfl rfl rfl ?_
  have B1 := Fld.ext H.old.2 (hv8 V)
  refine G.getF H (wd69 V) Via.refl B1 D4_1 (J := 4) rfl ?_
  intro T2 H3
  exact G.retI H3 rfl D4_4 (so := []) all0 (by decide) (by decide) ⟨rfl, rfl, rfl⟩
theorem m45_length (V : Env1 Z a0 n0 uu0 uu1 uu2 uu3 uu4) (p0 : Addr) (p1 : Addr) (c0 : ClassId) (h0 : Heap) (hO : Old Z n0 h0) (f0 : Fld Z h0 p0 "java/lang/String" "value" "[B" (.ref p1)) (f1 : Arv Z h0 p1 c0 .byte 18 [.int 116, .int 104, .int 101, .int 32, .int 116, .int 111, .int 103, .int 103, .int 108, .int 101, .int 32, .int 111, .int 102, .int 32, .int 107, .int 101, .int 121, .int 32] (.int 0)) (f2 : Exa Z h0 p0 "java/lang/String") (f3 : Fld Z h0 p0 "java/lang/String" "coder" "B" (.int 0)) :
    Met Z a0 ELs True n0 l ⟨"java/lang/String", "length", "()I"⟩ jdk_42_method_54_code 1 (some .int) ⟨1, 0, 0, 13⟩ #[.ref p0] h0 [] (fun v h so => (v = some (.int 18) ∧ so = [] ∧ h0 = h)) := by
  refine Met.of (EWl V) (by first | decide +kernel | rfl) hO (L0 := #[.val (.ref p0)]) rfl ?_
  intro p e s m below meth c T H
  show Go p e below _ (T.setTop (mkF m 0 _ []))
  refine G.aloadN H D11_0 (J := 1) rfl rfl rfl ?_
  refine G.getF H (wd28 V) Via.refl f0 D11_1 (J := 4) rfl ?_
  intro T1 H2
  refine G.arrlen H2 f1 D11_4 (J := 5) rfl ?_
  refine G.aloadN H2 D11_5 (J := 6) rfl rfl rfl ?_
  refine G.callV H2 (m18_coder V p0 h0 H2.old f3) (wd118 V) (wd119 V) (nf_sel (wd121 V)) (wd121 V) (wd120 V) (wd2 V) (wd122 V) (by decide) f2 (argsL := []) (rest := [.int 18]) (W := 1) rfl rfl (lenOf (pd_11) rfl) rfl rfl D11_6 (J := 9) rfl (by decide) (by decide) (by decide) (by decide) all0 ?_
  intro T3 h3_ v4 s5 H3 Q6
  obtain ⟨rfl, rfl, rfl⟩ := Q6
  show Go p e below _ (T3.setTop (mkF m 9 _ [.int 0, .int 18]))
  refine G.ishr H3 D11_9 (J := 10) rfl ?_
  show Go p e below _ (T3.setTop (mkF m 10 _ [.int 18]))
  exact G.retI H3 rfl D11_10 (so := []) all0 (by decide) (by decide) ⟨rfl, rfl, rfl⟩
theorem m46_max (V : Env1 Z a0 n0 uu0 uu1 uu2 uu3 uu4)  (h0 : Heap) (hO : Old Z n0 h0)  :
    Met Z a0 ELs True n0 l ⟨"java/lang/Math", "max", "(II)I"⟩ jdk_29_method_65_code 2 (some .int) ⟨0, 0, 0, 0⟩ #[.int 2, .int 18] h0 [] (fun v h so => (v = some (.int 18) ∧ so = [] ∧ h0 = h)) := by
  refine Met.of (EWl V) (by first | decide +kernel | rfl) hO (L0 := #[.val (.int 2), .val (.int 18)]) rfl ?_
  intro p e s m below meth c T H
  show Go p e below _ (T.setTop (mkF m 0 _ []))
  refine G.iloadN H D0_0 (J := 1) rfl rfl ?_
  refine G.iloadN H D0_1 (J := 2) rfl rfl ?_
  refine G.icmpYes H D0_2 (by decide) (by decide) (J := 9) rfl ?_
  refine G.iloadN H D0_9 (J := 10) rfl rfl ?_
  exact G.retI H rfl D0_10 (so := []) all0 (by decide) (by decide) ⟨rfl, rfl, rfl⟩
theorem m47_newLength (V : Env1 Z a0 n0 uu0 uu1 uu2 uu3 uu4)  (h0 : Heap) (hO : Old Z n0 h0)  :
    Met Z a0 ELs True n0 l ⟨"jdk/internal/util/ArraysSupport", "newLength", "(III)I"⟩ jdk_48_method_27_code 4 (some .int) ⟨1, 0, 0, 14⟩ #[.int 16, .int 2, .int 18] h0 [] (fun v h so => (v = some (.int 34) ∧ so = [] ∧ h0 = h)) := by
  refine Met.of (EWl V) (by first | decide +kernel | rfl) hO (L0 := #[.val (.int 16), .val (.int 2), .val (.int 18), .unset]) rfl ?_
  intro p e s m below meth c T H
  show Go p e below _ (T.setTop (mkF m 0 _ []))
  refine G.iloadN H D14_0 (J := 1) rfl rfl ?_
  refine G.iloadN H D14_1 (J := 2) rfl rfl ?_
  refine G.iloadN H D14_2 (J := 3) rfl rfl ?_
  refine G.callS H (m46_max V h0 H.old) (wd159 V) (wd160 V) (wd161 V) (wd162 V) (by decide) (argsL := [.int 2, .int 18]) (rest := [.int 16]) (W := 1) rfl rfl (lenOf (pd_22) rfl) rfl rfl D14_3 (J := 6) rfl (by decide) (by decide) (by decide) (by decide) all0 ?_
  intro T1 h1_ v2 s3 H1 Q4
  obtain ⟨rfl, rfl, rfl⟩ := Q4
  show Go p e below _ (T1.setTop (mkF m 6 _ [.int 18, .int 16]))
  refine G.iadd H1 D14_6 (J := 7) rfl ?_
  show Go p e below _ (T1.setTop (mkF m 7 _ [.int 34]))
  refine G.istoreN H1 (L' := #[.val (.int 16), .val (.int 2), .val (.int 18), .val (.int 34)]) D14_7 (J := 8) rfl rfl ?_
  refine G.iconst H1 D14_8 (J := 9) rfl (v := 0) rfl ?_
  refine G.iloadN H1 D14_9 (J := 10) rfl rfl ?_
  refine G.icmpNo H1 D14_10 (J := 13) rfl (by decide) ?_
  refine G.iloadN H1 D14_13 (J := 14) rfl rfl ?_
  refine G.ldcI H1 (wd163 V) D14_14 (J := 16) rfl ?_
  refine G.icmpNo H1 D14_16 (J := 19) rfl (by decide) ?_
  refine G.iloadN H1 D14_19 (J := 20) rfl rfl ?_
  exact G.retI H1 rfl D14_20 (so := []) all0 (by decide) (by decide) ⟨rfl, rfl, rfl⟩
theorem m48_newCapacity (V : Env1 Z a0 n0 uu0 uu1 uu2 uu3 uu4) (p0 : Addr) (p1 : Addr) (c0 : ClassId) (h0 : Heap) (hO : Old Z n0 h0) (f0 : Fld Z h0 p0 "java/lang/AbstractStringBuilder" "value" "[B" (.ref p1)) (f1 : Arv Z h0 p1 c0 .byte 16 [.int 0, .int 0, .int 0, .int 0, .int 0, .int 0, .int 0, .int 0, .int 0, .int 0, .int 0, .int 0, .int 0, .int 0, .int 0, .int 0] (.int 0)) (f2 : Fld Z h0 p0 "java/lang/AbstractStringBuilder" "coder" "B" (.int 0)) :
    Met Z a0 ELs True n0 l ⟨"java/lang/AbstractStringBuilder", "newCapacity", "(I)I"⟩ jdk_68_method_10_code 6 (some .int) ⟨2, 0, 0, 29⟩ #[.ref p0, .int 18] h0 [] (fun v h so => (v = some (.int 34) ∧ so = [] ∧ h0 = h)) := by
  refine Met.of (EWl V) (by first | decide +kernel | rfl) hO (L0 := #[.val (.ref p0), .val (.int 18), .unset, .unset, .unset, .unset]) rfl ?_
  intro p e s m below meth c T H
  show Go p e below _ (T.setTop (mkF m 0 _ []))
  refine G.aloadN H D23_0 (J := 1) rfl rfl rfl ?_
  refine G.getF H (wd98 V) Via.refl f0 D23_1 (J := 4) rfl ?_
  intro T1 H2
  refine G.arrlen H2 f1 D23_4 (J := 5) rfl ?_
  refine G.istoreN H2 (L' := #[.val (.ref p0), .val (.int 18), .val (.int 16), .unset, .unset, .unset]) D23_5 (J := 6) rfl rfl ?_
  refine G.iloadN H2 D23_6 (J := 7) rfl rfl ?_
  refine G.aloadN H2 D23_7 (J := 8) rfl rfl rfl ?_
  refine G.getF H2 (wd100 V) Via.refl f2 D23_8 (J := 11) rfl ?_
  intro T3 H4
  refine G.ishl H4 D23_11 (J := 12) rfl ?_
  show Go p e below _ (T3.setTop (mkF m 12 _ [.int 18]))
  refine G.istoreN H4 (L' := #[.val (.ref p0), .val (.int 18), .val (.int 16), .val (.int 18), .unset, .unset]) D23_12 (J := 13) rfl rfl ?_
  refine G.iloadN H4 D23_13 (J := 14) rfl rfl ?_
  refine G.iloadN H4 D23_14 (J := 15) rfl rfl ?_
  refine G.isub H4 D23_15 (J := 16) rfl ?_
  show Go p e below _ (T3.setTop (mkF m 16 _ [.int 2]))
  refine G.istore H4 (L' := #[.val (.ref p0), .val (.int 18), .val (.int 16), .val (.int 18), .val (.int 2), .unset]) D23_16 (J := 18) rfl rfl ?_
  refine G.iloadN H4 D23_18 (J := 19) rfl rfl ?_
  refine G.iload H4 D23_19 (J := 21) rfl rfl ?_
  refine G.iloadN H4 D23_21 (J := 22) rfl rfl ?_
  refine G.iconst H4 D23_22 (J := 23) rfl (v := 2) rfl ?_
  refine G.aloadN H4 D23_23 (J := 24) rfl rfl rfl ?_
  refine G.getF H4 (wd100 V) Via.refl f2 D23_24 (J := 27) rfl ?_
  intro T5 H6
  refine G.ishl H6 D23_27 (J := 28) rfl ?_
  show Go p e below _ (T5.setTop (mkF m 28 _ [.int 2, .int 16, .int 2, .int 16]))
  refine G.iadd H6 D23_28 (J := 29) rfl ?_
  show Go p e below _ (T5.setTop (mkF m 29 _ [.int 18, .int 2, .int 16]))
  refine G.callS H6 (m47_newLength V h0 H6.old) (wd155 V) (wd156 V) (wd157 V) (wd158 V) (by decide) (argsL := [.int 16, .int 2, .int 18]) (rest := []) (W := 0) rfl rfl (lenOf (pd_23) rfl) rfl rfl D23_29 (J := 32) rfl (by decide) (by decide) (by decide) (by decide) all0 ?_
  intro T7 h7_ v8 s9 H7 Q10
  obtain ⟨rfl, rfl, rfl⟩ := Q10
  show Go p e below _ (T7.setTop (mkF m 32 _ [.int 34]))
  refine G.istore H7 (L' := #[.val (.ref p0), .val (.int 18), .val (.int 16), .val (.int 18), .val (.int 2), .val (.int 34)]) D23_32 (J := 34) rfl rfl ?_
  refine G.iload H7 D23_34 (J := 36) rfl rfl ?_
  refine G.ldcI H7 (wd164 V) D23_36 (J := 38) rfl ?_
  refine G.icmpYes H7 D23_38 (by decide) (by decide) (J := 51) rfl ?_
  refine G.iload H7 D23_51 (J := 53) rfl rfl ?_
  refine G.aloadN H7 D23_53 (J := 54) rfl rfl rfl ?_
  refine G.getF H7 (wd100 V) Via.refl f2 D23_54 (J := 57) rfl ?_
  intro T11 H12
  refine G.ishr H12 D23_57 (J := 58) rfl ?_
  show Go p e below _ (T11.setTop (mkF m 58 _ [.int 34]))
  exact G.retI H12 rfl D23_58 (so := []) all0 (by decide) (by decide) ⟨rfl, rfl, rfl⟩
theorem m49_min (V : Env1 Z a0 n0 uu0 uu1 uu2 uu3 uu4)  (h0 : Heap) (hO : Old Z n0 h0)  :
    Met Z a0 ELs True n0 l ⟨"java/lang/Math", "min", "(II)I"⟩ jdk_29_method_69_code 2 (some .int) ⟨0, 0, 0, 0⟩ #[.int 16, .int 34] h0 [] (fun v h so => (v = some (.int 16) ∧ so = [] ∧ h0 = h)) := by
  refine Met.of (EWl V) (by first | decide +kernel | rfl) hO (L0 := #[.val (.int 16), .val (.int 34)]) rfl ?_
  intro p e s m below meth c T H
  show Go p e below _ (T.setTop (mkF m 0 _ []))
  refine G.iloadN H D1_0 (J := 1) rfl rfl ?_
  refine G.iloadN H D1_1 (J := 2) rfl rfl ?_
  refine G.icmpNo H D1_2 (J := 5) rfl (by decide) ?_
  refine G.iloadN H D1_5 (J := 6) rfl rfl ?_
  refine G.goto H D1_6 (by decide) (J := 10) rfl ?_
  exact G.retI H rfl D1_10 (so := []) all0 (by decide) (by decide) ⟨rfl, rfl, rfl⟩
theorem m50_copyOf (V : Env1 Z a0 n0 uu0 uu1 uu2 uu3 uu4) (p0 : Addr) (c0 : ClassId) (h0 : Heap) (hO : Old Z n0 h0) (f0 : Arv Z h0 p0 c0 .byte 16 [.int 0, .int 0, .int 0, .int 0, .int 0, .int 0, .int 0, .int 0, .int 0, .int 0, .int 0, .int 0, .int 0, .int 0, .int 0, .int 0] (.int 0)) :
    Met Z a0 ELs True n0 l ⟨"java/util/Arrays", "copyOf", "([BI)[B"⟩ jdk_65_method_121_code 3 (some (.array .byte)) ⟨1, 1, 34, 40⟩ #[.ref p0, .int 34] h0 [] (fun v h so => (∃ a2 : Addr, ∃ k5 : ClassId, v = some (.ref a2) ∧ so = [a2] ∧ Keep h0 h [] ∧ h0.size ≤ a2 ∧ Arv Z h a2 k5 .byte 34 [.int 0, .int 0, .int 0, .int 0, .int 0, .int 0, .int 0, .int 0, .int 0, .int 0, .int 0, .int 0, .int 0, .int 0, .int 0, .int 0, .int 0, .int 0, .int 0, .int 0, .int 0, .int 0, .int 0, .int 0, .int 0, .int 0, .int 0, .int 0, .int 0, .int 0, .int 0, .int 0, .int 0, .int 0] (.int 0) ∧ Exa Z h a2 "[B")) := by
  refine Met.of (EWl V) (by first | decide +kernel | rfl) hO (L0 := #[.val (.ref p0), .val (.int 34), .unset]) rfl ?_
  intro p e s m below meth c T H
  show Go p e below _ (T.setTop (mkF m 0 _ []))
  refine G.iloadN H D15_0 (J := 1) rfl rfl ?_
  refine G.aloadN H D15_1 (J := 2) rfl rfl rfl ?_
  refine G.arrlen H f0 D15_2 (J := 3) rfl ?_
  refine G.icmpYes H D15_3 (by decide) (by decide) (J := 14) rfl ?_
  refine G.iloadN H D15_14 (J := 15) rfl rfl ?_
  refine G.newP H (aty := .byte) (wd4 V) D15_15 (J := 17) rfl (by decide) (cap := 34) (by decide) (by decide) (by decide) (by decide) (vs := [.int 0, .int 0, .int 0, .int 0, .int 0, .int 0, .int 0, .int 0, .int 0, .int 0, .int 0, .int 0, .int 0, .int 0, .int 0, .int 0, .int 0, .int 0, .int 0, .int 0, .int 0, .int 0, .int 0, .int 0, .int 0, .int 0, .int 0, .int 0, .int 0, .int 0, .int 0, .int 0, .int 0, .int 0]) rfl (ad := "[B") rfl ?_
  intro T1 h1_ a2 k5 ga2 H1 E3 A4 X6
  have na2 := H.nle ga2
  replace A4 : Arv Z h1_ a2 k5 .byte 34 [.int 0, .int 0, .int 0, .int 0, .int 0, .int 0, .int 0, .int 0, .int 0, .int 0, .int 0, .int 0, .int 0, .int 0, .int 0, .int 0, .int 0, .int 0, .int 0, .int 0, .int 0, .int 0, .int 0, .int 0, .int 0, .int 0, .int 0, .int 0, .int 0, .int 0, .int 0, .int 0, .int 0, .int 0] (.int 0) := A4
  refine G.astoreN H1 (L' := #[.val (.ref p0), .val (.int 34), .val (.ref a2)]) D15_17 (J := 18) rfl rfl rfl ?_
  refine G.aloadN H1 D15_18 (J := 19) rfl rfl rfl ?_
  refine G.iconst H1 D15_19 (J := 20) rfl (v := 0) rfl ?_
  refine G.aloadN H1 D15_20 (J := 21) rfl rfl rfl ?_
  refine G.iconst H1 D15_21 (J := 22) rfl (v := 0) rfl ?_
  refine G.aloadN H1 D15_22 (J := 23) rfl rfl rfl ?_
  have F7 := (Arv.ext f0 E3)
  refine G.arrlen H1 F7 D15_23 (J := 24) rfl ?_
  refine G.iloadN H1 D15_24 (J := 25) rfl rfl ?_
  refine G.callS H1 (m49_min V h1_ H1.old) (wd169 V) (wd170 V) (wd161 V) (wd171 V) (by decide) (argsL := [.int 16, .int 34]) (rest := [.int 0, .ref a2, .int 0, .ref p0]) (W := 4) rfl rfl (lenOf (pd_22) rfl) rfl rfl D15_25 (J := 28) rfl (by decide) (by decide) (by decide) (by decide) all0 ?_
  intro T8 h8_ v9 s10 H8 Q11
  obtain ⟨rfl, rfl, rfl⟩ := Q11
  show Go p e below _ (T8.setTop (mkF m 28 _ [.int 16, .int 0, .ref a2, .int 0, .ref p0]))
  refine G.copy H8 (wd172 V) (wd149 V) (wd147 V) (wd148 V) F7 A4 (us := [.int 0, .int 0, .int 0, .int 0, .int 0, .int 0, .int 0, .int 0, .int 0, .int 0, .int 0, .int 0, .int 0, .int 0, .int 0, .int 0]) (Or.inl ⟨rfl, rfl⟩) (by decide) (by decide) (by decide) (by decide) (by decide) rfl lB (vr := [.int 0, .int 0, .int 0, .int 0, .int 0, .int 0, .int 0, .int 0, .int 0, .int 0, .int 0, .int 0, .int 0, .int 0, .int 0, .int 0, .int 0, .int 0, .int 0, .int 0, .int 0, .int 0, .int 0, .int 0, .int 0, .int 0, .int 0, .int 0, .int 0, .int 0, .int 0, .int 0, .int 0, .int 0]) rfl na2 (Sf.mem (mG (i := 0) rfl)) (st := []) (W := 0) rfl rfl D15_28 (J := 31) rfl (by decide) (by decide) ?_
  intro T12 h12_ H12 K13 A14
  refine G.aloadN H12 D15_31 (J := 32) rfl rfl rfl ?_
  have F15 := (Exa.keep X6 K13)
  have K16 : Keep h0 h12_ [] := (Keep.trans (Keep.ext (Keep.refl h0 []) E3) K13 (allS (Or.inr (Nat.le_of_eq ga2.symm)) all0))
  exact G.retA H12 (t := (.array .byte)) rfl rfl rfl D15_32 (so := [a2]) (allS (mG (i := 0) rfl) all0) (by decide) (by decide) ⟨a2, k5, rfl, rfl, K16, (Nat.le_of_eq ga2.symm), A14, F15⟩
theorem m51_ensureCapacityInternal (V : Env1 Z a0 n0 uu0 uu1 uu2 uu3 uu4) (p0 : Addr) (p1 : Addr) (c0 : ClassId) (h0 : Heap) (hO : Old Z n0 h0) (f0 : Fld Z h0 p0 "java/lang/AbstractStringBuilder" "value" "[B" (.ref p1)) (f1 : Arv Z h0 p1 c0 .byte 16 [.int 0, .int 0, .int 0, .int 0, .int 0, .int 0, .int 0, .int 0, .int 0, .int 0, .int 0, .int 0, .int 0, .int 0, .int 0, .int 0] (.int 0)) (f2 : Fld Z h0 p0 "java/lang/AbstractStringBuilder" "coder" "B" (.int 0)) (f3 : Exa Z h0 p0 "java/lang/StringBuilder") (g4 : n0 ≤ p0) :
    Met Z a0 ELs True n0 l ⟨"java/lang/AbstractStringBuilder", "ensureCapacityInternal", "(I)V"⟩ jdk_68_method_9_code 3 none ⟨3, 1, 34, 55⟩ #[.ref p0, .int 18] h0 [] (fun v h so => (∃ a17 : Addr, ∃ k18 : ClassId, v = none ∧ so = [a17] ∧ Keep h0 h [p0] ∧ h0.size ≤ a17 ∧ (∀ (O n d : String) (w : Value), Fld Z h0 p0 O n d w → RoadKit.slotOf Z O n d ≠ RoadKit.slotOf Z "java/lang/AbstractStringBuilder" "value" "[B" → Fld Z h p0 O n d w) ∧ Fld Z h p0 "java/lang/AbstractStringBuilder" "value" "[B" (.ref a17) ∧ Fld Z h p0 "java/lang/AbstractStringBuilder" "coder" "B" (.int 0) ∧ Exa Z h p0 "java/lang/StringBuilder" ∧ Arv Z h a17 k18 .byte 34 [.int 0, .int 0, .int 0, .int 0, .int 0, .int 0, .int 0, .int 0, .int 0, .int 0, .int 0, .int 0, .int 0, .int 0, .int 0, .int 0, .int 0, .int 0, .int 0, .int 0, .int 0, .int 0, .int 0, .int 0, .int 0, .int 0, .int 0, .int 0, .int 0, .int 0, .int 0, .int 0, .int 0, .int 0] (.int 0) ∧ Exa Z h a17 "[B")) := by
  refine Met.of (EWl V) (by first | decide +kernel | rfl) hO (L0 := #[.val (.ref p0), .val (.int 18), .unset]) rfl ?_
  intro p e s m below meth c T H
  show Go p e below _ (T.setTop (mkF m 0 _ []))
  refine G.aloadN H D31_0 (J := 1) rfl rfl rfl ?_
  refine G.getF H (wd98 V) Via.refl f0 D31_1 (J := 4) rfl ?_
  intro T1 H2
  refine G.arrlen H2 f1 D31_4 (J := 5) rfl ?_
  refine G.aloadN H2 D31_5 (J := 6) rfl rfl rfl ?_
  refine G.getF H2 (wd100 V) Via.refl f2 D31_6 (J := 9) rfl ?_
  intro T3 H4
  refine G.ishr H4 D31_9 (J := 10) rfl ?_
  show Go p e below _ (T3.setTop (mkF m 10 _ [.int 16]))
  refine G.istoreN H4 (L' := #[.val (.ref p0), .val (.int 18), .val (.int 16)]) D31_10 (J := 11) rfl rfl ?_
  refine G.iloadN H4 D31_11 (J := 12) rfl rfl ?_
  refine G.iloadN H4 D31_12 (J := 13) rfl rfl ?_
  refine G.isub H4 D31_13 (J := 14) rfl ?_
  show Go p e below _ (T3.setTop (mkF m 14 _ [.int 2]))
  refine G.ifNo H4 D31_14 (J := 17) rfl (by decide) ?_
  refine G.aloadN H4 D31_17 (J := 18) rfl rfl rfl ?_
  refine G.aloadN H4 D31_18 (J := 19) rfl rfl rfl ?_
  refine G.getF H4 (wd98 V) Via.refl f0 D31_19 (J := 22) rfl ?_
  intro T5 H6
  refine G.aloadN H6 D31_22 (J := 23) rfl rfl rfl ?_
  refine G.iloadN H6 D31_23 (J := 24) rfl rfl ?_
  refine G.callV H6 (m48_newCapacity V p0 p1 c0 h0 H6.old f0 f1 f2) (wd150 V) (decl_of (wd151 V) (wd154 V)) (nf_sel (wd153 V)) (wd153 V) (wd151 V) (wd94 V) (wd154 V) (by decide) f3 (argsL := [.int 18]) (rest := [.ref p1, .ref p0]) (W := 2) rfl rfl (lenOf (pd_24) rfl) rfl rfl D31_24 (J := 27) rfl (by decide) (by decide) (by decide) (by decide) all0 ?_
  intro T7 h7_ v8 s9 H7 Q10
  obtain ⟨rfl, rfl, rfl⟩ := Q10
  show Go p e below _ (T7.setTop (mkF m 27 _ [.int 34, .ref p1, .ref p0]))
  refine G.aloadN H7 D31_27 (J := 28) rfl rfl rfl ?_
  refine G.getF H7 (wd100 V) Via.refl f2 D31_28 (J := 31) rfl ?_
  intro T11 H12
  refine G.ishl H12 D31_31 (J := 32) rfl ?_
  show Go p e below _ (T11.setTop (mkF m 32 _ [.int 34, .ref p1, .ref p0]))
  refine G.callS H12 (m50_copyOf V p1 c0 h0 H12.old f1) (wd165 V) (wd166 V) (wd167 V) (wd168 V) (by decide) (argsL := [.ref p1, .int 34]) (rest := [.ref p0]) (W := 1) rfl rfl (lenOf (pd_25) rfl) rfl rfl D31_32 (J := 35) rfl (by decide) (by decide) (by decide) (by decide) all0 ?_
  intro T13 h13_ v14 s15 H13 Q16
  obtain ⟨a17, k18, rfl, rfl, K19, g20, F21, F22⟩ := Q16
  have na17 : n0 ≤ a17 := Nat.le_trans H7.le g20
  show Go p e below _ (T13.setTop (mkF m 35 _ [.ref a17, .ref p0]))
  have F23 := (Exa.keep f3 K19)
  have F24 := (Fld.keep f0 K19 nin0)
  refine G.putF H13 (wd98 V) Via.refl F24 F23 (Or.inl (wd99 V)) (wd85 V) (ty := (.array .byte)) (by decide) rfl rfl g4 (Sf.exa F23) D31_35 (J := 38) rfl ?_
  intro T25 h25_ H25 W26
  have F27 : Fld Z h25_ p0 "java/lang/AbstractStringBuilder" "value" "[B" (.ref a17) := Fld.same W26 F24
  have F28 := (Fld.other W26 (Fld.keep f2 K19 nin0) (Or.inr (slot_ne (Or.inl (wd101 V)) (Or.inl (wd99 V)) (by decide) (t := .byte) (t' := (.array .byte)) (by decide) (by decide))))
  have F29 := (Exa.wr W26 F23)
  have N30 : a17 ≠ p0 := Ne.symm (Exa.neArv (Exa.keep f3 K19) F21 (wd85 V))
  have F31 := (Arv.other F21 W26 N30)
  have F32 := (Exa.wr W26 F22)
  have K33 : Keep h0 h25_ [p0] := (Keep.wr (Keep.trans (Keep.refl h0 [p0]) K19 all0) W26 (Or.inl (mG (i := 0) rfl)))
  exact G.retV H25 rfl D31_38 (so := [a17]) (allS (mG (i := 0) rfl) all0) (by decide) (by decide) ⟨a17, k18, rfl, rfl, K33, g20, (fun O n d w F hn0 => (Fld.other W26 (Fld.keep F K19 nin0) (Or.inr hn0))), F27, F28, F29, F31, F32⟩
theorem m52_getBytes (V : Env1 Z a0 n0 uu0 uu1 uu2 uu3 uu4) (p0 : Addr) (p1 : Addr) (p2 : Addr) (c0 : ClassId) (c1 : ClassId) (h0 : Heap) (hO : Old Z n0 h0) (f0 : Exa Z h0 p0 "java/lang/String") (f1 : Fld Z h0 p0 "java/lang/String" "coder" "B" (.int 0)) (f2 : Fld Z h0 p0 "java/lang/String" "value" "[B" (.ref p2)) (f3 : Arv Z h0 p2 c0 .byte 18 [.int 116, .int 104, .int 101, .int 32, .int 116, .int 111, .int 103, .int 103, .int 108, .int 101, .int 32, .int 111, .int 102, .int 32, .int 107, .int 101, .int 121, .int 32] (.int 0)) (f4 : Arv Z h0 p1 c1 .byte 34 [.int 0, .int 0, .int 0, .int 0, .int 0, .int 0, .int 0, .int 0, .int 0, .int 0, .int 0, .int 0, .int 0, .int 0, .int 0, .int 0, .int 0, .int 0, .int 0, .int 0, .int 0, .int 0, .int 0, .int 0, .int 0, .int 0, .int 0, .int 0, .int 0, .int 0, .int 0, .int 0, .int 0, .int 0] (.int 0)) (g5 : n0 ≤ p1) :
    Met Z a0 ELs True n0 l ⟨"java/lang/String", "getBytes", "([BIB)V"⟩ jdk_42_method_147_code 4 none ⟨1, 0, 0, 40⟩ #[.ref p0, .ref p1, .int 0, .int 0] h0 [p1] (fun v h so => (v = none ∧ so = [] ∧ Keep h0 h [p1] ∧ Arv Z h p1 c1 .byte 34 [.int 116, .int 104, .int 101, .int 32, .int 116, .int 111, .int 103, .int 103, .int 108, .int 101, .int 32, .int 111, .int 102, .int 32, .int 107, .int 101, .int 121, .int 32, .int 0, .int 0, .int 0, .int 0, .int 0, .int 0, .int 0, .int 0, .int 0, .int 0, .int 0, .int 0, .int 0, .int 0, .int 0, .int 0] (.int 0))) := by
  refine Met.of (EWl V) (by first | decide +kernel | rfl) hO (L0 := #[.val (.ref p0), .val (.ref p1), .val (.int 0), .val (.int 0)]) rfl ?_
  intro p e s m below meth c T H
  show Go p e below _ (T.setTop (mkF m 0 _ []))
  refine G.aloadN H D6_0 (J := 1) rfl rfl rfl ?_
  refine G.callV H (m18_coder V p0 h0 H.old f1) (wd118 V) (wd119 V) (nf_sel (wd121 V)) (wd121 V) (wd120 V) (wd2 V) (wd122 V) (by decide) f0 (argsL := []) (rest := []) (W := 0) rfl rfl (lenOf (pd_11) rfl) rfl rfl D6_1 (J := 4) rfl (by decide) (by decide) (by decide) (by decide) all0 ?_
  intro T1 h1_ v2 s3 H1 Q4
  obtain ⟨rfl, rfl, rfl⟩ := Q4
  show Go p e below _ (T1.setTop (mkF m 4 _ [.int 0]))
  refine G.iloadN H1 D6_4 (J := 5) rfl rfl ?_
  refine G.icmpNo H1 D6_5 (J := 8) rfl (by decide) ?_
  refine G.aloadN H1 D6_8 (J := 9) rfl rfl rfl ?_
  refine G.getF H1 (wd28 V) Via.refl f2 D6_9 (J := 12) rfl ?_
  intro T5 H6
  refine G.iconst H6 D6_12 (J := 13) rfl (v := 0) rfl ?_
  refine G.aloadN H6 D6_13 (J := 14) rfl rfl rfl ?_
  refine G.iloadN H6 D6_14 (J := 15) rfl rfl ?_
  refine G.iloadN H6 D6_15 (J := 16) rfl rfl ?_
  refine G.ishl H6 D6_16 (J := 17) rfl ?_
  show Go p e below _ (T5.setTop (mkF m 17 _ [.int 0, .ref p1, .int 0, .ref p2]))
  refine G.aloadN H6 D6_17 (J := 18) rfl rfl rfl ?_
  refine G.getF H6 (wd28 V) Via.refl f2 D6_18 (J := 21) rfl ?_
  intro T7 H8
  refine G.arrlen H8 f3 D6_21 (J := 22) rfl ?_
  refine G.copy H8 (wd146 V) (wd149 V) (wd147 V) (wd148 V) f3 f4 (us := [.int 116, .int 104, .int 101, .int 32, .int 116, .int 111, .int 103, .int 103, .int 108, .int 101, .int 32, .int 111, .int 102, .int 32, .int 107, .int 101, .int 121, .int 32]) (Or.inl ⟨rfl, rfl⟩) (by decide) (by decide) (by decide) (by decide) (by decide) rfl lB (vr := [.int 116, .int 104, .int 101, .int 32, .int 116, .int 111, .int 103, .int 103, .int 108, .int 101, .int 32, .int 111, .int 102, .int 32, .int 107, .int 101, .int 121, .int 32, .int 0, .int 0, .int 0, .int 0, .int 0, .int 0, .int 0, .int 0, .int 0, .int 0, .int 0, .int 0, .int 0, .int 0, .int 0, .int 0]) rfl g5 (Sf.mem (mG (i := 0) rfl)) (st := []) (W := 0) rfl rfl D6_22 (J := 25) rfl (by decide) (by decide) ?_
  intro T9 h9_ H9 K10 A11
  refine G.goto H9 D6_25 (by decide) (J := 43) rfl ?_
  have K12 : Keep h0 h9_ [p1] := (Keep.trans (Keep.refl h0 [p1]) K10 (allS (Or.inl (mG (i := 0) rfl)) all0))
  exact G.retV H9 rfl D6_43 (so := []) all0 (by decide) (by decide) ⟨rfl, rfl, K12, A11⟩
theorem m53_putStringAt (V : Env1 Z a0 n0 uu0 uu1 uu2 uu3 uu4) (p0 : Addr) (p1 : Addr) (p2 : Addr) (p3 : Addr) (c0 : ClassId) (c1 : ClassId) (h0 : Heap) (hO : Old Z n0 h0) (f0 : Exa Z h0 p0 "java/lang/StringBuilder") (f1 : Fld Z h0 p0 "java/lang/AbstractStringBuilder" "coder" "B" (.int 0)) (f2 : Exa Z h0 p1 "java/lang/String") (f3 : Fld Z h0 p1 "java/lang/String" "coder" "B" (.int 0)) (f4 : Fld Z h0 p0 "java/lang/AbstractStringBuilder" "value" "[B" (.ref p2)) (f5 : Fld Z h0 p1 "java/lang/String" "value" "[B" (.ref p3)) (f6 : Arv Z h0 p3 c0 .byte 18 [.int 116, .int 104, .int 101, .int 32, .int 116, .int 111, .int 103, .int 103, .int 108, .int 101, .int 32, .int 111, .int 102, .int 32, .int 107, .int 101, .int 121, .int 32] (.int 0)) (f7 : Arv Z h0 p2 c1 .byte 34 [.int 0, .int 0, .int 0, .int 0, .int 0, .int 0, .int 0, .int 0, .int 0, .int 0, .int 0, .int 0, .int 0, .int 0, .int 0, .int 0, .int 0, .int 0, .int 0, .int 0, .int 0, .int 0, .int 0, .int 0, .int 0, .int 0, .int 0, .int 0, .int 0, .int 0, .int 0, .int 0, .int 0, .int 0] (.int 0)) (g8 : n0 ≤ p2) :
    Met Z a0 ELs True n0 l ⟨"java/lang/AbstractStringBuilder", "putStringAt", "(ILjava/lang/String;)V"⟩ jdk_68_method_73_code 3 none ⟨2, 0, 0, 55⟩ #[.ref p0, .int 0, .ref p1] h0 [p2] (fun v h so => (v = none ∧ so = [] ∧ Keep h0 h [p2] ∧ Arv Z h p2 c1 .byte 34 [.int 116, .int 104, .int 101, .int 32, .int 116, .int 111, .int 103, .int 103, .int 108, .int 101, .int 32, .int 111, .int 102, .int 32, .int 107, .int 101, .int 121, .int 32, .int 0, .int 0, .int 0, .int 0, .int 0, .int 0, .int 0, .int 0, .int 0, .int 0, .int 0, .int 0, .int 0, .int 0, .int 0, .int 0] (.int 0))) := by
  refine Met.of (EWl V) (by first | decide +kernel | rfl) hO (L0 := #[.val (.ref p0), .val (.int 0), .val (.ref p1)]) rfl ?_
  intro p e s m below meth c T H
  show Go p e below _ (T.setTop (mkF m 0 _ []))
  refine G.aloadN H D30_0 (J := 1) rfl rfl rfl ?_
  refine G.aloadN H D30_1 (J := 2) rfl rfl rfl ?_
  refine G.callV H (m21_inflateIfNeededFor V p0 p1 h0 H.old f1 f2 f3) (wd135 V) (decl_of (wd136 V) (wd139 V)) (nf_sel (wd138 V)) (wd138 V) (wd136 V) (wd94 V) (wd139 V) (by decide) f0 (argsL := [.ref p1]) (rest := []) (W := 0) rfl rfl (lenOf (pd_12) rfl) rfl rfl D30_2 (J := 5) rfl (by decide) (by decide) (by decide) (by decide) all0 ?_
  intro T1 h1_ v2 s3 H1 Q4
  obtain ⟨rfl, rfl, rfl⟩ := Q4
  show Go p e below _ (T1.setTop (mkF m 5 _ []))
  refine G.aloadN H1 D30_5 (J := 6) rfl rfl rfl ?_
  refine G.aloadN H1 D30_6 (J := 7) rfl rfl rfl ?_
  refine G.getF H1 (wd98 V) Via.refl f4 D30_7 (J := 10) rfl ?_
  intro T5 H6
  refine G.iloadN H6 D30_10 (J := 11) rfl rfl ?_
  refine G.aloadN H6 D30_11 (J := 12) rfl rfl rfl ?_
  refine G.getF H6 (wd100 V) Via.refl f1 D30_12 (J := 15) rfl ?_
  intro T7 H8
  refine G.callV H8 (m52_getBytes V p1 p2 p3 c0 c1 h0 H8.old f2 f3 f5 f6 f7 g8) (wd141 V) (wd142 V) (nf_sel (wd144 V)) (wd144 V) (wd143 V) (wd2 V) (wd145 V) (by decide) f2 (argsL := [.ref p2, .int 0, .int 0]) (rest := []) (W := 0) rfl rfl (lenOf (pd_13) rfl) rfl rfl D30_15 (J := 18) rfl (by decide) (by decide) (by decide) (by decide) (allS (mG (i := 0) rfl) all0) ?_
  intro T9 h9_ v10 s11 H9 Q12
  obtain ⟨rfl, rfl, K13, F14⟩ := Q12
  show Go p e below _ (T9.setTop (mkF m 18 _ []))
  have K15 : Keep h0 h9_ [p2] := (Keep.trans (Keep.refl h0 [p2]) K13 (allS (Or.inl (mG (i := 0) rfl)) all0))
  exact G.retV H9 rfl D30_18 (so := []) all0 (by decide) (by decide) ⟨rfl, rfl, K15, F14⟩
theorem m54_append (V : Env1 Z a0 n0 uu0 uu1 uu2 uu3 uu4) (p0 : Addr) (p1 : Addr) (p2 : Addr) (c0 : ClassId) (p3 : Addr) (c1 : ClassId) (h0 : Heap) (hO : Old Z n0 h0) (f0 : Exa Z h0 p1 "java/lang/String") (f1 : Fld Z h0 p1 "java/lang/String" "value" "[B" (.ref p2)) (f2 : Arv Z h0 p2 c0 .byte 18 [.int 116, .int 104, .int 101, .int 32, .int 116, .int 111, .int 103, .int 103, .int 108, .int 101, .int 32, .int 111, .int 102, .int 32, .int 107, .int 101, .int 121, .int 32] (.int 0)) (f3 : Fld Z h0 p1 "java/lang/String" "coder" "B" (.int 0)) (f4 : Fld Z h0 p0 "java/lang/AbstractStringBuilder" "count" "I" (.int 0)) (f5 : Exa Z h0 p0 "java/lang/StringBuilder") (f6 : Fld Z h0 p0 "java/lang/AbstractStringBuilder" "value" "[B" (.ref p3)) (f7 : Arv Z h0 p3 c1 .byte 16 [.int 0, .int 0, .int 0, .int 0, .int 0, .int 0, .int 0, .int 0, .int 0, .int 0, .int 0, .int 0, .int 0, .int 0, .int 0, .int 0] (.int 0)) (f8 : Fld Z h0 p0 "java/lang/AbstractStringBuilder" "coder" "B" (.int 0)) (g9 : n0 ≤ p0) :
    Met Z a0 ELs True n0 l ⟨"java/lang/AbstractStringBuilder", "append", "(Ljava/lang/String;)Ljava/lang/AbstractStringBuilder;"⟩ jdk_68_method_22_code 3 (some (.object "java/lang/AbstractStringBuilder")) ⟨4, 1, 34, 69⟩ #[.ref p0, .ref p1] h0 [] (fun v h so => (∃ a11 : Addr, ∃ k12 : ClassId, v = some (.ref p0) ∧ so = [a11] ∧ Keep h0 h [p0] ∧ h0.size ≤ a11 ∧ (∀ (O n d : String) (w : Value), Fld Z h0 p0 O n d w → RoadKit.slotOf Z O n d ≠ RoadKit.slotOf Z "java/lang/AbstractStringBuilder" "value" "[B" → RoadKit.slotOf Z O n d ≠ RoadKit.slotOf Z "java/lang/AbstractStringBuilder" "count" "I" → Fld Z h p0 O n d w) ∧ Fld Z h p0 "java/lang/AbstractStringBuilder" "count" "I" (.int 18) ∧ Exa Z h p0 "java/lang/StringBuilder" ∧ Fld Z h p0 "java/lang/AbstractStringBuilder" "value" "[B" (.ref a11) ∧ Fld Z h p0 "java/lang/AbstractStringBuilder" "coder" "B" (.int 0) ∧ Arv Z h a11 k12 .byte 34 [.int 116, .int 104, .int 101, .int 32, .int 116, .int 111, .int 103, .int 103, .int 108, .int 101, .int 32, .int 111, .int 102, .int 32, .int 107, .int 101, .int 121, .int 32, .int 0, .int 0, .int 0, .int 0, .int 0, .int 0, .int 0, .int 0, .int 0, .int 0, .int 0, .int 0, .int 0, .int 0, .int 0, .int 0] (.int 0) ∧ Exa Z h a11 "[B")) := by
  refine Met.of (EWl V) (by first | decide +kernel | rfl) hO (L0 := #[.val (.ref p0), .val (.ref p1), .unset]) rfl ?_
  intro p e s m below meth c T H
  show Go p e below _ (T.setTop (mkF m 0 _ []))
  refine G.aloadN H D24_0 (J := 1) rfl rfl rfl ?_
  refine G.ifnonnullYes H D24_1 (by decide) (J := 9) rfl ?_
  refine G.aloadN H D24_9 (J := 10) rfl rfl rfl ?_
  refine G.callV H (m45_length V p1 p2 c0 h0 H.old f1 f2 f0 f3) (wd113 V) (wd114 V) (nf_sel (wd116 V)) (wd116 V) (wd115 V) (wd2 V) (wd117 V) (by decide) f0 (argsL := []) (rest := []) (W := 0) rfl rfl (lenOf (pd_7) rfl) rfl rfl D24_10 (J := 13) rfl (by decide) (by decide) (by decide) (by decide) all0 ?_
  intro T1 h1_ v2 s3 H1 Q4
  obtain ⟨rfl, rfl, rfl⟩ := Q4
  show Go p e below _ (T1.setTop (mkF m 13 _ [.int 18]))
  refine G.istoreN H1 (L' := #[.val (.ref p0), .val (.ref p1), .val (.int 18)]) D24_13 (J := 14) rfl rfl ?_
  refine G.aloadN H1 D24_14 (J := 15) rfl rfl rfl ?_
  refine G.aloadN H1 D24_15 (J := 16) rfl rfl rfl ?_
  refine G.getF H1 (wd123 V) Via.refl f4 D24_16 (J := 19) rfl ?_
  intro T5 H6
  refine G.iloadN H6 D24_19 (J := 20) rfl rfl ?_
  refine G.iadd H6 D24_20 (J := 21) rfl ?_
  show Go p e below _ (T5.setTop (mkF m 21 _ [.int 18, .ref p0]))
  refine G.callV H6 (m51_ensureCapacityInternal V p0 p3 c1 h0 H6.old f6 f7 f8 f5 g9) (wd125 V) (decl_of (wd126 V) (wd129 V)) (nf_sel (wd128 V)) (wd128 V) (wd126 V) (wd94 V) (wd129 V) (by decide) f5 (argsL := [.int 18]) (rest := []) (W := 0) rfl rfl (lenOf (pd_10) rfl) rfl rfl D24_21 (J := 24) rfl (by decide) (by decide) (by decide) (by decide) all0 ?_
  intro T7 h7_ v8 s9 H7 Q10
  obtain ⟨a11, k12, rfl, rfl, K13, g14, U15, F16, F17, F18, F19, F20⟩ := Q10
  have na11 : n0 ≤ a11 := Nat.le_trans H1.le g14
  show Go p e below _ (T7.setTop (mkF m 24 _ []))
  refine G.aloadN H7 D24_24 (J := 25) rfl rfl rfl ?_
  refine G.aloadN H7 D24_25 (J := 26) rfl rfl rfl ?_
  have F21 := (U15 "java/lang/AbstractStringBuilder" "count" "I" (.int 0) f4 (slot_ne (Or.inl (wd124 V)) (Or.inl (wd99 V)) (by decide) (t := .int) (t' := (.array .byte)) (by decide) (by decide)))
  refine G.getF H7 (wd123 V) Via.refl F21 D24_26 (J := 29) rfl ?_
  intro T22 H23
  refine G.aloadN H23 D24_29 (J := 30) rfl rfl rfl ?_
  have F24 := (Exa.keep f0 K13)
  have N25 : p1 ≠ p0 := Exa.ne F24 F18 (by decide)
  have F26 := (Fld.keep f3 K13 (ninS N25 nin0))
  have F27 := (Fld.keep f1 K13 (ninS N25 nin0))
  have N28 : p2 ≠ p0 := Ne.symm (Exa.neArv f5 f2 (wd85 V))
  have F29 := (Arv.keep f2 K13 (ninS N28 nin0))
  refine G.callV H23 (m53_putStringAt V p0 p1 a11 p2 c0 k12 h7_ H23.old F18 F17 F24 F26 F16 F27 F29 F19 na11) (wd130 V) (decl_of (wd131 V) (wd134 V)) (nf_sel (wd133 V)) (wd133 V) (wd131 V) (wd94 V) (wd134 V) (by decide) F18 (argsL := [.int 0, .ref p1]) (rest := []) (W := 0) rfl rfl (lenOf (pd_14) rfl) rfl rfl D24_30 (J := 33) rfl (by decide) (by decide) (by decide) (by decide) (allS (mG (i := 0) rfl) all0) ?_
  intro T30 h30_ v31 s32 H30 Q33
  obtain ⟨rfl, rfl, K34, F35⟩ := Q33
  show Go p e below _ (T30.setTop (mkF m 33 _ []))
  refine G.aloadN H30 D24_33 (J := 34) rfl rfl rfl ?_
  refine G.dup H30 D24_34 (J := 35) rfl rfl ?_
  have N36 : p0 ≠ a11 := Exa.neArv (Exa.keep F18 K34) F35 (wd85 V)
  have F37 := (Fld.keep F21 K34 (ninS N36 nin0))
  refine G.getF H30 (wd123 V) Via.refl F37 D24_35 (J := 38) rfl ?_
  intro T38 H39
  refine G.iloadN H39 D24_38 (J := 39) rfl rfl ?_
  refine G.iadd H39 D24_39 (J := 40) rfl ?_
  show Go p e below _ (T38.setTop (mkF m 40 _ [.int 18, .ref p0]))
  have F40 := (Exa.keep F18 K34)
  refine G.putF H39 (wd123 V) Via.refl F37 F40 (Or.inl (wd124 V)) (wd85 V) (ty := .int) (by decide) rfl rfl g9 (Sf.exa F40) D24_40 (J := 43) rfl ?_
  intro T41 h41_ H41 W42
  have F43 : Fld Z h41_ p0 "java/lang/AbstractStringBuilder" "count" "I" (.int 18) := Fld.same W42 F37
  refine G.aloadN H41 D24_43 (J := 44) rfl rfl rfl ?_
  have F44 := (Exa.wr W42 F40)
  have F45 := (Fld.other W42 (Fld.keep F16 K34 (ninS N36 nin0)) (Or.inr (slot_ne (Or.inl (wd99 V)) (Or.inl (wd124 V)) (by decide) (t := (.array .byte)) (t' := .int) (by decide) (by decide))))
  have F46 := (Fld.other W42 (Fld.keep F17 K34 (ninS N36 nin0)) (Or.inr (slot_ne (Or.inl (wd101 V)) (Or.inl (wd124 V)) (by decide) (t := .byte) (t' := .int) (by decide) (by decide))))
  have F47 := (Arv.other F35 W42 (Ne.symm N36))
  have K48 : Keep h7_ h41_ [a11, p0] := (Keep.wr (Keep.trans (Keep.refl h7_ [a11, p0]) K34 (allS (Or.inl (mG (i := 0) rfl)) all0)) W42 (Or.inl (mG (i := 1) rfl)))
  have F49 := (Exa.keep F20 K48)
  have K50 : Keep h0 h41_ [p0] := (Keep.wr (Keep.trans (Keep.trans (Keep.refl h0 [p0]) K13 (allS (Or.inl (mG (i := 0) rfl)) all0)) K34 (allS (Or.inr g14) all0)) W42 (Or.inl (mG (i := 0) rfl)))
  exact G.retA H41 (t := (.object "java/lang/AbstractStringBuilder")) rfl rfl rfl D24_44 (so := [a11]) (allS (mG (i := 0) rfl) all0) (by decide) (by decide) ⟨a11, k12, rfl, rfl, K50, g14, (fun O n d w F hn0 hn1 => (Fld.other W42 (Fld.keep (U15 O n d w F hn0) K34 (ninS N36 nin0)) (Or.inr hn1))), F43, F44, F45, F46, F47, F49⟩
theorem m55_append (V : Env1 Z a0 n0 uu0 uu1 uu2 uu3 uu4) (p0 : Addr) (p1 : Addr) (p2 : Addr) (c0 : ClassId) (p3 : Addr) (c1 : ClassId) (h0 : Heap) (hO : Old Z n0 h0) (f0 : Exa Z h0 p1 "java/lang/String") (f1 : Fld Z h0 p1 "java/lang/String" "value" "[B" (.ref p2)) (f2 : Arv Z h0 p2 c0 .byte 18 [.int 116, .int 104, .int 101, .int 32, .int 116, .int 111, .int 103, .int 103, .int 108, .int 101, .int 32, .int 111, .int 102, .int 32, .int 107, .int 101, .int 121, .int 32] (.int 0)) (f3 : Fld Z h0 p1 "java/lang/String" "coder" "B" (.int 0)) (f4 : Fld Z h0 p0 "java/lang/AbstractStringBuilder" "count" "I" (.int 0)) (f5 : Exa Z h0 p0 "java/lang/StringBuilder") (f6 : Fld Z h0 p0 "java/lang/AbstractStringBuilder" "value" "[B" (.ref p3)) (f7 : Arv Z h0 p3 c1 .byte 16 [.int 0, .int 0, .int 0, .int 0, .int 0, .int 0, .int 0, .int 0, .int 0, .int 0, .int 0, .int 0, .int 0, .int 0, .int 0, .int 0] (.int 0)) (f8 : Fld Z h0 p0 "java/lang/AbstractStringBuilder" "coder" "B" (.int 0)) (g9 : n0 ≤ p0) :
    Met Z a0 ELs True n0 l ⟨"java/lang/StringBuilder", "append", "(Ljava/lang/String;)Ljava/lang/StringBuilder;"⟩ jdk_67_method_7_code 2 (some (.object "java/lang/StringBuilder")) ⟨5, 1, 34, 83⟩ #[.ref p0, .ref p1] h0 [] (fun v h so => (∃ a5 : Addr, ∃ k6 : ClassId, v = some (.ref p0) ∧ so = [a5] ∧ Keep h0 h [p0] ∧ h0.size ≤ a5 ∧ (∀ (O n d : String) (w : Value), Fld Z h0 p0 O n d w → RoadKit.slotOf Z O n d ≠ RoadKit.slotOf Z "java/lang/AbstractStringBuilder" "value" "[B" → RoadKit.slotOf Z O n d ≠ RoadKit.slotOf Z "java/lang/AbstractStringBuilder" "count" "I" → Fld Z h p0 O n d w) ∧ Fld Z h p0 "java/lang/AbstractStringBuilder" "count" "I" (.int 18) ∧ Exa Z h p0 "java/lang/StringBuilder" ∧ Fld Z h p0 "java/lang/AbstractStringBuilder" "value" "[B" (.ref a5) ∧ Fld Z h p0 "java/lang/AbstractStringBuilder" "coder" "B" (.int 0) ∧ Arv Z h a5 k6 .byte 34 [.int 116, .int 104, .int 101, .int 32, .int 116, .int 111, .int 103, .int 103, .int 108, .int 101, .int 32, .int 111, .int 102, .int 32, .int 107, .int 101, .int 121, .int 32, .int 0, .int 0, .int 0, .int 0, .int 0, .int 0, .int 0, .int 0, .int 0, .int 0, .int 0, .int 0, .int 0, .int 0, .int 0, .int 0] (.int 0) ∧ Exa Z h a5 "[B")) := by
  refine Met.of (EWl V) (by first | decide +kernel | rfl) hO (L0 := #[.val (.ref p0), .val (.ref p1)]) rfl ?_
  intro p e s m below meth c T H
  show Go p e below _ (T.setTop (mkF m 0 _ []))
  refine G.aloadN H D21_0 (J := 1) rfl rfl rfl ?_
  refine G.aloadN H D21_1 (J := 2) rfl rfl rfl ?_
  refine G.callSup H (m54_append V p0 p1 p2 c0 p3 c1 h0 H.old f0 f1 f2 f3 f4 f5 f6 f7 f8 g9) (wd108 V) (same_of (wd111 V) (wd128 V) rfl (by decide)) (wd109 V) (wd110 V) (by decide) (wd94 V) (wd112 V) (a := p0) (Ins.self f5) (argsL := [.ref p1]) (rest := []) (W := 0) rfl rfl (lenOf (pd_15) rfl) rfl rfl D21_2 (J := 5) rfl (by decide) (by decide) (by decide) (by decide) all0 ?_
  intro T1 h1_ v2 s3 H1 Q4
  obtain ⟨a5, k6, rfl, rfl, K7, g8, U9, F10, F11, F12, F13, F14, F15⟩ := Q4
  have na5 : n0 ≤ a5 := Nat.le_trans H.le g8
  show Go p e below _ (T1.setTop (mkF m 5 _ [.ref p0]))
  refine G.pop H1 D21_5 (J := 6) rfl rfl ?_
  refine G.aloadN H1 D21_6 (J := 7) rfl rfl rfl ?_
  have K16 : Keep h0 h1_ [p0] := (Keep.trans (Keep.refl h0 [p0]) K7 (allS (Or.inl (mG (i := 0) rfl)) all0))
  exact G.retA H1 (t := (.object "java/lang/StringBuilder")) rfl rfl rfl D21_7 (so := [a5]) (allS (mG (i := 0) rfl) all0) (by decide) (by decide) ⟨a5, k6, rfl, rfl, K16, g8, (fun O n d w F hn0 hn1 => (U9 O n d w F hn0 hn1)), F10, F11, F12, F13, F14, F15⟩
theorem m56_ensureCapacityInternal (V : Env1 Z a0 n0 uu0 uu1 uu2 uu3 uu4) (p0 : Addr) (p1 : Addr) (c0 : ClassId) (h0 : Heap) (hO : Old Z n0 h0) (f0 : Fld Z h0 p0 "java/lang/AbstractStringBuilder" "value" "[B" (.ref p1)) (f1 : Arv Z h0 p1 c0 .byte 34 [.int 116, .int 104, .int 101, .int 32, .int 116, .int 111, .int 103, .int 103, .int 108, .int 101, .int 32, .int 111, .int 102, .int 32, .int 107, .int 101, .int 121, .int 32, .int 0, .int 0, .int 0, .int 0, .int 0, .int 0, .int 0, .int 0, .int 0, .int 0, .int 0, .int 0, .int 0, .int 0, .int 0, .int 0] (.int 0)) (f2 : Fld Z h0 p0 "java/lang/AbstractStringBuilder" "coder" "B" (.int 0)) :
    Met Z a0 ELs True n0 l ⟨"java/lang/AbstractStringBuilder", "ensureCapacityInternal", "(I)V"⟩ jdk_68_method_9_code 3 none ⟨0, 0, 0, 0⟩ #[.ref p0, .int 18] h0 [] (fun v h so => (v = none ∧ so = [] ∧ h0 = h)) := by
  refine Met.of (EWl V) (by first | decide +kernel | rfl) hO (L0 := #[.val (.ref p0), .val (.int 18), .unset]) rfl ?_
  intro p e s m below meth c T H
  show Go p e below _ (T.setTop (mkF m 0 _ []))
  refine G.aloadN H D31_0 (J := 1) rfl rfl rfl ?_
  refine G.getF H (wd98 V) Via.refl f0 D31_1 (J := 4) rfl ?_
  intro T1 H2
  refine G.arrlen H2 f1 D31_4 (J := 5) rfl ?_
  refine G.aloadN H2 D31_5 (J := 6) rfl rfl rfl ?_
  refine G.getF H2 (wd100 V) Via.refl f2 D31_6 (J := 9) rfl ?_
  intro T3 H4
  refine G.ishr H4 D31_9 (J := 10) rfl ?_
  show Go p e below _ (T3.setTop (mkF m 10 _ [.int 34]))
  refine G.istoreN H4 (L' := #[.val (.ref p0), .val (.int 18), .val (.int 34)]) D31_10 (J := 11) rfl rfl ?_
  refine G.iloadN H4 D31_11 (J := 12) rfl rfl ?_
  refine G.iloadN H4 D31_12 (J := 13) rfl rfl ?_
  refine G.isub H4 D31_13 (J := 14) rfl ?_
  show Go p e below _ (T3.setTop (mkF m 14 _ [(.int (-16 : Int32))]))
  refine G.ifYes H4 D31_14 (by decide) (by decide) (J := 38) rfl ?_
  exact G.retV H4 rfl D31_38 (so := []) all0 (by decide) (by decide) ⟨rfl, rfl, rfl⟩
theorem m57_getBytes (V : Env1 Z a0 n0 uu0 uu1 uu2 uu3 uu4) (p0 : Addr) (p1 : Addr) (p2 : Addr) (c0 : ClassId) (c1 : ClassId) (h0 : Heap) (hO : Old Z n0 h0) (f0 : Exa Z h0 p0 "java/lang/String") (f1 : Fld Z h0 p0 "java/lang/String" "coder" "B" (.int 0)) (f2 : Fld Z h0 p0 "java/lang/String" "value" "[B" (.ref p2)) (f3 : Arv Z h0 p2 c0 .byte 0 [] (.int 0)) (f4 : Arv Z h0 p1 c1 .byte 34 [.int 116, .int 104, .int 101, .int 32, .int 116, .int 111, .int 103, .int 103, .int 108, .int 101, .int 32, .int 111, .int 102, .int 32, .int 107, .int 101, .int 121, .int 32, .int 0, .int 0, .int 0, .int 0, .int 0, .int 0, .int 0, .int 0, .int 0, .int 0, .int 0, .int 0, .int 0, .int 0, .int 0, .int 0] (.int 0)) (g5 : n0 ≤ p1) :
    Met Z a0 ELs True n0 l ⟨"java/lang/String", "getBytes", "([BIB)V"⟩ jdk_42_method_147_code 4 none ⟨1, 0, 0, 40⟩ #[.ref p0, .ref p1, .int 18, .int 0] h0 [p1] (fun v h so => (v = none ∧ so = [] ∧ Keep h0 h [p1] ∧ Arv Z h p1 c1 .byte 34 [.int 116, .int 104, .int 101, .int 32, .int 116, .int 111, .int 103, .int 103, .int 108, .int 101, .int 32, .int 111, .int 102, .int 32, .int 107, .int 101, .int 121, .int 32, .int 0, .int 0, .int 0, .int 0, .int 0, .int 0, .int 0, .int 0, .int 0, .int 0, .int 0, .int 0, .int 0, .int 0, .int 0, .int 0] (.int 0))) := by
  refine Met.of (EWl V) (by first | decide +kernel | rfl) hO (L0 := #[.val (.ref p0), .val (.ref p1), .val (.int 18), .val (.int 0)]) rfl ?_
  intro p e s m below meth c T H
  show Go p e below _ (T.setTop (mkF m 0 _ []))
  refine G.aloadN H D6_0 (J := 1) rfl rfl rfl ?_
  refine G.callV H (m18_coder V p0 h0 H.old f1) (wd118 V) (wd119 V) (nf_sel (wd121 V)) (wd121 V) (wd120 V) (wd2 V) (wd122 V) (by decide) f0 (argsL := []) (rest := []) (W := 0) rfl rfl (lenOf (pd_11) rfl) rfl rfl D6_1 (J := 4) rfl (by decide) (by decide) (by decide) (by decide) all0 ?_
  intro T1 h1_ v2 s3 H1 Q4
  obtain ⟨rfl, rfl, rfl⟩ := Q4
  show Go p e below _ (T1.setTop (mkF m 4 _ [.int 0]))
  refine G.iloadN H1 D6_4 (J := 5) rfl rfl ?_
  refine G.icmpNo H1 D6_5 (J := 8) rfl (by decide) ?_
  refine G.aloadN H1 D6_8 (J := 9) rfl rfl rfl ?_
  refine G.getF H1 (wd28 V) Via.refl f2 D6_9 (J := 12) rfl ?_
  intro T5 H6
  refine G.iconst H6 D6_12 (J := 13) rfl (v := 0) rfl ?_
  refine G.aloadN H6 D6_13 (J := 14) rfl rfl rfl ?_
  refine G.iloadN H6 D6_14 (J := 15) rfl rfl ?_
  refine G.iloadN H6 D6_15 (J := 16) rfl rfl ?_
  refine G.ishl H6 D6_16 (J := 17) rfl ?_
  show Go p e below _ (T5.setTop (mkF m 17 _ [.int 18, .ref p1, .int 0, .ref p2]))
  refine G.aloadN H6 D6_17 (J := 18) rfl rfl rfl ?_
  refine G.getF H6 (wd28 V) Via.refl f2 D6_18 (J := 21) rfl ?_
  intro T7 H8
  refine G.arrlen H8 f3 D6_21 (J := 22) rfl ?_
  refine G.copy H8 (wd146 V) (wd149 V) (wd147 V) (wd148 V) f3 f4 (us := []) (Or.inl ⟨rfl, rfl⟩) (by decide) (by decide) (by decide) (by decide) (by decide) rfl lB (vr := [.int 116, .int 104, .int 101, .int 32, .int 116, .int 111, .int 103, .int 103, .int 108, .int 101, .int 32, .int 111, .int 102, .int 32, .int 107, .int 101, .int 121, .int 32, .int 0, .int 0, .int 0, .int 0, .int 0, .int 0, .int 0, .int 0, .int 0, .int 0, .int 0, .int 0, .int 0, .int 0, .int 0, .int 0]) rfl g5 (Sf.mem (mG (i := 0) rfl)) (st := []) (W := 0) rfl rfl D6_22 (J := 25) rfl (by decide) (by decide) ?_
  intro T9 h9_ H9 K10 A11
  refine G.goto H9 D6_25 (by decide) (J := 43) rfl ?_
  have K12 : Keep h0 h9_ [p1] := (Keep.trans (Keep.refl h0 [p1]) K10 (allS (Or.inl (mG (i := 0) rfl)) all0))
  exact G.retV H9 rfl D6_43 (so := []) all0 (by decide) (by decide) ⟨rfl, rfl, K12, A11⟩
theorem m58_putStringAt (V : Env1 Z a0 n0 uu0 uu1 uu2 uu3 uu4) (p0 : Addr) (p1 : Addr) (p2 : Addr) (p3 : Addr) (c0 : ClassId) (c1 : ClassId) (h0 : Heap) (hO : Old Z n0 h0) (f0 : Exa Z h0 p0 "java/lang/StringBuilder") (f1 : Fld Z h0 p0 "java/lang/AbstractStringBuilder" "coder" "B" (.int 0)) (f2 : Exa Z h0 p1 "java/lang/String") (f3 : Fld Z h0 p1 "java/lang/String" "coder" "B" (.int 0)) (f4 : Fld Z h0 p0 "java/lang/AbstractStringBuilder" "value" "[B" (.ref p2)) (f5 : Fld Z h0 p1 "java/lang/String" "value" "[B" (.ref p3)) (f6 : Arv Z h0 p3 c0 .byte 0 [] (.int 0)) (f7 : Arv Z h0 p2 c1 .byte 34 [.int 116, .int 104, .int 101, .int 32, .int 116, .int 111, .int 103, .int 103, .int 108, .int 101, .int 32, .int 111, .int 102, .int 32, .int 107, .int 101, .int 121, .int 32, .int 0, .int 0, .int 0, .int 0, .int 0, .int 0, .int 0, .int 0, .int 0, .int 0, .int 0, .int 0, .int 0, .int 0, .int 0, .int 0] (.int 0)) (g8 : n0 ≤ p2) :
    Met Z a0 ELs True n0 l ⟨"java/lang/AbstractStringBuilder", "putStringAt", "(ILjava/lang/String;)V"⟩ jdk_68_method_73_code 3 none ⟨2, 0, 0, 55⟩ #[.ref p0, .int 18, .ref p1] h0 [p2] (fun v h so => (v = none ∧ so = [] ∧ Keep h0 h [p2] ∧ Arv Z h p2 c1 .byte 34 [.int 116, .int 104, .int 101, .int 32, .int 116, .int 111, .int 103, .int 103, .int 108, .int 101, .int 32, .int 111, .int 102, .int 32, .int 107, .int 101, .int 121, .int 32, .int 0, .int 0, .int 0, .int 0, .int 0, .int 0, .int 0, .int 0, .int 0, .int 0, .int 0, .int 0, .int 0, .int 0, .int 0, .int 0] (.int 0))) := by
  refine Met.of (EWl V) (by first | decide +kernel | rfl) hO (L0 := #[.val (.ref p0), .val (.int 18), .val (.ref p1)]) rfl ?_
  intro p e s m below meth c T H
  show Go p e below _ (T.setTop (mkF m 0 _ []))
  refine G.aloadN H D30_0 (J := 1) rfl rfl rfl ?_
  refine G.aloadN H D30_1 (J := 2) rfl rfl rfl ?_
  refine G.callV H (m21_inflateIfNeededFor V p0 p1 h0 H.old f1 f2 f3) (wd135 V) (decl_of (wd136 V) (wd139 V)) (nf_sel (wd138 V)) (wd138 V) (wd136 V) (wd94 V) (wd139 V) (by decide) f0 (argsL := [.ref p1]) (rest := []) (W := 0) rfl rfl (lenOf (pd_12) rfl) rfl rfl D30_2 (J := 5) rfl (by decide) (by decide) (by decide) (by decide) all0 ?_
  intro T1 h1_ v2 s3 H1 Q4
  obtain ⟨rfl, rfl, rfl⟩ := Q4
  show Go p e below _ (T1.setTop (mkF m 5 _ []))
  refine G.aloadN H1 D30_5 (J := 6) rfl rfl rfl ?_
  refine G.aloadN H1 D30_6 (J := 7) rfl rfl rfl ?_
  refine G.getF H1 (wd98 V) Via.refl f4 D30_7 (J := 10) rfl ?_
  intro T5 H6
  refine G.iloadN H6 D30_10 (J := 11) rfl rfl ?_
  refine G.aloadN H6 D30_11 (J := 12) rfl rfl rfl ?_
  refine G.getF H6 (wd100 V) Via.refl f1 D30_12 (J := 15) rfl ?_
  intro T7 H8
  refine G.callV H8 (m57_getBytes V p1 p2 p3 c0 c1 h0 H8.old f2 f3 f5 f6 f7 g8) (wd141 V) (wd142 V) (nf_sel (wd144 V)) (wd144 V) (wd143 V) (wd2 V) (wd145 V) (by decide) f2 (argsL := [.ref p2, .int 18, .int 0]) (rest := []) (W := 0) rfl rfl (lenOf (pd_13) rfl) rfl rfl D30_15 (J := 18) rfl (by decide) (by decide) (by decide) (by decide) (allS (mG (i := 0) rfl) all0) ?_
  intro T9 h9_ v10 s11 H9 Q12
  obtain ⟨rfl, rfl, K13, F14⟩ := Q12
  show Go p e below _ (T9.setTop (mkF m 18 _ []))
  have K15 : Keep h0 h9_ [p2] := (Keep.trans (Keep.refl h0 [p2]) K13 (allS (Or.inl (mG (i := 0) rfl)) all0))
  exact G.retV H9 rfl D30_18 (so := []) all0 (by decide) (by decide) ⟨rfl, rfl, K15, F14⟩
theorem m59_append (V : Env1 Z a0 n0 uu0 uu1 uu2 uu3 uu4) (p0 : Addr) (p1 : Addr) (p2 : Addr) (c0 : ClassId) (p3 : Addr) (c1 : ClassId) (h0 : Heap) (hO : Old Z n0 h0) (f0 : Exa Z h0 p1 "java/lang/String") (f1 : Fld Z h0 p1 "java/lang/String" "value" "[B" (.ref p2)) (f2 : Arv Z h0 p2 c0 .byte 0 [] (.int 0)) (f3 : Fld Z h0 p1 "java/lang/String" "coder" "B" (.int 0)) (f4 : Fld Z h0 p0 "java/lang/AbstractStringBuilder" "count" "I" (.int 18)) (f5 : Exa Z h0 p0 "java/lang/StringBuilder") (f6 : Fld Z h0 p0 "java/lang/AbstractStringBuilder" "value" "[B" (.ref p3)) (f7 : Arv Z h0 p3 c1 .byte 34 [.int 116, .int 104, .int 101, .int 32, .int 116, .int 111, .int 103, .int 103, .int 108, .int 101, .int 32, .int 111, .int 102, .int 32, .int 107, .int 101, .int 121, .int 32, .int 0, .int 0, .int 0, .int 0, .int 0, .int 0, .int 0, .int 0, .int 0, .int 0, .int 0, .int 0, .int 0, .int 0, .int 0, .int 0] (.int 0)) (f8 : Fld Z h0 p0 "java/lang/AbstractStringBuilder" "coder" "B" (.int 0)) (g9 : n0 ≤ p3) (g10 : n0 ≤ p0) :
    Met Z a0 ELs True n0 l ⟨"java/lang/AbstractStringBuilder", "append", "(Ljava/lang/String;)Ljava/lang/AbstractStringBuilder;"⟩ jdk_68_method_22_code 3 (some (.object "java/lang/AbstractStringBuilder")) ⟨3, 0, 0, 69⟩ #[.ref p0, .ref p1] h0 [p3] (fun v h so => (v = some (.ref p0) ∧ so = [] ∧ Keep h0 h [p3, p0] ∧ (∀ (O n d : String) (w : Value), Fld Z h0 p0 O n d w → RoadKit.slotOf Z O n d ≠ RoadKit.slotOf Z "java/lang/AbstractStringBuilder" "count" "I" → Fld Z h p0 O n d w) ∧ Arv Z h p3 c1 .byte 34 [.int 116, .int 104, .int 101, .int 32, .int 116, .int 111, .int 103, .int 103, .int 108, .int 101, .int 32, .int 111, .int 102, .int 32, .int 107, .int 101, .int 121, .int 32, .int 0, .int 0, .int 0, .int 0, .int 0, .int 0, .int 0, .int 0, .int 0, .int 0, .int 0, .int 0, .int 0, .int 0, .int 0, .int 0] (.int 0) ∧ Fld Z h p0 "java/lang/AbstractStringBuilder" "count" "I" (.int 18) ∧ Exa Z h p0 "java/lang/StringBuilder" ∧ Fld Z h p0 "java/lang/AbstractStringBuilder" "value" "[B" (.ref p3) ∧ Fld Z h p0 "java/lang/AbstractStringBuilder" "coder" "B" (.int 0))) := by
  refine Met.of (EWl V) (by first | decide +kernel | rfl) hO (L0 := #[.val (.ref p0), .val (.ref p1), .unset]) rfl ?_
  intro p e s m below meth c T H
  show Go p e below _ (T.setTop (mkF m 0 _ []))
  refine G.aloadN H D24_0 (J := 1) rfl rfl rfl ?_
  refine G.ifnonnullYes H D24_1 (by decide) (J := 9) rfl ?_
  refine G.aloadN H D24_9 (J := 10) rfl rfl rfl ?_
  refine G.callV H (m26_length V p1 p2 c0 h0 H.old f1 f2 f0 f3) (wd113 V) (wd114 V) (nf_sel (wd116 V)) (wd116 V) (wd115 V) (wd2 V) (wd117 V) (by decide) f0 (argsL := []) (rest := []) (W := 0) rfl rfl (lenOf (pd_7) rfl) rfl rfl D24_10 (J := 13) rfl (by decide) (by decide) (by decide) (by decide) all0 ?_
  intro T1 h1_ v2 s3 H1 Q4
  obtain ⟨rfl, rfl, rfl⟩ := Q4
  show Go p e below _ (T1.setTop (mkF m 13 _ [.int 0]))
  refine G.istoreN H1 (L' := #[.val (.ref p0), .val (.ref p1), .val (.int 0)]) D24_13 (J := 14) rfl rfl ?_
  refine G.aloadN H1 D24_14 (J := 15) rfl rfl rfl ?_
  refine G.aloadN H1 D24_15 (J := 16) rfl rfl rfl ?_
  refine G.getF H1 (wd123 V) Via.refl f4 D24_16 (J := 19) rfl ?_
  intro T5 H6
  refine G.iloadN H6 D24_19 (J := 20) rfl rfl ?_
  refine G.iadd H6 D24_20 (J := 21) rfl ?_
  show Go p e below _ (T5.setTop (mkF m 21 _ [.int 18, .ref p0]))
  refine G.callV H6 (m56_ensureCapacityInternal V p0 p3 c1 h0 H6.old f6 f7 f8) (wd125 V) (decl_of (wd126 V) (wd129 V)) (nf_sel (wd128 V)) (wd128 V) (wd126 V) (wd94 V) (wd129 V) (by decide) f5 (argsL := [.int 18]) (rest := []) (W := 0) rfl rfl (lenOf (pd_10) rfl) rfl rfl D24_21 (J := 24) rfl (by decide) (by decide) (by decide) (by decide) all0 ?_
  intro T7 h7_ v8 s9 H7 Q10
  obtain ⟨rfl, rfl, rfl⟩ := Q10
  show Go p e below _ (T7.setTop (mkF m 24 _ []))
  refine G.aloadN H7 D24_24 (J := 25) rfl rfl rfl ?_
  refine G.aloadN H7 D24_25 (J := 26) rfl rfl rfl ?_
  refine G.getF H7 (wd123 V) Via.refl f4 D24_26 (J := 29) rfl ?_
  intro T11 H12
  refine G.aloadN H12 D24_29 (J := 30) rfl rfl rfl ?_
  refine G.callV H12 (m58_putStringAt V p0 p1 p3 p2 c0 c1 h0 H12.old f5 f8 f0 f3 f6 f1 f2 f7 g9) (wd130 V) (decl_of (wd131 V) (wd134 V)) (nf_sel (wd133 V)) (wd133 V) (wd131 V) (wd94 V) (wd134 V) (by decide) f5 (argsL := [.int 18, .ref p1]) (rest := []) (W := 0) rfl rfl (lenOf (pd_14) rfl) rfl rfl D24_30 (J := 33) rfl (by decide) (by decide) (by decide) (by decide) (allS (mG (i := 0) rfl) all0) ?_
  intro T13 h13_ v14 s15 H13 Q16
  obtain ⟨rfl, rfl, K17, F18⟩ := Q16
  show Go p e below _ (T13.setTop (mkF m 33 _ []))
  refine G.aloadN H13 D24_33 (J := 34) rfl rfl rfl ?_
  refine G.dup H13 D24_34 (J := 35) rfl rfl ?_
  have N19 : p0 ≠ p3 := Exa.neArv (Exa.keep f5 K17) F18 (wd85 V)
  have F20 := (Fld.keep f4 K17 (ninS N19 nin0))
  refine G.getF H13 (wd123 V) Via.refl F20 D24_35 (J := 38) rfl ?_
  intro T21 H22
  refine G.iloadN H22 D24_38 (J := 39) rfl rfl ?_
  refine G.iadd H22 D24_39 (J := 40) rfl ?_
  show Go p e below _ (T21.setTop (mkF m 40 _ [.int 18, .ref p0]))
  have F23 := (Exa.keep f5 K17)
  refine G.putF H22 (wd123 V) Via.refl F20 F23 (Or.inl (wd124 V)) (wd85 V) (ty := .int) (by decide) rfl rfl g10 (Sf.exa F23) D24_40 (J := 43) rfl ?_
  intro T24 h24_ H24 W25
  have F26 : Fld Z h24_ p0 "java/lang/AbstractStringBuilder" "count" "I" (.int 18) := Fld.same W25 F20
  refine G.aloadN H24 D24_43 (J := 44) rfl rfl rfl ?_
  have F27 := (Arv.other F18 W25 (Ne.symm N19))
  have F28 := (Exa.wr W25 F23)
  have F29 := (Fld.other W25 (Fld.keep f6 K17 (ninS N19 nin0)) (Or.inr (slot_ne (Or.inl (wd99 V)) (Or.inl (wd124 V)) (by decide) (t := (.array .byte)) (t' := .int) (by decide) (by decide))))
  have F30 := (Fld.other W25 (Fld.keep f8 K17 (ninS N19 nin0)) (Or.inr (slot_ne (Or.inl (wd101 V)) (Or.inl (wd124 V)) (by decide) (t := .byte) (t' := .int) (by decide) (by decide))))
  have K31 : Keep h0 h24_ [p3, p0] := (Keep.wr (Keep.trans (Keep.refl h0 [p3, p0]) K17 (allS (Or.inl (mG (i := 0) rfl)) all0)) W25 (Or.inl (mG (i := 1) rfl)))
  exact G.retA H24 (t := (.object "java/lang/AbstractStringBuilder")) rfl rfl rfl D24_44 (so := []) all0 (by decide) (by decide) ⟨rfl, rfl, K31, (fun O n d w F hn0 => (Fld.other W25 (Fld.keep F K17 (ninS N19 nin0)) (Or.inr hn0))), F27, F26, F28, F29, F30⟩
theorem m60_append (V : Env1 Z a0 n0 uu0 uu1 uu2 uu3 uu4) (p0 : Addr) (p1 : Addr) (p2 : Addr) (c0 : ClassId) (p3 : Addr) (c1 : ClassId) (h0 : Heap) (hO : Old Z n0 h0) (f0 : Exa Z h0 p1 "java/lang/String") (f1 : Fld Z h0 p1 "java/lang/String" "value" "[B" (.ref p2)) (f2 : Arv Z h0 p2 c0 .byte 0 [] (.int 0)) (f3 : Fld Z h0 p1 "java/lang/String" "coder" "B" (.int 0)) (f4 : Fld Z h0 p0 "java/lang/AbstractStringBuilder" "count" "I" (.int 18)) (f5 : Exa Z h0 p0 "java/lang/StringBuilder") (f6 : Fld Z h0 p0 "java/lang/AbstractStringBuilder" "value" "[B" (.ref p3)) (f7 : Arv Z h0 p3 c1 .byte 34 [.int 116, .int 104, .int 101, .int 32, .int 116, .int 111, .int 103, .int 103, .int 108, .int 101, .int 32, .int 111, .int 102, .int 32, .int 107, .int 101, .int 121, .int 32, .int 0, .int 0, .int 0, .int 0, .int 0, .int 0, .int 0, .int 0, .int 0, .int 0, .int 0, .int 0, .int 0, .int 0, .int 0, .int 0] (.int 0)) (f8 : Fld Z h0 p0 "java/lang/AbstractStringBuilder" "coder" "B" (.int 0)) (g9 : n0 ≤ p3) (g10 : n0 ≤ p0) :
    Met Z a0 ELs True n0 l ⟨"java/lang/StringBuilder", "append", "(Ljava/lang/String;)Ljava/lang/StringBuilder;"⟩ jdk_67_method_7_code 2 (some (.object "java/lang/StringBuilder")) ⟨4, 0, 0, 83⟩ #[.ref p0, .ref p1] h0 [p3] (fun v h so => (v = some (.ref p0) ∧ so = [] ∧ Keep h0 h [p3, p0] ∧ (∀ (O n d : String) (w : Value), Fld Z h0 p0 O n d w → RoadKit.slotOf Z O n d ≠ RoadKit.slotOf Z "java/lang/AbstractStringBuilder" "count" "I" → Fld Z h p0 O n d w) ∧ Arv Z h p3 c1 .byte 34 [.int 116, .int 104, .int 101, .int 32, .int 116, .int 111, .int 103, .int 103, .int 108, .int 101, .int 32, .int 111, .int 102, .int 32, .int 107, .int 101, .int 121, .int 32, .int 0, .int 0, .int 0, .int 0, .int 0, .int 0, .int 0, .int 0, .int 0, .int 0, .int 0, .int 0, .int 0, .int 0, .int 0, .int 0] (.int 0) ∧ Fld Z h p0 "java/lang/AbstractStringBuilder" "count" "I" (.int 18) ∧ Exa Z h p0 "java/lang/StringBuilder" ∧ Fld Z h p0 "java/lang/AbstractStringBuilder" "value" "[B" (.ref p3) ∧ Fld Z h p0 "java/lang/AbstractStringBuilder" "coder" "B" (.int 0))) := by
  refine Met.of (EWl V) (by first | decide +kernel | rfl) hO (L0 := #[.val (.ref p0), .val (.ref p1)]) rfl ?_
  intro p e s m below meth c T H
  show Go p e below _ (T.setTop (mkF m 0 _ []))
  refine G.aloadN H D21_0 (J := 1) rfl rfl rfl ?_
  refine G.aloadN H D21_1 (J := 2) rfl rfl rfl ?_
  refine G.callSup H (m59_append V p0 p1 p2 c0 p3 c1 h0 H.old f0 f1 f2 f3 f4 f5 f6 f7 f8 g9 g10) (wd108 V) (same_of (wd111 V) (wd128 V) rfl (by decide)) (wd109 V) (wd110 V) (by decide) (wd94 V) (wd112 V) (a := p0) (Ins.self f5) (argsL := [.ref p1]) (rest := []) (W := 0) rfl rfl (lenOf (pd_15) rfl) rfl rfl D21_2 (J := 5) rfl (by decide) (by decide) (by decide) (by decide) (allS (mG (i := 0) rfl) all0) ?_
  intro T1 h1_ v2 s3 H1 Q4
  obtain ⟨rfl, rfl, K5, U6, F7, F8, F9, F10, F11⟩ := Q4
  show Go p e below _ (T1.setTop (mkF m 5 _ [.ref p0]))
  refine G.pop H1 D21_5 (J := 6) rfl rfl ?_
  refine G.aloadN H1 D21_6 (J := 7) rfl rfl rfl ?_
  have K12 : Keep h0 h1_ [p3, p0] := (Keep.trans (Keep.refl h0 [p3, p0]) K5 (allS (Or.inl (mG (i := 0) rfl)) (allS (Or.inl (mG (i := 1) rfl)) all0)))
  exact G.retA H1 (t := (.object "java/lang/StringBuilder")) rfl rfl rfl D21_7 (so := []) all0 (by decide) (by decide) ⟨rfl, rfl, K12, (fun O n d w F hn0 => (U6 O n d w F hn0)), F7, F8, F9, F10, F11⟩
theorem m61_length (V : Env1 Z a0 n0 uu0 uu1 uu2 uu3 uu4) (p0 : Addr) (h0 : Heap) (hO : Old Z n0 h0) (f0 : Fld Z h0 p0 "java/lang/AbstractStringBuilder" "count" "I" (.int 18)) :
    Met Z a0 ELs True n0 l ⟨"java/lang/AbstractStringBuilder", "length", "()I"⟩ jdk_68_method_6_code 1 (some .int) ⟨0, 0, 0, 0⟩ #[.ref p0] h0 [] (fun v h so => (v = some (.int 18) ∧ so = [] ∧ h0 = h)) := by
  refine Met.of (EWl V) (by first | decide +kernel | rfl) hO (L0 := #[.val (.ref p0)]) rfl ?_
  intro p e s m below meth c T H
  show Go p e below _ (T.setTop (mkF m 0 _ []))
  refine G.aloadN H D28_0 (J := 1) rfl rfl rfl ?_
  refine G.getF H (wd123 V) Via.refl f0 D28_1 (J := 4) rfl ?_
  intro T1 H2
  exact G.retI H2 rfl D28_4 (so := []) all0 (by decide) (by decide) ⟨rfl, rfl, rfl⟩
theorem m62_length (V : Env1 Z a0 n0 uu0 uu1 uu2 uu3 uu4) (p0 : Addr) (h0 : Heap) (hO : Old Z n0 h0) (f0 : Fld Z h0 p0 "java/lang/AbstractStringBuilder" "count" "I" (.int 18)) (f1 : Exa Z h0 p0 "java/lang/StringBuilder") :
    Met Z a0 ELs True n0 l ⟨"java/lang/StringBuilder", "length", "()I"⟩ jdk_67_method_93_code 1 (some .int) ⟨1, 0, 0, 12⟩ #[.ref p0] h0 [] (fun v h so => (v = some (.int 18) ∧ so = [] ∧ h0 = h)) := by
  refine Met.of (EWl V) (by first | decide +kernel | rfl) hO (L0 := #[.val (.ref p0)]) rfl ?_
  intro p e s m below meth c T H
  show Go p e below _ (T.setTop (mkF m 0 _ []))
  refine G.aloadN H D22_0 (J := 1) rfl rfl rfl ?_
  refine G.callSup H (m61_length V p0 h0 H.old f0) (wd196 V) (same_of (wd191 V) (wd128 V) rfl (by decide)) (wd192 V) (wd110 V) (by decide) (wd94 V) (wd197 V) (a := p0) (Ins.self f1) (argsL := []) (rest := []) (W := 0) rfl rfl (lenOf (pd_7) rfl) rfl rfl D22_1 (J := 4) rfl (by decide) (by decide) (by decide) (by decide) all0 ?_
  intro T1 h1_ v2 s3 H1 Q4
  obtain ⟨rfl, rfl, rfl⟩ := Q4
  show Go p e below _ (T1.setTop (mkF m 4 _ [.int 18]))
  exact G.retI H1 rfl D22_4 (so := []) all0 (by decide) (by decide) ⟨rfl, rfl, rfl⟩
theorem m63_checkLength (V : Env1 Z a0 n0 uu0 uu1 uu2 uu3 uu4)  (h0 : Heap) (hO : Old Z n0 h0)  :
    Met Z a0 ELs True n0 l ⟨"java/util/Arrays", "checkLength", "(II)V"⟩ jdk_65_method_131_code 2 none ⟨0, 0, 0, 0⟩ #[.int 0, .int 18] h0 [] (fun v h so => (v = none ∧ so = [] ∧ h0 = h)) := by
  refine Met.of (EWl V) (by first | decide +kernel | rfl) hO (L0 := #[.val (.int 0), .val (.int 18)]) rfl ?_
  intro p e s m below meth c T H
  show Go p e below _ (T.setTop (mkF m 0 _ []))
  refine G.iloadN H D16_0 (J := 1) rfl rfl ?_
  refine G.iloadN H D16_1 (J := 2) rfl rfl ?_
  refine G.icmpYes H D16_2 (by decide) (by decide) (J := 37) rfl ?_
  exact G.retV H rfl D16_37 (so := []) all0 (by decide) (by decide) ⟨rfl, rfl, rfl⟩
theorem m64_min (V : Env1 Z a0 n0 uu0 uu1 uu2 uu3 uu4)  (h0 : Heap) (hO : Old Z n0 h0)  :
    Met Z a0 ELs True n0 l ⟨"java/lang/Math", "min", "(II)I"⟩ jdk_29_method_69_code 2 (some .int) ⟨0, 0, 0, 0⟩ #[.int 34, .int 18] h0 [] (fun v h so => (v = some (.int 18) ∧ so = [] ∧ h0 = h)) := by
  refine Met.of (EWl V) (by first | decide +kernel | rfl) hO (L0 := #[.val (.int 34), .val (.int 18)]) rfl ?_
  intro p e s m below meth c T H
  show Go p e below _ (T.setTop (mkF m 0 _ []))
  refine G.iloadN H D1_0 (J := 1) rfl rfl ?_
  refine G.iloadN H D1_1 (J := 2) rfl rfl ?_
  refine G.icmpYes H D1_2 (by decide) (by decide) (J := 9) rfl ?_
  refine G.iloadN H D1_9 (J := 10) rfl rfl ?_
  exact G.retI H rfl D1_10 (so := []) all0 (by decide) (by decide) ⟨rfl, rfl, rfl⟩
theorem m65_copyOfRangeByte (V : Env1 Z a0 n0 uu0 uu1 uu2 uu3 uu4) (p0 : Addr) (c0 : ClassId) (h0 : Heap) (hO : Old Z n0 h0) (f0 : Arv Z h0 p0 c0 .byte 34 [.int 116, .int 104, .int 101, .int 32, .int 116, .int 111, .int 103, .int 103, .int 108, .int 101, .int 32, .int 111, .int 102, .int 32, .int 107, .int 101, .int 121, .int 32, .int 0, .int 0, .int 0, .int 0, .int 0, .int 0, .int 0, .int 0, .int 0, .int 0, .int 0, .int 0, .int 0, .int 0, .int 0, .int 0] (.int 0)) :
    Met Z a0 ELs True n0 l ⟨"java/util/Arrays", "copyOfRangeByte", "([BII)[B"⟩ jdk_65_method_133_code 5 (some (.array .byte)) ⟨1, 1, 18, 40⟩ #[.ref p0, .int 0, .int 18] h0 [] (fun v h so => (∃ a6 : Addr, ∃ k9 : ClassId, v = some (.ref a6) ∧ so = [a6] ∧ Keep h0 h [] ∧ h0.size ≤ a6 ∧ Arv Z h a6 k9 .byte 18 [.int 116, .int 104, .int 101, .int 32, .int 116, .int 111, .int 103, .int 103, .int 108, .int 101, .int 32, .int 111, .int 102, .int 32, .int 107, .int 101, .int 121, .int 32] (.int 0) ∧ Exa Z h a6 "[B")) := by
  refine Met.of (EWl V) (by first | decide +kernel | rfl) hO (L0 := #[.val (.ref p0), .val (.int 0), .val (.int 18), .unset, .unset]) rfl ?_
  intro p e s m below meth c T H
  show Go p e below _ (T.setTop (mkF m 0 _ []))
  refine G.iloadN H D18_0 (J := 1) rfl rfl ?_
  refine G.iloadN H D18_1 (J := 2) rfl rfl ?_
  refine G.callS H (m63_checkLength V h0 H.old) (wd209 V) (wd210 V) (wd167 V) (wd211 V) (by decide) (argsL := [.int 0, .int 18]) (rest := []) (W := 0) rfl rfl (lenOf (pd_26) rfl) rfl rfl D18_2 (J := 5) rfl (by decide) (by decide) (by decide) (by decide) all0 ?_
  intro T1 h1_ v2 s3 H1 Q4
  obtain ⟨rfl, rfl, rfl⟩ := Q4
  show Go p e below _ (T1.setTop (mkF m 5 _ []))
  refine G.iloadN H1 D18_5 (J := 6) rfl rfl ?_
  refine G.iloadN H1 D18_6 (J := 7) rfl rfl ?_
  refine G.isub H1 D18_7 (J := 8) rfl ?_
  show Go p e below _ (T1.setTop (mkF m 8 _ [.int 18]))
  refine G.istoreN H1 (L' := #[.val (.ref p0), .val (.int 0), .val (.int 18), .val (.int 18), .unset]) D18_8 (J := 9) rfl rfl ?_
  refine G.iloadN H1 D18_9 (J := 10) rfl rfl ?_
  refine G.newP H1 (aty := .byte) (wd4 V) D18_10 (J := 12) rfl (by decide) (cap := 18) (by decide) (by decide) (by decide) (by decide) (vs := [.int 0, .int 0, .int 0, .int 0, .int 0, .int 0, .int 0, .int 0, .int 0, .int 0, .int 0, .int 0, .int 0, .int 0, .int 0, .int 0, .int 0, .int 0]) rfl (ad := "[B") rfl ?_
  intro T5 h5_ a6 k9 ga6 H5 E7 A8 X10
  have na6 := H1.nle ga6
  replace A8 : Arv Z h5_ a6 k9 .byte 18 [.int 0, .int 0, .int 0, .int 0, .int 0, .int 0, .int 0, .int 0, .int 0, .int 0, .int 0, .int 0, .int 0, .int 0, .int 0, .int 0, .int 0, .int 0] (.int 0) := A8
  refine G.astore H5 (L' := #[.val (.ref p0), .val (.int 0), .val (.int 18), .val (.int 18), .val (.ref a6)]) D18_12 (J := 14) rfl rfl rfl ?_
  refine G.aloadN H5 D18_14 (J := 15) rfl rfl rfl ?_
  refine G.iloadN H5 D18_15 (J := 16) rfl rfl ?_
  refine G.aload H5 D18_16 (J := 18) rfl rfl rfl ?_
  refine G.iconst H5 D18_18 (J := 19) rfl (v := 0) rfl ?_
  refine G.aloadN H5 D18_19 (J := 20) rfl rfl rfl ?_
  have F11 := (Arv.ext f0 E7)
  refine G.arrlen H5 F11 D18_20 (J := 21) rfl ?_
  refine G.iloadN H5 D18_21 (J := 22) rfl rfl ?_
  refine G.isub H5 D18_22 (J := 23) rfl ?_
  show Go p e below _ (T5.setTop (mkF m 23 _ [.int 34, .int 0, .ref a6, .int 0, .ref p0]))
  refine G.iloadN H5 D18_23 (J := 24) rfl rfl ?_
  refine G.callS H5 (m64_min V h5_ H5.old) (wd169 V) (wd170 V) (wd161 V) (wd171 V) (by decide) (argsL := [.int 34, .int 18]) (rest := [.int 0, .ref a6, .int 0, .ref p0]) (W := 4) rfl rfl (lenOf (pd_22) rfl) rfl rfl D18_24 (J := 27) rfl (by decide) (by decide) (by decide) (by decide) all0 ?_
  intro T12 h12_ v13 s14 H12 Q15
  obtain ⟨rfl, rfl, rfl⟩ := Q15
  show Go p e below _ (T12.setTop (mkF m 27 _ [.int 18, .int 0, .ref a6, .int 0, .ref p0]))
  refine G.copy H12 (wd172 V) (wd149 V) (wd147 V) (wd148 V) F11 A8 (us := [.int 116, .int 104, .int 101, .int 32, .int 116, .int 111, .int 103, .int 103, .int 108, .int 101, .int 32, .int 111, .int 102, .int 32, .int 107, .int 101, .int 121, .int 32]) (Or.inl ⟨rfl, rfl⟩) (by decide) (by decide) (by decide) (by decide) (by decide) rfl lB (vr := [.int 116, .int 104, .int 101, .int 32, .int 116, .int 111, .int 103, .int 103, .int 108, .int 101, .int 32, .int 111, .int 102, .int 32, .int 107, .int 101, .int 121, .int 32]) rfl na6 (Sf.mem (mG (i := 0) rfl)) (st := []) (W := 0) rfl rfl D18_27 (J := 30) rfl (by decide) (by decide) ?_
  intro T16 h16_ H16 K17 A18
  refine G.aload H16 D18_30 (J := 32) rfl rfl rfl ?_
  have F19 := (Exa.keep X10 K17)
  have K20 : Keep h0 h16_ [] := (Keep.trans (Keep.ext (Keep.refl h0 []) E7) K17 (allS (Or.inr (Nat.le_of_eq ga6.symm)) all0))
  exact G.retA H16 (t := (.array .byte)) rfl rfl rfl D18_32 (so := [a6]) (allS (mG (i := 0) rfl) all0) (by decide) (by decide) ⟨a6, k9, rfl, rfl, K20, (Nat.le_of_eq ga6.symm), A18, F19⟩
theorem m66_copyOfRange (V : Env1 Z a0 n0 uu0 uu1 uu2 uu3 uu4) (p0 : Addr) (c0 : ClassId) (h0 : Heap) (hO : Old Z n0 h0) (f0 : Arv Z h0 p0 c0 .byte 34 [.int 116, .int 104, .int 101, .int 32, .int 116, .int 111, .int 103, .int 103, .int 108, .int 101, .int 32, .int 111, .int 102, .int 32, .int 107, .int 101, .int 121, .int 32, .int 0, .int 0, .int 0, .int 0, .int 0, .int 0, .int 0, .int 0, .int 0, .int 0, .int 0, .int 0, .int 0, .int 0, .int 0, .int 0] (.int 0)) :
    Met Z a0 ELs True n0 l ⟨"java/util/Arrays", "copyOfRange", "([BII)[B"⟩ jdk_65_method_132_code 3 (some (.array .byte)) ⟨2, 1, 18, 56⟩ #[.ref p0, .int 0, .int 18] h0 [] (fun v h so => (∃ a5 : Addr, ∃ k6 : ClassId, v = some (.ref a5) ∧ so = [a5] ∧ Keep h0 h [] ∧ h0.size ≤ a5 ∧ Arv Z h a5 k6 .byte 18 [.int 116, .int 104, .int 101, .int 32, .int 116, .int 111, .int 103, .int 103, .int 108, .int 101, .int 32, .int 111, .int 102, .int 32, .int 107, .int 101, .int 121, .int 32] (.int 0) ∧ Exa Z h a5 "[B")) := by
  refine Met.of (EWl V) (by first | decide +kernel | rfl) hO (L0 := #[.val (.ref p0), .val (.int 0), .val (.int 18)]) rfl ?_
  intro p e s m below meth c T H
  show Go p e below _ (T.setTop (mkF m 0 _ []))
  refine G.iloadN H D17_0 (J := 1) rfl rfl ?_
  refine G.ifNo H D17_1 (J := 4) rfl (by decide) ?_
  refine G.iloadN H D17_4 (J := 5) rfl rfl ?_
  refine G.aloadN H D17_5 (J := 6) rfl rfl rfl ?_
  refine G.arrlen H f0 D17_6 (J := 7) rfl ?_
  refine G.icmpNo H D17_7 (J := 10) rfl (by decide) ?_
  refine G.aloadN H D17_10 (J := 11) rfl rfl rfl ?_
  refine G.iloadN H D17_11 (J := 12) rfl rfl ?_
  refine G.iloadN H D17_12 (J := 13) rfl rfl ?_
  refine G.callS H (m65_copyOfRangeByte V p0 c0 h0 H.old f0) (wd206 V) (wd207 V) (wd167 V) (wd208 V) (by decide) (argsL := [.ref p0, .int 0, .int 18]) (rest := []) (W := 0) rfl rfl (lenOf (pd_19) rfl) rfl rfl D17_13 (J := 16) rfl (by decide) (by decide) (by decide) (by decide) all0 ?_
  intro T1 h1_ v2 s3 H1 Q4
  obtain ⟨a5, k6, rfl, rfl, K7, g8, F9, F10⟩ := Q4
  have na5 : n0 ≤ a5 := Nat.le_trans H.le g8
  show Go p e below _ (T1.setTop (mkF m 16 _ [.ref a5]))
  have K11 : Keep h0 h1_ [] := (Keep.trans (Keep.refl h0 []) K7 all0)
  exact G.retA H1 (t := (.array .byte)) rfl rfl rfl D17_16 (so := [a5]) (allS (mG (i := 0) rfl) all0) (by decide) (by decide) ⟨a5, k6, rfl, rfl, K11, g8, F9, F10⟩
theorem m67_init (V : Env1 Z a0 n0 uu0 uu1 uu2 uu3 uu4) (p0 : Addr) (p1 : Addr) (p2 : Addr) (c0 : ClassId) (h0 : Heap) (hO : Old Z n0 h0) (f0 : Exa Z h0 p1 "java/lang/StringBuilder") (f1 : Fld Z h0 p1 "java/lang/AbstractStringBuilder" "value" "[B" (.ref p2)) (f2 : Fld Z h0 p1 "java/lang/AbstractStringBuilder" "count" "I" (.int 18)) (f3 : Fld Z h0 p1 "java/lang/AbstractStringBuilder" "coder" "B" (.int 0)) (f4 : Exa Z h0 p0 "java/lang/String") (f5 : Fld Z h0 p0 "java/lang/String" "coder" "B" (.int 0)) (g6 : n0 ≤ p0) (f7 : Arv Z h0 p2 c0 .byte 34 [.int 116, .int 104, .int 101, .int 32, .int 116, .int 111, .int 103, .int 103, .int 108, .int 101, .int 32, .int 111, .int 102, .int 32, .int 107, .int 101, .int 121, .int 32, .int 0, .int 0, .int 0, .int 0, .int 0, .int 0, .int 0, .int 0, .int 0, .int 0, .int 0, .int 0, .int 0, .int 0, .int 0, .int 0] (.int 0)) (f8 : Fld Z h0 p0 "java/lang/String" "value" "[B" .null) :
    Met Z a0 ELs True n0 l ⟨"java/lang/String", "<init>", "(Ljava/lang/AbstractStringBuilder;Ljava/lang/Void;)V"⟩ jdk_42_method_150_code 5 none ⟨3, 1, 18, 71⟩ #[.ref p0, .ref p1, .null] h0 [p0] (fun v h so => (∃ a24 : Addr, ∃ k25 : ClassId, v = none ∧ so = [a24] ∧ Keep h0 h [p0] ∧ h0.size ≤ a24 ∧ (∀ (O n d : String) (w : Value), Fld Z h0 p0 O n d w → RoadKit.slotOf Z O n d ≠ RoadKit.slotOf Z "java/lang/String" "coder" "B" → RoadKit.slotOf Z O n d ≠ RoadKit.slotOf Z "java/lang/String" "value" "[B" → Fld Z h p0 O n d w) ∧ Exa Z h p0 "java/lang/String" ∧ Fld Z h p0 "java/lang/String" "coder" "B" (.int 0) ∧ Fld Z h p0 "java/lang/String" "value" "[B" (.ref a24) ∧ Arv Z h a24 k25 .byte 18 [.int 116, .int 104, .int 101, .int 32, .int 116, .int 111, .int 103, .int 103, .int 108, .int 101, .int 32, .int 111, .int 102, .int 32, .int 107, .int 101, .int 121, .int 32] (.int 0) ∧ Exa Z h a24 "[B")) := by
  refine Met.of (EWl V) (by first | decide +kernel | rfl) hO (L0 := #[.val (.ref p0), .val (.ref p1), .val .null, .unset, .unset]) rfl ?_
  intro p e s m below meth c T H
  show Go p e below _ (T.setTop (mkF m 0 _ []))
  refine G.aloadN H D7_0 (J := 1) rfl rfl rfl ?_
  refine G.initO H (wd25 V) (wd26 V) (wd27 V) rfl D7_1 (J := 4) rfl (by decide) (W := 0) rfl (by decide) ?_
  intro T1 H2
  refine G.aloadN H2 D7_4 (J := 5) rfl rfl rfl ?_
  refine G.callV H2 (m32_getValue V p1 p2 h0 H2.old f1) (wd185 V) (wd186 V) (nf_sel (wd188 V)) (wd188 V) (wd187 V) (wd94 V) (wd189 V) (by decide) f0 (argsL := []) (rest := []) (W := 0) rfl rfl (lenOf (pd_17) rfl) rfl rfl D7_5 (J := 8) rfl (by decide) (by decide) (by decide) (by decide) all0 ?_
  intro T3 h3_ v4 s5 H3 Q6
  obtain ⟨rfl, rfl, rfl⟩ := Q6
  show Go p e below _ (T3.setTop (mkF m 8 _ [.ref p2]))
  refine G.astoreN H3 (L' := #[.val (.ref p0), .val (.ref p1), .val .null, .val (.ref p2), .unset]) D7_8 (J := 9) rfl rfl rfl ?_
  refine G.aloadN H3 D7_9 (J := 10) rfl rfl rfl ?_
  refine G.callV H3 (m62_length V p1 h0 H3.old f2 f0) (wd190 V) (wd191 V) (nf_sib (wd128 V) rfl) (wd193 V) (wd194 V) (wd86 V) (wd195 V) (by decide) f0 (argsL := []) (rest := []) (W := 0) rfl rfl (lenOf (pd_7) rfl) rfl rfl D7_10 (J := 13) rfl (by decide) (by decide) (by decide) (by decide) all0 ?_
  intro T7 h7_ v8 s9 H7 Q10
  obtain ⟨rfl, rfl, rfl⟩ := Q10
  show Go p e below _ (T7.setTop (mkF m 13 _ [.int 18]))
  refine G.istore H7 (L' := #[.val (.ref p0), .val (.ref p1), .val .null, .val (.ref p2), .val (.int 18)]) D7_13 (J := 15) rfl rfl ?_
  refine G.aloadN H7 D7_15 (J := 16) rfl rfl rfl ?_
  refine G.callV H7 (m35_isLatin1 V p1 h0 H7.old f3) (wd198 V) (wd199 V) (nf_sel (wd201 V)) (wd201 V) (wd200 V) (wd94 V) (wd202 V) (by decide) f0 (argsL := []) (rest := []) (W := 0) rfl rfl (lenOf (pd_18) rfl) rfl rfl D7_16 (J := 19) rfl (by decide) (by decide) (by decide) (by decide) all0 ?_
  intro T11 h11_ v12 s13 H11 Q14
  obtain ⟨rfl, rfl, rfl⟩ := Q14
  show Go p e below _ (T11.setTop (mkF m 19 _ [.int 1]))
  refine G.ifNo H11 D7_19 (J := 22) rfl (by decide) ?_
  refine G.aloadN H11 D7_22 (J := 23) rfl rfl rfl ?_
  refine G.iconst H11 D7_23 (J := 24) rfl (v := 0) rfl ?_
  refine G.putF H11 (wd29 V) Via.refl f5 f4 (Or.inr ⟨(wd6 V), rfl, rfl⟩) (wd3 V) (ty := .byte) (by decide) rfl rfl g6 (Sf.mem (mG (i := 0) rfl)) D7_24 (J := 27) rfl ?_
  intro T15 h15_ H15 W16
  have F17 : Fld Z h15_ p0 "java/lang/String" "coder" "B" (.int 0) := Fld.same W16 f5
  refine G.aloadN H15 D7_27 (J := 28) rfl rfl rfl ?_
  refine G.aloadN H15 D7_28 (J := 29) rfl rfl rfl ?_
  refine G.iconst H15 D7_29 (J := 30) rfl (v := 0) rfl ?_
  refine G.iload H15 D7_30 (J := 32) rfl rfl ?_
  have N18 : p2 ≠ p0 := Ne.symm (Exa.neArv f4 f7 (wd3 V))
  have F19 := (Arv.other f7 W16 N18)
  refine G.callS H15 (m66_copyOfRange V p2 c0 h15_ H15.old F19) (wd203 V) (wd204 V) (wd167 V) (wd205 V) (by decide) (argsL := [.ref p2, .int 0, .int 18]) (rest := [.ref p0]) (W := 1) rfl rfl (lenOf (pd_19) rfl) rfl rfl D7_32 (J := 35) rfl (by decide) (by decide) (by decide) (by decide) all0 ?_
  intro T20 h20_ v21 s22 H20 Q23
  obtain ⟨a24, k25, rfl, rfl, K26, g27, F28, F29⟩ := Q23
  have na24 : n0 ≤ a24 := Nat.le_trans H15.le g27
  show Go p e below _ (T20.setTop (mkF m 35 _ [.ref a24, .ref p0]))
  have K30 : Keep h0 h20_ [p0] := (Keep.trans (Keep.wr (Keep.refl h0 [p0]) W16 (Or.inl (mG (i := 0) rfl))) K26 all0)
  have F31 := (Exa.keep f4 K30)
  have F32 := (Fld.keep (Fld.other W16 f8 (Or.inr (slot_ne (Or.inr (wd5 V)) (Or.inr (wd6 V)) (by decide) (t := (.array .byte)) (t' := .byte) (by decide) (by decide)))) K26 nin0)
  refine G.putF H20 (wd28 V) Via.refl F32 F31 (Or.inr ⟨(wd5 V), rfl, rfl⟩) (wd3 V) (ty := (.array .byte)) (by decide) rfl rfl g6 (Sf.mem (mG (i := 1) rfl)) D7_35 (J := 38) rfl ?_
  intro T33 h33_ H33 W34
  have F35 : Fld Z h33_ p0 "java/lang/String" "value" "[B" (.ref a24) := Fld.same W34 F32
  refine G.goto H33 D7_38 (by decide) (J := 97) rfl ?_
  have F36 := (Exa.wr W34 F31)
  have F37 := (Fld.other W34 (Fld.keep F17 K26 nin0) (Or.inr (slot_ne (Or.inr (wd6 V)) (Or.inr (wd5 V)) (by decide) (t := .byte) (t' := (.array .byte)) (by decide) (by decide))))
  have N38 : a24 ≠ p0 := Ne.symm (Exa.neArv (Exa.keep (Exa.wr W16 f4) K26) F28 (wd3 V))
  have F39 := (Arv.other F28 W34 N38)
  have F40 := (Exa.wr W34 F29)
  have K41 : Keep h0 h33_ [p0] := (Keep.wr (Keep.trans (Keep.wr (Keep.refl h0 [p0]) W16 (Or.inl (mG (i := 0) rfl))) K26 all0) W34 (Or.inl (mG (i := 0) rfl)))
  have K42 : Keep h0 h15_ [p0] := (Keep.wr (Keep.refl h0 [p0]) W16 (Or.inl (mG (i := 0) rfl)))
  exact G.retV H33 rfl D7_97 (so := [a24]) (allS (mG (i := 0) rfl) all0) (by decide) (by decide) ⟨a24, k25, rfl, rfl, K41, (Nat.le_trans K42.1 g27), (fun O n d w F hn0 hn1 => (Fld.other W34 (Fld.keep (Fld.other W16 F (Or.inr hn0)) K26 nin0) (Or.inr hn1))), F36, F37, F35, F39, F40⟩
theorem m68_init (V : Env1 Z a0 n0 uu0 uu1 uu2 uu3 uu4) (p0 : Addr) (p1 : Addr) (p2 : Addr) (c0 : ClassId) (h0 : Heap) (hO : Old Z n0 h0) (f0 : Exa Z h0 p1 "java/lang/StringBuilder") (f1 : Fld Z h0 p1 "java/lang/AbstractStringBuilder" "value" "[B" (.ref p2)) (f2 : Fld Z h0 p1 "java/lang/AbstractStringBuilder" "count" "I" (.int 18)) (f3 : Fld Z h0 p1 "java/lang/AbstractStringBuilder" "coder" "B" (.int 0)) (f4 : Exa Z h0 p0 "java/lang/String") (f5 : Fld Z h0 p0 "java/lang/String" "coder" "B" (.int 0)) (g6 : n0 ≤ p0) (f7 : Arv Z h0 p2 c0 .byte 34 [.int 116, .int 104, .int 101, .int 32, .int 116, .int 111, .int 103, .int 103, .int 108, .int 101, .int 32, .int 111, .int 102, .int 32, .int 107, .int 101, .int 121, .int 32, .int 0, .int 0, .int 0, .int 0, .int 0, .int 0, .int 0, .int 0, .int 0, .int 0, .int 0, .int 0, .int 0, .int 0, .int 0, .int 0] (.int 0)) (f8 : Fld Z h0 p0 "java/lang/String" "value" "[B" .null) :
    Met Z a0 ELs True n0 l ⟨"java/lang/String", "<init>", "(Ljava/lang/StringBuilder;)V"⟩ jdk_42_method_53_code 2 none ⟨4, 1, 18, 87⟩ #[.ref p0, .ref p1] h0 [p0] (fun v h so => (∃ a5 : Addr, ∃ k6 : ClassId, v = none ∧ so = [a5] ∧ Keep h0 h [p0] ∧ h0.size ≤ a5 ∧ (∀ (O n d : String) (w : Value), Fld Z h0 p0 O n d w → RoadKit.slotOf Z O n d ≠ RoadKit.slotOf Z "java/lang/String" "coder" "B" → RoadKit.slotOf Z O n d ≠ RoadKit.slotOf Z "java/lang/String" "value" "[B" → Fld Z h p0 O n d w) ∧ Exa Z h p0 "java/lang/String" ∧ Fld Z h p0 "java/lang/String" "coder" "B" (.int 0) ∧ Fld Z h p0 "java/lang/String" "value" "[B" (.ref a5) ∧ Arv Z h a5 k6 .byte 18 [.int 116, .int 104, .int 101, .int 32, .int 116, .int 111, .int 103, .int 103, .int 108, .int 101, .int 32, .int 111, .int 102, .int 32, .int 107, .int 101, .int 121, .int 32] (.int 0) ∧ Exa Z h a5 "[B")) := by
  refine Met.of (EWl V) (by first | decide +kernel | rfl) hO (L0 := #[.val (.ref p0), .val (.ref p1)]) rfl ?_
  intro p e s m below meth c T H
  show Go p e below _ (T.setTop (mkF m 0 _ []))
  refine G.aloadN H D10_0 (J := 1) rfl rfl rfl ?_
  refine G.aloadN H D10_1 (J := 2) rfl rfl rfl ?_
  refine G.aconstNull H D10_2 (J := 3) rfl ?_
  refine G.callI H (m67_init V p0 p1 p2 c0 h0 H.old f0 f1 f2 f3 f4 f5 g6 f7 f8) rfl (wd182 V) (wd183 V) (wd2 V) (wd184 V) (by decide) (a := p0) (argsL := [.ref p1, .null]) (rest := []) (W := 0) rfl rfl (lenOf (pd_20) rfl) rfl rfl D10_3 (J := 6) rfl (by decide) (by decide) (by decide) (by decide) (allS (mG (i := 0) rfl) all0) ?_
  intro T1 h1_ v2 s3 H1 Q4
  obtain ⟨a5, k6, rfl, rfl, K7, g8, U9, F10, F11, F12, F13, F14⟩ := Q4
  have na5 : n0 ≤ a5 := Nat.le_trans H.le g8
  show Go p e below _ (T1.setTop (mkF m 6 _ []))
  have K15 : Keep h0 h1_ [p0] := (Keep.trans (Keep.refl h0 [p0]) K7 (allS (Or.inl (mG (i := 0) rfl)) all0))
  exact G.retV H1 rfl D10_6 (so := [a5]) (allS (mG (i := 0) rfl) all0) (by decide) (by decide) ⟨a5, k6, rfl, rfl, K15, g8, (fun O n d w F hn0 hn1 => (U9 O n d w F hn0 hn1)), F10, F11, F12, F13, F14⟩
theorem m69_toString (V : Env1 Z a0 n0 uu0 uu1 uu2 uu3 uu4) (p0 : Addr) (p1 : Addr) (c0 : ClassId) (h0 : Heap) (hO : Old Z n0 h0) (f0 : Exa Z h0 p0 "java/lang/StringBuilder") (f1 : Fld Z h0 p0 "java/lang/AbstractStringBuilder" "value" "[B" (.ref p1)) (f2 : Fld Z h0 p0 "java/lang/AbstractStringBuilder" "count" "I" (.int 18)) (f3 : Fld Z h0 p0 "java/lang/AbstractStringBuilder" "coder" "B" (.int 0)) (f4 : Arv Z h0 p1 c0 .byte 34 [.int 116, .int 104, .int 101, .int 32, .int 116, .int 111, .int 103, .int 103, .int 108, .int 101, .int 32, .int 111, .int 102, .int 32, .int 107, .int 101, .int 121, .int 32, .int 0, .int 0, .int 0, .int 0, .int 0, .int 0, .int 0, .int 0, .int 0, .int 0, .int 0, .int 0, .int 0, .int 0, .int 0, .int 0] (.int 0)) :
    Met Z a0 ELs True n0 l ⟨"java/lang/StringBuilder", "toString", "()Ljava/lang/String;"⟩ jdk_67_method_42_code 1 (some (.object "java/lang/String")) ⟨5, 2, 22, 101⟩ #[.ref p0] h0 [] (fun v h so => (∃ a2 a17 : Addr, ∃ k18 : ClassId, v = some (.ref a2) ∧ so = [a2, a17] ∧ Keep h0 h [] ∧ h0.size ≤ a2 ∧ a2 < a17 ∧ Str Z h a2 a17 k18 [116, 104, 101, 32, 116, 111, 103, 103, 108, 101, 32, 111, 102, 32, 107, 101, 121, 32] ∧ Fld Z h a2 "java/lang/String" "value" "[B" (.ref a17) ∧ Fld Z h a2 "java/lang/String" "coder" "B" (.int 0))) := by
  refine Met.of (EWl V) (by first | decide +kernel | rfl) hO (L0 := #[.val (.ref p0)]) rfl ?_
  intro p e s m below meth c T H
  show Go p e below _ (T.setTop (mkF m 0 _ []))
  refine G.new H (wd178 V) (wd3 V) (wd2 V) D20_0 (J := 3) rfl (by decide) (by decide) ?_
  intro T1 h1_ a2 ga2 H1 E3 A4 D5
  have na2 := H.nle ga2
  refine G.dup H1 D20_3 (J := 4) rfl rfl ?_
  refine G.aloadN H1 D20_4 (J := 5) rfl rfl rfl ?_
  have F6 := (Exa.ext E3 f0)
  have F7 := (Fld.ext E3 f1)
  have F8 := (Fld.ext E3 f2)
  have F9 := (Fld.ext E3 f3)
  have F10 : Fld Z h1_ a2 "java/lang/String" "coder" "B" (.int 0) := D5 (Or.inr (wd6 V)) (ty := .byte) (by decide)
  have F11 := (Arv.ext f4 E3)
  have F12 : Fld Z h1_ a2 "java/lang/String" "value" "[B" .null := D5 (Or.inr (wd5 V)) (ty := (.array .byte)) (by decide)
  refine G.callI H1 (m68_init V a2 p0 p1 c0 h1_ H1.old F6 F7 F8 F9 A4 F10 na2 F11 F12) rfl (wd179 V) (wd180 V) (wd2 V) (wd181 V) (by decide) (a := a2) (argsL := [.ref p0]) (rest := [.ref a2]) (W := 1) rfl rfl (lenOf (pd_21) rfl) rfl rfl D20_5 (J := 8) rfl (by decide) (by decide) (by decide) (by decide) (allS (mG (i := 0) rfl) all0) ?_
  intro T13 h13_ v14 s15 H13 Q16
  obtain ⟨a17, k18, rfl, rfl, K19, g20, U21, F22, F23, F24, F25, F26⟩ := Q16
  have na17 : n0 ≤ a17 := Nat.le_trans H1.le g20
  show Go p e below _ (T13.setTop (mkF m 8 _ [.ref a2]))
  have S27 : Str Z h13_ a2 a17 k18 [116, 104, 101, 32, 116, 111, 103, 103, 108, 101, 32, 111, 102, 32, 107, 101, 121, 32] := ⟨F22, F23, F24, F25, (cbS (by decide) (cbS (by decide) (cbS (by decide) (cbS (by decide) (cbS (by decide) (cbS (by decide) (cbS (by decide) (cbS (by decide) (cbS (by decide) (cbS (by decide) (cbS (by decide) (cbS (by decide) (cbS (by decide) (cbS (by decide) (cbS (by decide) (cbS (by decide) (cbS (by decide) (cbS (by decide) cb0)))))))))))))))))), Nat.le_of_ble_eq_true rfl⟩
  have K28 : Keep h0 h13_ [] := (Keep.trans (Keep.ext (Keep.refl h0 []) E3) K19 (allS (Or.inr (Nat.le_of_eq ga2.symm)) all0))
  exact G.retA H13 (t := (.object "java/lang/String")) rfl rfl rfl D20_8 (so := [a2, a17]) (allS (mG (i := 1) rfl) (allS (mG (i := 0) rfl) all0)) (by decide) (by decide) ⟨a2, a17, k18, rfl, rfl, K28, (Nat.le_of_eq ga2.symm), (Nat.lt_of_lt_of_le A4.lt g20), S27, F24, F23⟩
theorem m70_description (V : Env1 Z a0 n0 uu0 uu1 uu2 uu3 uu4) (p0 : Addr) (p1 : Addr) (p2 : Addr) (c0 : ClassId) (h0 : Heap) (hO : Old Z n0 h0) (f0 : Fld Z h0 p0 "com/example/formboard/formboard/core/Board$Live" "part" "Lcom/example/formboard/formboard/core/Board$Part;" (.ref uu2)) (f1 : Fld Z h0 p0 "com/example/formboard/formboard/core/Board$Live" "key" "Ljava/lang/String;" (.ref p1)) (f2 : Exa Z h0 p1 "java/lang/String") (f3 : Fld Z h0 p1 "java/lang/String" "value" "[B" (.ref p2)) (f4 : Arv Z h0 p2 c0 .byte 0 [] (.int 0)) (f5 : Fld Z h0 p1 "java/lang/String" "coder" "B" (.int 0)) :
    Met Z a0 ELs True n0 l ⟨"com/example/formboard/formboard/core/Board$Live", "description", "()Ljava/lang/String;"⟩ prog_16_method_2_code 1 (some (.object "java/lang/String")) ⟨6, 7, 152, 113⟩ #[.ref p0] h0 [] (fun v h so => (∃ a84 a85 : Addr, ∃ k86 : ClassId, v = some (.ref a84) ∧ so = [] ∧ Keep h0 h [] ∧ h0.size ≤ a84 ∧ a84 < a85 ∧ Str Z h a84 a85 k86 [116, 104, 101, 32, 116, 111, 103, 103, 108, 101, 32, 111, 102, 32, 107, 101, 121, 32])) := by
  refine Met.of (EWl V) (by first | decide +kernel | rfl) hO (L0 := #[.val (.ref p0)]) rfl ?_
  intro p e s m below meth c T H
  show Go p e below _ (T.setTop (mkF m 0 _ []))
  refine G.aloadN H D34_0 (J := 1) rfl rfl rfl ?_
  refine G.getF H (wd51 V) Via.refl f0 D34_1 (J := 4) rfl ?_
  intro T1 H2
  have B3 := Exa.ext H2.old.2 (hv5 V)
  refine G.callVU H2 (y := ⟨"com/example/formboard/formboard/core/Board$Part", "ordinal", "()I"⟩) (m44_ordinal V h0 H2.old) (wd62 V) (wd63 V) (wd64 V) (by decide) (wd66 V) (wd65 V) (wd67 V) (wd68 V) B3 (argsL := []) (rest := []) (W := 0) rfl rfl (lenOf (pd_7) rfl) rfl rfl D34_4 (J := 7) rfl (by decide) (by decide) (by decide) (by decide) all0 ?_
  intro T4 h4_ v5 s6 H4 Q7
  obtain ⟨rfl, rfl, rfl⟩ := Q7
  show Go p e below _ (T4.setTop (mkF m 7 _ [.int 2]))
  refine G.tswIn H4 D34_7 (by decide) (o := 65) rfl (by decide) (J := 72) rfl ?_
  refine G.new H4 (wd84 V) (wd85 V) (wd86 V) D34_72 (J := 75) rfl (by decide) (by decide) ?_
  intro T8 h8_ a9 ga9 H8 E10 A11 D12
  have na9 := H4.nle ga9
  refine G.dup H8 D34_75 (J := 76) rfl rfl ?_
  have F13 : Fld Z h8_ a9 "java/lang/AbstractStringBuilder" "value" "[B" .null := D12 (Or.inl (wd99 V)) (ty := (.array .byte)) (by decide)
  have F14 : Fld Z h8_ a9 "java/lang/AbstractStringBuilder" "coder" "B" (.int 0) := D12 (Or.inl (wd101 V)) (ty := .byte) (by decide)
  refine G.callI H8 (m17_init V a9 h8_ H8.old A11 F13 na9 F14) rfl (wd87 V) (wd88 V) (wd86 V) (wd89 V) (by decide) (a := a9) (argsL := []) (rest := [.ref a9]) (W := 1) rfl rfl (lenOf (pd_4) rfl) rfl rfl D34_76 (J := 79) rfl (by decide) (by decide) (by decide) (by decide) all0 ?_
  intro T15 h15_ v16 s17 H15 Q18
  obtain ⟨a19, k20, rfl, rfl, K21, g22, U23, F24, F25, F26, F27, F28⟩ := Q18
  have na19 : n0 ≤ a19 := Nat.le_trans H8.le g22
  show Go p e below _ (T15.setTop (mkF m 79 _ [.ref a9]))
  refine G.ldcS H15 trivial (wS V) (wd235 V) (by decide) (vs := [.int 116, .int 104, .int 101, .int 32, .int 116, .int 111, .int 103, .int 103, .int 108, .int 101, .int 32, .int 111, .int 102, .int 32, .int 107, .int 101, .int 121, .int 32]) (z := 18) (by decide) (by decide) rfl (n := 72) (by decide) (by decide) (by decide) (by decide) D34_79 (J := 81) rfl ?_
  intro T29 h29_ a30 b32 k33 H29 E31 X34 F35 F36 A37 Q38
  have S39 : Str Z h29_ a30 b32 k33 [116, 104, 101, 32, 116, 111, 103, 103, 108, 101, 32, 111, 102, 32, 107, 101, 121, 32] := ⟨X34, F35, F36, A37, by decide, by decide⟩
  have F40 := (Exa.ext E31 F24)
  have F41 : Fld Z h8_ a9 "java/lang/AbstractStringBuilder" "count" "I" (.int 0) := D12 (Or.inl (wd124 V)) (ty := .int) (by decide)
  have F42 := (Fld.ext E31 (U23 "java/lang/AbstractStringBuilder" "count" "I" (.int 0) F41 (slot_ne (Or.inl (wd124 V)) (Or.inl (wd99 V)) (by decide) (t := .int) (t' := (.array .byte)) (by decide) (by decide)) (slot_ne (Or.inl (wd124 V)) (Or.inl (wd101 V)) (by decide) (t := .int) (t' := .byte) (by decide) (by decide))))
  have F43 := (Fld.ext E31 F25)
  have F44 := (Arv.ext F27 E31)
  have F45 := (Fld.ext E31 F26)
  refine G.callV H29 (m55_append V a9 a30 b32 k33 a19 k20 h29_ H29.old X34 F36 A37 F35 F42 F40 F43 F44 F45 na9) (wd103 V) (wd104 V) (nf_sel (wd106 V)) (wd106 V) (wd105 V) (wd86 V) (wd107 V) (by decide) F40 (argsL := [.ref a30]) (rest := []) (W := 0) rfl rfl (lenOf (pd_16) rfl) rfl rfl D34_81 (J := 84) rfl (by decide) (by decide) (by decide) (by decide) all0 ?_
  intro T46 h46_ v47 s48 H46 Q49
  obtain ⟨a50, k51, rfl, rfl, K52, g53, U54, F55, F56, F57, F58, F59, F60⟩ := Q49
  have na50 : n0 ≤ a50 := Nat.le_trans H29.le g53
  show Go p e below _ (T46.setTop (mkF m 84 _ [.ref a9]))
  refine G.aloadN H46 D34_84 (J := 85) rfl rfl rfl ?_
  have K61 : Keep h0 h46_ [] := (Keep.trans (Keep.ext (Keep.trans (Keep.ext (Keep.refl h0 []) E10) K21 (allS (Or.inr (Nat.le_of_eq ga9.symm)) all0)) E31) K52 (allS (Or.inr (Nat.le_of_eq ga9.symm)) all0))
  have F62 := (Fld.keep f1 K61 nin0)
  refine G.getF H46 (wd53 V) Via.refl F62 D34_85 (J := 88) rfl ?_
  intro T63 H64
  have F65 := (Exa.keep f2 K61)
  have F66 := (Fld.keep f3 K61 nin0)
  have F67 := (Arv.keep f4 K61 nin0)
  have F68 := (Fld.keep f5 K61 nin0)
  refine G.callV H64 (m60_append V a9 p1 p2 c0 a50 k51 h46_ H64.old F65 F66 F67 F68 F55 F56 F57 F59 F58 na50 na9) (wd103 V) (wd104 V) (nf_sel (wd106 V)) (wd106 V) (wd105 V) (wd86 V) (wd107 V) (by decide) F56 (argsL := [.ref p1]) (rest := []) (W := 0) rfl rfl (lenOf (pd_16) rfl) rfl rfl D34_88 (J := 91) rfl (by decide) (by decide) (by decide) (by decide) (allS (mG (i := 0) rfl) all0) ?_
  intro T69 h69_ v70 s71 H69 Q72
  obtain ⟨rfl, rfl, K73, U74, F75, F76, F77, F78, F79⟩ := Q72
  show Go p e below _ (T69.setTop (mkF m 91 _ [.ref a9]))
  refine G.callV H69 (m69_toString V a9 a50 k51 h69_ H69.old F77 F78 F76 F79 F75) (wd173 V) (wd174 V) (nf_sel (wd176 V)) (wd176 V) (wd175 V) (wd86 V) (wd177 V) (by decide) F77 (argsL := []) (rest := []) (W := 0) rfl rfl (lenOf (pd_8) rfl) rfl rfl D34_91 (J := 94) rfl (by decide) (by decide) (by decide) (by decide) all0 ?_
  intro T80 h80_ v81 s82 H80 Q83
  obtain ⟨a84, a85, k86, rfl, rfl, K87, g88, g89, F90, F91, F92⟩ := Q83
  have na84 : n0 ≤ a84 := Nat.le_trans H69.le g88
  have na85 : n0 ≤ a85 := Nat.le_trans H69.le (Nat.le_of_lt (Nat.lt_of_le_of_lt g88 g89))
  show Go p e below _ (T80.setTop (mkF m 94 _ [.ref a84]))
  have K93 : Keep h0 h29_ [] := (Keep.ext (Keep.trans (Keep.ext (Keep.refl h0 []) E10) K21 (allS (Or.inr (Nat.le_of_eq ga9.symm)) all0)) E31)
  have K94 : Keep h0 h80_ [] := (Keep.trans (Keep.trans (Keep.trans (Keep.ext (Keep.trans (Keep.ext (Keep.refl h0 []) E10) K21 (allS (Or.inr (Nat.le_of_eq ga9.symm)) all0)) E31) K52 (allS (Or.inr (Nat.le_of_eq ga9.symm)) all0)) K73 (allS (Or.inr (Nat.le_trans K93.1 g53)) (allS (Or.inr (Nat.le_of_eq ga9.symm)) all0))) K87 all0)
  have K95 : Keep h0 h69_ [] := (Keep.trans (Keep.trans (Keep.ext (Keep.trans (Keep.ext (Keep.refl h0 []) E10) K21 (allS (Or.inr (Nat.le_of_eq ga9.symm)) all0)) E31) K52 (allS (Or.inr (Nat.le_of_eq ga9.symm)) all0)) K73 (allS (Or.inr (Nat.le_trans K93.1 g53)) (allS (Or.inr (Nat.le_of_eq ga9.symm)) all0)))
  exact G.retA H80 (t := (.object "java/lang/String")) rfl rfl rfl D34_94 (so := []) all0 (by decide) (by decide) ⟨a84, a85, k86, rfl, rfl, K94, (Nat.le_trans K95.1 g88), g89, F90⟩
theorem m71_expected (V : Env1 Z a0 n0 uu0 uu1 uu2 uu3 uu4) (x0 : Int32) (x1 : Int32) (h0 : Heap) (hO : Old Z n0 h0)  :
    Met Z a0 ELs True n0 l ⟨"com/example/formboard/formboard/core/LiveDescriptionPinLaw", "expected", "(IICC)Ljava/lang/String;"⟩ method_3_code 4 (some (.object "java/lang/String")) ⟨0, 2, 76, 0⟩ #[.int 2, .int 0, .int x0, .int x1] h0 [] (fun v h so => (∃ a2 b4 : Addr, ∃ k5 : ClassId, v = some (.ref a2) ∧ so = [] ∧ Keep h0 h [] ∧ Str Z h a2 b4 k5 [116, 104, 101, 32, 116, 111, 103, 103, 108, 101, 32, 111, 102, 32, 107, 101, 121, 32])) := by
  refine Met.of (EWl V) (by first | decide +kernel | rfl) hO (L0 := #[.val (.int 2), .val (.int 0), .val (.int x0), .val (.int x1)]) rfl ?_
  intro p e s m below meth c T H
  show Go p e below _ (T.setTop (mkF m 0 _ []))
  refine G.iloadN H D32_0 (J := 1) rfl rfl ?_
  refine G.ifYes H D32_1 (by decide) (by decide) (J := 7) rfl ?_
  refine G.iloadN H D32_7 (J := 8) rfl rfl ?_
  refine G.iconst H D32_8 (J := 9) rfl (v := 1) rfl ?_
  refine G.icmpYes H D32_9 (by decide) (by decide) (J := 243) rfl ?_
  refine G.iloadN H D32_243 (J := 244) rfl rfl ?_
  refine G.ifNo H D32_244 (J := 247) rfl (by decide) ?_
  refine G.ldcS H trivial (wS V) (wd236 V) (by decide) (vs := [.int 116, .int 104, .int 101, .int 32, .int 116, .int 111, .int 103, .int 103, .int 108, .int 101, .int 32, .int 111, .int 102, .int 32, .int 107, .int 101, .int 121, .int 32]) (z := 18) (by decide) (by decide) rfl (n := 72) (by decide) (by decide) (by decide) (by decide) D32_247 (J := 249) rfl ?_
  intro T1 h1_ a2 b4 k5 H1 E3 X6 F7 F8 A9 Q10
  have S11 : Str Z h1_ a2 b4 k5 [116, 104, 101, 32, 116, 111, 103, 103, 108, 101, 32, 111, 102, 32, 107, 101, 121, 32] := ⟨X6, F7, F8, A9, by decide, by decide⟩
  have K12 : Keep h0 h1_ [] := (Keep.ext (Keep.refl h0 []) E3)
  exact G.retA H1 (t := (.object "java/lang/String")) rfl rfl rfl D32_249 (so := []) all0 (by decide) (by decide) ⟨a2, b4, k5, rfl, rfl, K12, S11⟩
theorem cut72_96 (V : Env1 Z a0 n0 uu0 uu1 uu2 uu3 uu4) (x90096 : Int32) (x0 : Int32) (x1 : Int32) (x2 : Int32) (x3 : Int32) (p0 : Addr) (p1 : Addr) (p2 : Addr) (c0 : ClassId) (H : Hs p l e room_1 s m as' below meth c Z a0 ELs True x.cls n0 code maxLocals ret x.name T h0 4 9 []) (sp : x90096 = 0 ∨ x90096 = 1 ∨ x90096 = 2) (f1 : Exa Z h0 p0 "java/lang/String") (f2 : Fld Z h0 p0 "java/lang/String" "value" "[B" (.ref p2)) (f3 : Arv Z h0 p2 c0 .byte 0 [] (.int 0)) (f4 : Fld Z h0 p0 "java/lang/String" "coder" "B" (.int 0)) :
    Go p e below (FinP s below Z ELs True n0 room_1.cells room_1.slots (fun v h so => v = some (.int 1))) (T.setTop (mkF m 96 #[.val (.int x0), .val (.int x1), .val (.int x2), .val (.int x3), .val (.int x90096), .val (.int 0), .val (.int (x2 &&& 255)), .val (.int ((XT.ushr x2 8) &&& 255)), .val (.ref p0), .val (.ref p1), .unset, .unset, .unset, .unset] [])) := by
  rcases sp with rfl | rfl | rfl
  ·
    refine G.iload H at_96 (J := 98) rfl rfl ?_
    refine G.ifNo H at_98 (J := 101) rfl (by decide) ?_
    refine G.getS H (wd30 V) Via.refl (Sta.ext H.old.2 (hv2 V)) at_101 (J := 104) rfl ?_
    intro T1 H2
    refine G.astore H2 (L' := #[.val (.int x0), .val (.int x1), .val (.int x2), .val (.int x3), .val (.int 0), .val (.int 0), .val (.int (x2 &&& 255)), .val (.int ((XT.ushr x2 8) &&& 255)), .val (.ref p0), .val (.ref p1), .val (.ref uu1), .unset, .unset, .unset]) at_104 (J := 106) rfl rfl rfl ?_
    refine G.goto H2 at_106 (by decide) (J := 128) rfl ?_
    refine G.iload H2 at_128 (J := 130) rfl rfl ?_
    refine G.ifNo H2 at_130 (J := 133) rfl (by decide) ?_
    refine G.iloadN H2 at_133 (J := 134) rfl rfl ?_
    refine G.sipush H2 at_134 (J := 137) rfl (v := 256) rfl ?_
    refine G.iand H2 at_137 (J := 138) rfl ?_
    by_cases c3 : (x3 &&& 256) = 0
    ·
      refine G.ifYes H2 at_138 (XT.i0_eq_t c3) (by decide) (J := 145) rfl ?_
      refine G.aload H2 at_145 (J := 147) rfl rfl rfl ?_
      refine G.astore H2 (L' := #[.val (.int x0), .val (.int x1), .val (.int x2), .val (.int x3), .val (.int 0), .val (.int 0), .val (.int (x2 &&& 255)), .val (.int ((XT.ushr x2 8) &&& 255)), .val (.ref p0), .val (.ref p1), .val (.ref uu1), .val (.ref p0), .unset, .unset]) at_147 (J := 149) rfl rfl rfl ?_
      refine G.new H2 (wd33 V) (wd34 V) (wd35 V) at_149 (J := 152) rfl (by decide) (by decide) ?_
      intro T4 h4_ a5 ga5 H4 E6 A7 D8
      have na5 := H2.nle ga5
      refine G.dup H4 at_152 (J := 153) rfl rfl ?_
      refine G.aload H4 at_153 (J := 155) rfl rfl rfl ?_
      refine G.aload H4 at_155 (J := 157) rfl rfl rfl ?_
      refine G.aload H4 at_157 (J := 159) rfl rfl rfl ?_
      have F9 : Fld Z h4_ a5 "com/example/formboard/formboard/core/Board$Live" "part" "Lcom/example/formboard/formboard/core/Board$Part;" .null := D8 (Or.inr (wd52 V)) (ty := (.object "com/example/formboard/formboard/core/Board$Part")) (by decide)
      have F10 : Fld Z h4_ a5 "com/example/formboard/formboard/core/Board$Live" "key" "Ljava/lang/String;" .null := D8 (Or.inr (wd54 V)) (ty := (.object "java/lang/String")) (by decide)
      have F11 : Fld Z h4_ a5 "com/example/formboard/formboard/core/Board$Live" "form" "Ljava/lang/String;" .null := D8 (Or.inr (wd56 V)) (ty := (.object "java/lang/String")) (by decide)
      refine G.callI H4 (m8_init V a5 p0 p1 h4_ H4.old A7 F9 na5 F10 F11) rfl (wd36 V) (wd37 V) (wd35 V) (wd38 V) (by decide) (a := a5) (argsL := [.ref uu1, .ref p0, .ref p1]) (rest := [.ref a5]) (W := 1) rfl rfl (lenOf (pd_6) rfl) rfl rfl at_159 (J := 162) rfl (by decide) (by decide) (by decide) (by decide) all0 ?_
      intro T12 h12_ v13 s14 H12 Q15
      obtain ⟨rfl, rfl, K16, U17, F18, F19, F20, F21⟩ := Q15
      show Go p e below _ (T12.setTop (mkF m 162 _ [.ref a5]))
      refine G.astore H12 (L' := #[.val (.int x0), .val (.int x1), .val (.int x2), .val (.int x3), .val (.int 0), .val (.int 0), .val (.int (x2 &&& 255)), .val (.int ((XT.ushr x2 8) &&& 255)), .val (.ref p0), .val (.ref p1), .val (.ref uu1), .val (.ref p0), .val (.ref a5), .unset]) at_162 (J := 164) rfl rfl rfl ?_
      refine G.aload H12 at_164 (J := 166) rfl rfl rfl ?_
      refine G.callV H12 (m10_description V a5 h12_ H12.old F19) (wd57 V) (wd58 V) (nf_sel (wd60 V)) (wd60 V) (wd59 V) (wd35 V) (wd61 V) (by decide) F18 (argsL := []) (rest := []) (W := 0) rfl rfl (lenOf (pd_8) rfl) rfl rfl at_166 (J := 169) rfl (by decide) (by decide) (by decide) (by decide) all0 ?_
      intro T22 h22_ v23 s24 H22 Q25
      obtain ⟨a26, a27, k28, rfl, rfl, K29, F30⟩ := Q25
      show Go p e below _ (T22.setTop (mkF m 169 _ [.ref a26]))
      refine G.astore H22 (L' := #[.val (.int x0), .val (.int x1), .val (.int x2), .val (.int x3), .val (.int 0), .val (.int 0), .val (.int (x2 &&& 255)), .val (.int ((XT.ushr x2 8) &&& 255)), .val (.ref p0), .val (.ref p1), .val (.ref uu1), .val (.ref p0), .val (.ref a5), .val (.ref a26)]) at_169 (J := 171) rfl rfl rfl ?_
      refine G.aload H22 at_171 (J := 173) rfl rfl rfl ?_
      refine G.ifnullNo H22 at_173 (J := 176) rfl ?_
      refine G.aload H22 at_176 (J := 178) rfl rfl rfl ?_
      refine G.iload H22 at_178 (J := 180) rfl rfl ?_
      refine G.iload H22 at_180 (J := 182) rfl rfl ?_
      refine G.iload H22 at_182 (J := 184) rfl rfl ?_
      refine G.iload H22 at_184 (J := 186) rfl rfl ?_
      refine G.callS H22 (m11_expected V (x2 &&& 255) ((XT.ushr x2 8) &&& 255) h22_ H22.old) (wd72 V) (wd73 V) (wd74 V) (wd75 V) (by decide) (argsL := [.int 0, .int 0, (.int (x2 &&& 255)), (.int ((XT.ushr x2 8) &&& 255))]) (rest := [.ref a26]) (W := 1) rfl rfl (lenOf (pd_9) rfl) rfl rfl at_186 (J := 189) rfl (by decide) (by decide) (by decide) (by decide) all0 ?_
      intro T31 h31_ v32 s33 H31 Q34
      obtain ⟨a35, a36, k37, rfl, rfl, K38, F39⟩ := Q34
      show Go p e below _ (T31.setTop (mkF m 189 _ [.ref a35, .ref a26]))
      have F40 := (Str.keep F30 K38 nin0 nin0)
      refine G.strEq H31 (strwEq V) (wd3 V) (yc := "java/lang/String") (wd77 V) (by decide) (wd78 V) (nf_sel (wd80 V)) (wd80 V) (wd79 V) F40 F39 (hv9 V) (hv10 V) (rest := []) (W := 0) rfl rfl at_189 (J := 192) rfl (by decide) (by decide) (by decide) (by decide) ?_ ?_
      ·
        intro T41 H42 c43
        refine G.ifNo H42 at_192 (J := 195) rfl (by decide) ?_
        refine G.iconst H42 at_195 (J := 196) rfl (v := 1) rfl ?_
        refine G.goto H42 at_196 (by decide) (J := 200) rfl ?_
        exact G.retN H42 (t := .boolean) rfl (by decide) at_200 (so := []) all0 (by decide) (by decide) rfl
      ·
        intro T44 H45 c46
        exact absurd rfl c46
    ·
      refine G.ifNo H2 at_138 (J := 141) rfl (XT.i0_eq_f c3) ?_
      refine G.aconstNull H2 at_141 (J := 142) rfl ?_
      refine G.goto H2 at_142 (by decide) (J := 147) rfl ?_
      refine G.astore H2 (L' := #[.val (.int x0), .val (.int x1), .val (.int x2), .val (.int x3), .val (.int 0), .val (.int 0), .val (.int (x2 &&& 255)), .val (.int ((XT.ushr x2 8) &&& 255)), .val (.ref p0), .val (.ref p1), .val (.ref uu1), .val .null, .unset, .unset]) at_147 (J := 149) rfl rfl rfl ?_
      refine G.new H2 (wd33 V) (wd34 V) (wd35 V) at_149 (J := 152) rfl (by decide) (by decide) ?_
      intro T47 h47_ a48 ga48 H47 E49 A50 D51
      have na48 := H2.nle ga48
      refine G.dup H47 at_152 (J := 153) rfl rfl ?_
      refine G.aload H47 at_153 (J := 155) rfl rfl rfl ?_
      refine G.aload H47 at_155 (J := 157) rfl rfl rfl ?_
      refine G.aload H47 at_157 (J := 159) rfl rfl rfl ?_
      have F52 : Fld Z h47_ a48 "com/example/formboard/formboard/core/Board$Live" "part" "Lcom/example/formboard/formboard/core/Board$Part;" .null := D51 (Or.inr (wd52 V)) (ty := (.object "com/example/formboard/formboard/core/Board$Part")) (by decide)
      have F53 : Fld Z h47_ a48 "com/example/formboard/formboard/core/Board$Live" "key" "Ljava/lang/String;" .null := D51 (Or.inr (wd54 V)) (ty := (.object "java/lang/String")) (by decide)
      have F54 : Fld Z h47_ a48 "com/example/formboard/formboard/core/Board$Live" "form" "Ljava/lang/String;" .null := D51 (Or.inr (wd56 V)) (ty := (.object "java/lang/String")) (by decide)
      refine G.callI H47 (m12_init V a48 p1 h47_ H47.old A50 F52 na48 F53 F54) rfl (wd36 V) (wd37 V) (wd35 V) (wd38 V) (by decide) (a := a48) (argsL := [.ref uu1, .null, .ref p1]) (rest := [.ref a48]) (W := 1) rfl rfl (lenOf (pd_6) rfl) rfl rfl at_159 (J := 162) rfl (by decide) (by decide) (by decide) (by decide) all0 ?_
      intro T55 h55_ v56 s57 H55 Q58
      obtain ⟨rfl, rfl, K59, U60, F61, F62, F63, F64⟩ := Q58
      show Go p e below _ (T55.setTop (mkF m 162 _ [.ref a48]))
      refine G.astore H55 (L' := #[.val (.int x0), .val (.int x1), .val (.int x2), .val (.int x3), .val (.int 0), .val (.int 0), .val (.int (x2 &&& 255)), .val (.int ((XT.ushr x2 8) &&& 255)), .val (.ref p0), .val (.ref p1), .val (.ref uu1), .val .null, .val (.ref a48), .unset]) at_162 (J := 164) rfl rfl rfl ?_
      refine G.aload H55 at_164 (J := 166) rfl rfl rfl ?_
      refine G.callV H55 (m10_description V a48 h55_ H55.old F62) (wd57 V) (wd58 V) (nf_sel (wd60 V)) (wd60 V) (wd59 V) (wd35 V) (wd61 V) (by decide) F61 (argsL := []) (rest := []) (W := 0) rfl rfl (lenOf (pd_8) rfl) rfl rfl at_166 (J := 169) rfl (by decide) (by decide) (by decide) (by decide) all0 ?_
      intro T65 h65_ v66 s67 H65 Q68
      obtain ⟨a69, a70, k71, rfl, rfl, K72, F73⟩ := Q68
      show Go p e below _ (T65.setTop (mkF m 169 _ [.ref a69]))
      refine G.astore H65 (L' := #[.val (.int x0), .val (.int x1), .val (.int x2), .val (.int x3), .val (.int 0), .val (.int 0), .val (.int (x2 &&& 255)), .val (.int ((XT.ushr x2 8) &&& 255)), .val (.ref p0), .val (.ref p1), .val (.ref uu1), .val .null, .val (.ref a48), .val (.ref a69)]) at_169 (J := 171) rfl rfl rfl ?_
      refine G.aload H65 at_171 (J := 173) rfl rfl rfl ?_
      refine G.ifnullNo H65 at_173 (J := 176) rfl ?_
      refine G.aload H65 at_176 (J := 178) rfl rfl rfl ?_
      refine G.iload H65 at_178 (J := 180) rfl rfl ?_
      refine G.iload H65 at_180 (J := 182) rfl rfl ?_
      refine G.iload H65 at_182 (J := 184) rfl rfl ?_
      refine G.iload H65 at_184 (J := 186) rfl rfl ?_
      refine G.callS H65 (m11_expected V (x2 &&& 255) ((XT.ushr x2 8) &&& 255) h65_ H65.old) (wd72 V) (wd73 V) (wd74 V) (wd75 V) (by decide) (argsL := [.int 0, .int 0, (.int (x2 &&& 255)), (.int ((XT.ushr x2 8) &&& 255))]) (rest := [.ref a69]) (W := 1) rfl rfl (lenOf (pd_9) rfl) rfl rfl at_186 (J := 189) rfl (by decide) (by decide) (by decide) (by decide) all0 ?_
      intro T74 h74_ v75 s76 H74 Q77
      obtain ⟨a78, a79, k80, rfl, rfl, K81, F82⟩ := Q77
      show Go p e below _ (T74.setTop (mkF m 189 _ [.ref a78, .ref a69]))
      have F83 := (Str.keep F73 K81 nin0 nin0)
      refine G.strEq H74 (strwEq V) (wd3 V) (yc := "java/lang/String") (wd77 V) (by decide) (wd78 V) (nf_sel (wd80 V)) (wd80 V) (wd79 V) F83 F82 (hv9 V) (hv10 V) (rest := []) (W := 0) rfl rfl at_189 (J := 192) rfl (by decide) (by decide) (by decide) (by decide) ?_ ?_
      ·
        intro T84 H85 c86
        refine G.ifNo H85 at_192 (J := 195) rfl (by decide) ?_
        refine G.iconst H85 at_195 (J := 196) rfl (v := 1) rfl ?_
        refine G.goto H85 at_196 (by decide) (J := 200) rfl ?_
        exact G.retN H85 (t := .boolean) rfl (by decide) at_200 (so := []) all0 (by decide) (by decide) rfl
      ·
        intro T87 H88 c89
        exact absurd rfl c89
  ·
    refine G.iload H at_96 (J := 98) rfl rfl ?_
    refine G.ifYes H at_98 (by decide) (by decide) (J := 109) rfl ?_
    refine G.iload H at_109 (J := 111) rfl rfl ?_
    refine G.iconst H at_111 (J := 112) rfl (v := 1) rfl ?_
    refine G.icmpNo H at_112 (J := 115) rfl (by decide) ?_
    refine G.getS H (wd82 V) Via.refl (Sta.ext H.old.2 (hv0 V)) at_115 (J := 118) rfl ?_
    intro T90 H91
    refine G.astore H91 (L' := #[.val (.int x0), .val (.int x1), .val (.int x2), .val (.int x3), .val (.int 1), .val (.int 0), .val (.int (x2 &&& 255)), .val (.int ((XT.ushr x2 8) &&& 255)), .val (.ref p0), .val (.ref p1), .val (.ref uu0), .unset, .unset, .unset]) at_118 (J := 120) rfl rfl rfl ?_
    refine G.goto H91 at_120 (by decide) (J := 128) rfl ?_
    refine G.iload H91 at_128 (J := 130) rfl rfl ?_
    refine G.ifYes H91 at_130 (by decide) (by decide) (J := 145) rfl ?_
    refine G.aload H91 at_145 (J := 147) rfl rfl rfl ?_
    refine G.astore H91 (L' := #[.val (.int x0), .val (.int x1), .val (.int x2), .val (.int x3), .val (.int 1), .val (.int 0), .val (.int (x2 &&& 255)), .val (.int ((XT.ushr x2 8) &&& 255)), .val (.ref p0), .val (.ref p1), .val (.ref uu0), .val (.ref p0), .unset, .unset]) at_147 (J := 149) rfl rfl rfl ?_
    refine G.new H91 (wd33 V) (wd34 V) (wd35 V) at_149 (J := 152) rfl (by decide) (by decide) ?_
    intro T92 h92_ a93 ga93 H92 E94 A95 D96
    have na93 := H91.nle ga93
    refine G.dup H92 at_152 (J := 153) rfl rfl ?_
    refine G.aload H92 at_153 (J := 155) rfl rfl rfl ?_
    refine G.aload H92 at_155 (J := 157) rfl rfl rfl ?_
    refine G.aload H92 at_157 (J := 159) rfl rfl rfl ?_
    have F97 : Fld Z h92_ a93 "com/example/formboard/formboard/core/Board$Live" "part" "Lcom/example/formboard/formboard/core/Board$Part;" .null := D96 (Or.inr (wd52 V)) (ty := (.object "com/example/formboard/formboard/core/Board$Part")) (by decide)
    have F98 : Fld Z h92_ a93 "com/example/formboard/formboard/core/Board$Live" "key" "Ljava/lang/String;" .null := D96 (Or.inr (wd54 V)) (ty := (.object "java/lang/String")) (by decide)
    have F99 : Fld Z h92_ a93 "com/example/formboard/formboard/core/Board$Live" "form" "Ljava/lang/String;" .null := D96 (Or.inr (wd56 V)) (ty := (.object "java/lang/String")) (by decide)
    refine G.callI H92 (m14_init V a93 p0 p1 h92_ H92.old A95 F97 na93 F98 F99) rfl (wd36 V) (wd37 V) (wd35 V) (wd38 V) (by decide) (a := a93) (argsL := [.ref uu0, .ref p0, .ref p1]) (rest := [.ref a93]) (W := 1) rfl rfl (lenOf (pd_6) rfl) rfl rfl at_159 (J := 162) rfl (by decide) (by decide) (by decide) (by decide) all0 ?_
    intro T100 h100_ v101 s102 H100 Q103
    obtain ⟨rfl, rfl, K104, U105, F106, F107, F108, F109⟩ := Q103
    show Go p e below _ (T100.setTop (mkF m 162 _ [.ref a93]))
    refine G.astore H100 (L' := #[.val (.int x0), .val (.int x1), .val (.int x2), .val (.int x3), .val (.int 1), .val (.int 0), .val (.int (x2 &&& 255)), .val (.int ((XT.ushr x2 8) &&& 255)), .val (.ref p0), .val (.ref p1), .val (.ref uu0), .val (.ref p0), .val (.ref a93), .unset]) at_162 (J := 164) rfl rfl rfl ?_
    refine G.aload H100 at_164 (J := 166) rfl rfl rfl ?_
    have K110 : Keep h0 h100_ [] := (Keep.trans (Keep.ext (Keep.refl h0 []) E94) K104 (allS (Or.inr (Nat.le_of_eq ga93.symm)) all0))
    have F111 := (Exa.keep f1 K110)
    have F112 := (Fld.keep f2 K110 nin0)
    have F113 := (Arv.keep f3 K110 nin0)
    have F114 := (Fld.keep f4 K110 nin0)
    refine G.callV H100 (m40_description V a93 p0 p2 c0 h100_ H100.old F107 F108 F111 F112 F113 F114) (wd57 V) (wd58 V) (nf_sel (wd60 V)) (wd60 V) (wd59 V) (wd35 V) (wd61 V) (by decide) F106 (argsL := []) (rest := []) (W := 0) rfl rfl (lenOf (pd_8) rfl) rfl rfl at_166 (J := 169) rfl (by decide) (by decide) (by decide) (by decide) all0 ?_
    intro T115 h115_ v116 s117 H115 Q118
    obtain ⟨a119, a120, k121, rfl, rfl, K122, g123, g124, F125⟩ := Q118
    have na119 : n0 ≤ a119 := Nat.le_trans H100.le g123
    have na120 : n0 ≤ a120 := Nat.le_trans H100.le (Nat.le_of_lt (Nat.lt_of_le_of_lt g123 g124))
    show Go p e below _ (T115.setTop (mkF m 169 _ [.ref a119]))
    refine G.astore H115 (L' := #[.val (.int x0), .val (.int x1), .val (.int x2), .val (.int x3), .val (.int 1), .val (.int 0), .val (.int (x2 &&& 255)), .val (.int ((XT.ushr x2 8) &&& 255)), .val (.ref p0), .val (.ref p1), .val (.ref uu0), .val (.ref p0), .val (.ref a93), .val (.ref a119)]) at_169 (J := 171) rfl rfl rfl ?_
    refine G.aload H115 at_171 (J := 173) rfl rfl rfl ?_
    refine G.ifnullNo H115 at_173 (J := 176) rfl ?_
    refine G.aload H115 at_176 (J := 178) rfl rfl rfl ?_
    refine G.iload H115 at_178 (J := 180) rfl rfl ?_
    refine G.iload H115 at_180 (J := 182) rfl rfl ?_
    refine G.iload H115 at_182 (J := 184) rfl rfl ?_
    refine G.iload H115 at_184 (J := 186) rfl rfl ?_
    refine G.callS H115 (m41_expected V (x2 &&& 255) ((XT.ushr x2 8) &&& 255) h115_ H115.old) (wd72 V) (wd73 V) (wd74 V) (wd75 V) (by decide) (argsL := [.int 1, .int 0, (.int (x2 &&& 255)), (.int ((XT.ushr x2 8) &&& 255))]) (rest := [.ref a119]) (W := 1) rfl rfl (lenOf (pd_9) rfl) rfl rfl at_186 (J := 189) rfl (by decide) (by decide) (by decide) (by decide) all0 ?_
    intro T126 h126_ v127 s128 H126 Q129
    obtain ⟨a130, a131, k132, rfl, rfl, K133, F134⟩ := Q129
    show Go p e below _ (T126.setTop (mkF m 189 _ [.ref a130, .ref a119]))
    have F135 := (Str.keep F125 K133 nin0 nin0)
    refine G.strEq H126 (strwEq V) (wd3 V) (yc := "java/lang/String") (wd77 V) (by decide) (wd78 V) (nf_sel (wd80 V)) (wd80 V) (wd79 V) F135 F134 (hv9 V) (hv10 V) (rest := []) (W := 0) rfl rfl at_189 (J := 192) rfl (by decide) (by decide) (by decide) (by decide) ?_ ?_
    ·
      intro T136 H137 c138
      refine G.ifNo H137 at_192 (J := 195) rfl (by decide) ?_
      refine G.iconst H137 at_195 (J := 196) rfl (v := 1) rfl ?_
      refine G.goto H137 at_196 (by decide) (J := 200) rfl ?_
      exact G.retN H137 (t := .boolean) rfl (by decide) at_200 (so := []) all0 (by decide) (by decide) rfl
    ·
      intro T139 H140 c141
      exact absurd rfl c141
  ·
    refine G.iload H at_96 (J := 98) rfl rfl ?_
    refine G.ifYes H at_98 (by decide) (by decide) (J := 109) rfl ?_
    refine G.iload H at_109 (J := 111) rfl rfl ?_
    refine G.iconst H at_111 (J := 112) rfl (v := 1) rfl ?_
    refine G.icmpYes H at_112 (by decide) (by decide) (J := 123) rfl ?_
    refine G.getS H (wd233 V) Via.refl (Sta.ext H.old.2 (hv4 V)) at_123 (J := 126) rfl ?_
    intro T142 H143
    refine G.astore H143 (L' := #[.val (.int x0), .val (.int x1), .val (.int x2), .val (.int x3), .val (.int 2), .val (.int 0), .val (.int (x2 &&& 255)), .val (.int ((XT.ushr x2 8) &&& 255)), .val (.ref p0), .val (.ref p1), .val (.ref uu2), .unset, .unset, .unset]) at_126 (J := 128) rfl rfl rfl ?_
    refine G.iload H143 at_128 (J := 130) rfl rfl ?_
    refine G.ifYes H143 at_130 (by decide) (by decide) (J := 145) rfl ?_
    refine G.aload H143 at_145 (J := 147) rfl rfl rfl ?_
    refine G.astore H143 (L' := #[.val (.int x0), .val (.int x1), .val (.int x2), .val (.int x3), .val (.int 2), .val (.int 0), .val (.int (x2 &&& 255)), .val (.int ((XT.ushr x2 8) &&& 255)), .val (.ref p0), .val (.ref p1), .val (.ref uu2), .val (.ref p0), .unset, .unset]) at_147 (J := 149) rfl rfl rfl ?_
    refine G.new H143 (wd33 V) (wd34 V) (wd35 V) at_149 (J := 152) rfl (by decide) (by decide) ?_
    intro T144 h144_ a145 ga145 H144 E146 A147 D148
    have na145 := H143.nle ga145
    refine G.dup H144 at_152 (J := 153) rfl rfl ?_
    refine G.aload H144 at_153 (J := 155) rfl rfl rfl ?_
    refine G.aload H144 at_155 (J := 157) rfl rfl rfl ?_
    refine G.aload H144 at_157 (J := 159) rfl rfl rfl ?_
    have F149 : Fld Z h144_ a145 "com/example/formboard/formboard/core/Board$Live" "part" "Lcom/example/formboard/formboard/core/Board$Part;" .null := D148 (Or.inr (wd52 V)) (ty := (.object "com/example/formboard/formboard/core/Board$Part")) (by decide)
    have F150 : Fld Z h144_ a145 "com/example/formboard/formboard/core/Board$Live" "key" "Ljava/lang/String;" .null := D148 (Or.inr (wd54 V)) (ty := (.object "java/lang/String")) (by decide)
    have F151 : Fld Z h144_ a145 "com/example/formboard/formboard/core/Board$Live" "form" "Ljava/lang/String;" .null := D148 (Or.inr (wd56 V)) (ty := (.object "java/lang/String")) (by decide)
    refine G.callI H144 (m43_init V a145 p0 p1 h144_ H144.old A147 F149 na145 F150 F151) rfl (wd36 V) (wd37 V) (wd35 V) (wd38 V) (by decide) (a := a145) (argsL := [.ref uu2, .ref p0, .ref p1]) (rest := [.ref a145]) (W := 1) rfl rfl (lenOf (pd_6) rfl) rfl rfl at_159 (J := 162) rfl (by decide) (by decide) (by decide) (by decide) all0 ?_
    intro T152 h152_ v153 s154 H152 Q155
    obtain ⟨rfl, rfl, K156, U157, F158, F159, F160, F161⟩ := Q155
    show Go p e below _ (T152.setTop (mkF m 162 _ [.ref a145]))
    refine G.astore H152 (L' := #[.val (.int x0), .val (.int x1), .val (.int x2), .val (.int x3), .val (.int 2), .val (.int 0), .val (.int (x2 &&& 255)), .val (.int ((XT.ushr x2 8) &&& 255)), .val (.ref p0), .val (.ref p1), .val (.ref uu2), .val (.ref p0), .val (.ref a145), .unset]) at_162 (J := 164) rfl rfl rfl ?_
    refine G.aload H152 at_164 (J := 166) rfl rfl rfl ?_
    have K162 : Keep h0 h152_ [] := (Keep.trans (Keep.ext (Keep.refl h0 []) E146) K156 (allS (Or.inr (Nat.le_of_eq ga145.symm)) all0))
    have F163 := (Exa.keep f1 K162)
    have F164 := (Fld.keep f2 K162 nin0)
    have F165 := (Arv.keep f3 K162 nin0)
    have F166 := (Fld.keep f4 K162 nin0)
    refine G.callV H152 (m70_description V a145 p0 p2 c0 h152_ H152.old F159 F160 F163 F164 F165 F166) (wd57 V) (wd58 V) (nf_sel (wd60 V)) (wd60 V) (wd59 V) (wd35 V) (wd61 V) (by decide) F158 (argsL := []) (rest := []) (W := 0) rfl rfl (lenOf (pd_8) rfl) rfl rfl at_166 (J := 169) rfl (by decide) (by decide) (by decide) (by decide) all0 ?_
    intro T167 h167_ v168 s169 H167 Q170
    obtain ⟨a171, a172, k173, rfl, rfl, K174, g175, g176, F177⟩ := Q170
    have na171 : n0 ≤ a171 := Nat.le_trans H152.le g175
    have na172 : n0 ≤ a172 := Nat.le_trans H152.le (Nat.le_of_lt (Nat.lt_of_le_of_lt g175 g176))
    show Go p e below _ (T167.setTop (mkF m 169 _ [.ref a171]))
    refine G.astore H167 (L' := #[.val (.int x0), .val (.int x1), .val (.int x2), .val (.int x3), .val (.int 2), .val (.int 0), .val (.int (x2 &&& 255)), .val (.int ((XT.ushr x2 8) &&& 255)), .val (.ref p0), .val (.ref p1), .val (.ref uu2), .val (.ref p0), .val (.ref a145), .val (.ref a171)]) at_169 (J := 171) rfl rfl rfl ?_
    refine G.aload H167 at_171 (J := 173) rfl rfl rfl ?_
    refine G.ifnullNo H167 at_173 (J := 176) rfl ?_
    refine G.aload H167 at_176 (J := 178) rfl rfl rfl ?_
    refine G.iload H167 at_178 (J := 180) rfl rfl ?_
    refine G.iload H167 at_180 (J := 182) rfl rfl ?_
    refine G.iload H167 at_182 (J := 184) rfl rfl ?_
    refine G.iload H167 at_184 (J := 186) rfl rfl ?_
    refine G.callS H167 (m71_expected V (x2 &&& 255) ((XT.ushr x2 8) &&& 255) h167_ H167.old) (wd72 V) (wd73 V) (wd74 V) (wd75 V) (by decide) (argsL := [.int 2, .int 0, (.int (x2 &&& 255)), (.int ((XT.ushr x2 8) &&& 255))]) (rest := [.ref a171]) (W := 1) rfl rfl (lenOf (pd_9) rfl) rfl rfl at_186 (J := 189) rfl (by decide) (by decide) (by decide) (by decide) all0 ?_
    intro T178 h178_ v179 s180 H178 Q181
    obtain ⟨a182, a183, k184, rfl, rfl, K185, F186⟩ := Q181
    show Go p e below _ (T178.setTop (mkF m 189 _ [.ref a182, .ref a171]))
    have F187 := (Str.keep F177 K185 nin0 nin0)
    refine G.strEq H178 (strwEq V) (wd3 V) (yc := "java/lang/String") (wd77 V) (by decide) (wd78 V) (nf_sel (wd80 V)) (wd80 V) (wd79 V) F187 F186 (hv9 V) (hv10 V) (rest := []) (W := 0) rfl rfl at_189 (J := 192) rfl (by decide) (by decide) (by decide) (by decide) ?_ ?_
    ·
      intro T188 H189 c190
      refine G.ifNo H189 at_192 (J := 195) rfl (by decide) ?_
      refine G.iconst H189 at_195 (J := 196) rfl (v := 1) rfl ?_
      refine G.goto H189 at_196 (by decide) (J := 200) rfl ?_
      exact G.retN H189 (t := .boolean) rfl (by decide) at_200 (so := []) all0 (by decide) (by decide) rfl
    ·
      intro T191 H192 c193
      exact absurd rfl c193
theorem m73_expected (V : Env1 Z a0 n0 uu0 uu1 uu2 uu3 uu4) (x0 : Int32) (x1 : Int32) (h0 : Heap) (hO : Old Z n0 h0)  :
    Met Z a0 ELs True n0 l ⟨"com/example/formboard/formboard/core/LiveDescriptionPinLaw", "expected", "(IICC)Ljava/lang/String;"⟩ method_3_code 4 (some (.object "java/lang/String")) ⟨0, 2, 40, 0⟩ #[.int 0, .int 1, .int x0, .int x1] h0 [] (fun v h so => (∃ a2 b4 : Addr, ∃ k5 : ClassId, v = some (.ref a2) ∧ so = [] ∧ Keep h0 h [] ∧ Str Z h a2 b4 k5 [116, 104, 101, 32, 116, 105, 116, 108, 101])) := by
  refine Met.of (EWl V) (by first | decide +kernel | rfl) hO (L0 := #[.val (.int 0), .val (.int 1), .val (.int x0), .val (.int x1)]) rfl ?_
  intro p e s m below meth c T H
  show Go p e below _ (T.setTop (mkF m 0 _ []))
  refine G.iloadN H D32_0 (J := 1) rfl rfl ?_
  refine G.ifNo H D32_1 (J := 4) rfl (by decide) ?_
  refine G.ldcS H trivial (wS V) (wd76 V) (by decide) (vs := [.int 116, .int 104, .int 101, .int 32, .int 116, .int 105, .int 116, .int 108, .int 101]) (z := 9) (by decide) (by decide) rfl (n := 36) (by decide) (by decide) (by decide) (by decide) D32_4 (J := 6) rfl ?_
  intro T1 h1_ a2 b4 k5 H1 E3 X6 F7 F8 A9 Q10
  have S11 : Str Z h1_ a2 b4 k5 [116, 104, 101, 32, 116, 105, 116, 108, 101] := ⟨X6, F7, F8, A9, by decide, by decide⟩
  have K12 : Keep h0 h1_ [] := (Keep.ext (Keep.refl h0 []) E3)
  exact G.retA H1 (t := (.object "java/lang/String")) rfl rfl rfl D32_6 (so := []) all0 (by decide) (by decide) ⟨a2, b4, k5, rfl, rfl, K12, S11⟩
theorem m74_length (V : Env1 Z a0 n0 uu0 uu1 uu2 uu3 uu4) (p0 : Addr) (p1 : Addr) (c0 : ClassId) (x0 : Int32) (h0 : Heap) (hO : Old Z n0 h0) (f0 : Fld Z h0 p0 "java/lang/String" "value" "[B" (.ref p1)) (f1 : Arv Z h0 p1 c0 .byte 1 [.int x0] (.int 0)) (f2 : Exa Z h0 p0 "java/lang/String") (f3 : Fld Z h0 p0 "java/lang/String" "coder" "B" (.int 0)) :
    Met Z a0 ELs True n0 l ⟨"java/lang/String", "length", "()I"⟩ jdk_42_method_54_code 1 (some .int) ⟨1, 0, 0, 13⟩ #[.ref p0] h0 [] (fun v h so => (v = some (.int 1) ∧ so = [] ∧ h0 = h)) := by
  refine Met.of (EWl V) (by first | decide +kernel | rfl) hO (L0 := #[.val (.ref p0)]) rfl ?_
  intro p e s m below meth c T H
  show Go p e below _ (T.setTop (mkF m 0 _ []))
  refine G.aloadN H D11_0 (J := 1) rfl rfl rfl ?_
  refine G.getF H (wd28 V) Via.refl f0 D11_1 (J := 4) rfl ?_
  intro T1 H2
  refine G.arrlen H2 f1 D11_4 (J := 5) rfl ?_
  refine G.aloadN H2 D11_5 (J := 6) rfl rfl rfl ?_
  refine G.callV H2 (m18_coder V p0 h0 H2.old f3) (wd118 V) (wd119 V) (nf_sel (wd121 V)) (wd121 V) (wd120 V) (wd2 V) (wd122 V) (by decide) f2 (argsL := []) (rest := [.int 1]) (W := 1) rfl rfl (lenOf (pd_11) rfl) rfl rfl D11_6 (J := 9) rfl (by decide) (by decide) (by decide) (by decide) all0 ?_
  intro T3 h3_ v4 s5 H3 Q6
  obtain ⟨rfl, rfl, rfl⟩ := Q6
  show Go p e below _ (T3.setTop (mkF m 9 _ [.int 0, .int 1]))
  refine G.ishr H3 D11_9 (J := 10) rfl ?_
  show Go p e below _ (T3.setTop (mkF m 10 _ [.int 1]))
  exact G.retI H3 rfl D11_10 (so := []) all0 (by decide) (by decide) ⟨rfl, rfl, rfl⟩
theorem m75_max (V : Env1 Z a0 n0 uu0 uu1 uu2 uu3 uu4)  (h0 : Heap) (hO : Old Z n0 h0)  :
    Met Z a0 ELs True n0 l ⟨"java/lang/Math", "max", "(II)I"⟩ jdk_29_method_65_code 2 (some .int) ⟨0, 0, 0, 0⟩ #[.int 1, .int 18] h0 [] (fun v h so => (v = some (.int 18) ∧ so = [] ∧ h0 = h)) := by
  refine Met.of (EWl V) (by first | decide +kernel | rfl) hO (L0 := #[.val (.int 1), .val (.int 18)]) rfl ?_
  intro p e s m below meth c T H
  show Go p e below _ (T.setTop (mkF m 0 _ []))
  refine G.iloadN H D0_0 (J := 1) rfl rfl ?_
  refine G.iloadN H D0_1 (J := 2) rfl rfl ?_
  refine G.icmpYes H D0_2 (by decide) (by decide) (J := 9) rfl ?_
  refine G.iloadN H D0_9 (J := 10) rfl rfl ?_
  exact G.retI H rfl D0_10 (so := []) all0 (by decide) (by decide) ⟨rfl, rfl, rfl⟩
theorem m76_newLength (V : Env1 Z a0 n0 uu0 uu1 uu2 uu3 uu4)  (h0 : Heap) (hO : Old Z n0 h0)  :
    Met Z a0 ELs True n0 l ⟨"jdk/internal/util/ArraysSupport", "newLength", "(III)I"⟩ jdk_48_method_27_code 4 (some .int) ⟨1, 0, 0, 14⟩ #[.int 16, .int 1, .int 18] h0 [] (fun v h so => (v = some (.int 34) ∧ so = [] ∧ h0 = h)) := by
  refine Met.of (EWl V) (by first | decide +kernel | rfl) hO (L0 := #[.val (.int 16), .val (.int 1), .val (.int 18), .unset]) rfl ?_
  intro p e s m below meth c T H
  show Go p e below _ (T.setTop (mkF m 0 _ []))
  refine G.iloadN H D14_0 (J := 1) rfl rfl ?_
  refine G.iloadN H D14_1 (J := 2) rfl rfl ?_
  refine G.iloadN H D14_2 (J := 3) rfl rfl ?_
  refine G.callS H (m75_max V h0 H.old) (wd159 V) (wd160 V) (wd161 V) (wd162 V) (by decide) (argsL := [.int 1, .int 18]) (rest := [.int 16]) (W := 1) rfl rfl (lenOf (pd_22) rfl) rfl rfl D14_3 (J := 6) rfl (by decide) (by decide) (by decide) (by decide) all0 ?_
  intro T1 h1_ v2 s3 H1 Q4
  obtain ⟨rfl, rfl, rfl⟩ := Q4
  show Go p e below _ (T1.setTop (mkF m 6 _ [.int 18, .int 16]))
  refine G.iadd H1 D14_6 (J := 7) rfl ?_
  show Go p e below _ (T1.setTop (mkF m 7 _ [.int 34]))
  refine G.istoreN H1 (L' := #[.val (.int 16), .val (.int 1), .val (.int 18), .val (.int 34)]) D14_7 (J := 8) rfl rfl ?_
  refine G.iconst H1 D14_8 (J := 9) rfl (v := 0) rfl ?_
  refine G.iloadN H1 D14_9 (J := 10) rfl rfl ?_
  refine G.icmpNo H1 D14_10 (J := 13) rfl (by decide) ?_
  refine G.iloadN H1 D14_13 (J := 14) rfl rfl ?_
  refine G.ldcI H1 (wd163 V) D14_14 (J := 16) rfl ?_
  refine G.icmpNo H1 D14_16 (J := 19) rfl (by decide) ?_
  refine G.iloadN H1 D14_19 (J := 20) rfl rfl ?_
  exact G.retI H1 rfl D14_20 (so := []) all0 (by decide) (by decide) ⟨rfl, rfl, rfl⟩
theorem m77_newCapacity (V : Env1 Z a0 n0 uu0 uu1 uu2 uu3 uu4) (p0 : Addr) (p1 : Addr) (c0 : ClassId) (h0 : Heap) (hO : Old Z n0 h0) (f0 : Fld Z h0 p0 "java/lang/AbstractStringBuilder" "value" "[B" (.ref p1)) (f1 : Arv Z h0 p1 c0 .byte 16 [.int 116, .int 104, .int 101, .int 32, .int 104, .int 105, .int 110, .int 116, .int 32, .int 111, .int 102, .int 32, .int 107, .int 101, .int 121, .int 32] (.int 0)) (f2 : Fld Z h0 p0 "java/lang/AbstractStringBuilder" "coder" "B" (.int 0)) :
    Met Z a0 ELs True n0 l ⟨"java/lang/AbstractStringBuilder", "newCapacity", "(I)I"⟩ jdk_68_method_10_code 6 (some .int) ⟨2, 0, 0, 29⟩ #[.ref p0, .int 17] h0 [] (fun v h so => (v = some (.int 34) ∧ so = [] ∧ h0 = h)) := by
  refine Met.of (EWl V) (by first | decide +kernel | rfl) hO (L0 := #[.val (.ref p0), .val (.int 17), .unset, .unset, .unset, .unset]) rfl ?_
  intro p e s m below meth c T H
  show Go p e below _ (T.setTop (mkF m 0 _ []))
  refine G.aloadN H D23_0 (J := 1) rfl rfl rfl ?_
  refine G.getF H (wd98 V) Via.refl f0 D23_1 (J := 4) rfl ?_
  intro T1 H2
  refine G.arrlen H2 f1 D23_4 (J := 5) rfl ?_
  refine G.istoreN H2 (L' := #[.val (.ref p0), .val (.int 17), .val (.int 16), .unset, .unset, .unset]) D23_5 (J := 6) rfl rfl ?_
  refine G.iloadN H2 D23_6 (J := 7) rfl rfl ?_
  refine G.aloadN H2 D23_7 (J := 8) rfl rfl rfl ?_
  refine G.getF H2 (wd100 V) Via.refl f2 D23_8 (J := 11) rfl ?_
  intro T3 H4
  refine G.ishl H4 D23_11 (J := 12) rfl ?_
  show Go p e below _ (T3.setTop (mkF m 12 _ [.int 17]))
  refine G.istoreN H4 (L' := #[.val (.ref p0), .val (.int 17), .val (.int 16), .val (.int 17), .unset, .unset]) D23_12 (J := 13) rfl rfl ?_
  refine G.iloadN H4 D23_13 (J := 14) rfl rfl ?_
  refine G.iloadN H4 D23_14 (J := 15) rfl rfl ?_
  refine G.isub H4 D23_15 (J := 16) rfl ?_
  show Go p e below _ (T3.setTop (mkF m 16 _ [.int 1]))
  refine G.istore H4 (L' := #[.val (.ref p0), .val (.int 17), .val (.int 16), .val (.int 17), .val (.int 1), .unset]) D23_16 (J := 18) rfl rfl ?_
  refine G.iloadN H4 D23_18 (J := 19) rfl rfl ?_
  refine G.iload H4 D23_19 (J := 21) rfl rfl ?_
  refine G.iloadN H4 D23_21 (J := 22) rfl rfl ?_
  refine G.iconst H4 D23_22 (J := 23) rfl (v := 2) rfl ?_
  refine G.aloadN H4 D23_23 (J := 24) rfl rfl rfl ?_
  refine G.getF H4 (wd100 V) Via.refl f2 D23_24 (J := 27) rfl ?_
  intro T5 H6
  refine G.ishl H6 D23_27 (J := 28) rfl ?_
  show Go p e below _ (T5.setTop (mkF m 28 _ [.int 2, .int 16, .int 1, .int 16]))
  refine G.iadd H6 D23_28 (J := 29) rfl ?_
  show Go p e below _ (T5.setTop (mkF m 29 _ [.int 18, .int 1, .int 16]))
  refine G.callS H6 (m76_newLength V h0 H6.old) (wd155 V) (wd156 V) (wd157 V) (wd158 V) (by decide) (argsL := [.int 16, .int 1, .int 18]) (rest := []) (W := 0) rfl rfl (lenOf (pd_23) rfl) rfl rfl D23_29 (J := 32) rfl (by decide) (by decide) (by decide) (by decide) all0 ?_
  intro T7 h7_ v8 s9 H7 Q10
  obtain ⟨rfl, rfl, rfl⟩ := Q10
  show Go p e below _ (T7.setTop (mkF m 32 _ [.int 34]))
  refine G.istore H7 (L' := #[.val (.ref p0), .val (.int 17), .val (.int 16), .val (.int 17), .val (.int 1), .val (.int 34)]) D23_32 (J := 34) rfl rfl ?_
  refine G.iload H7 D23_34 (J := 36) rfl rfl ?_
  refine G.ldcI H7 (wd164 V) D23_36 (J := 38) rfl ?_
  refine G.icmpYes H7 D23_38 (by decide) (by decide) (J := 51) rfl ?_
  refine G.iload H7 D23_51 (J := 53) rfl rfl ?_
  refine G.aloadN H7 D23_53 (J := 54) rfl rfl rfl ?_
  refine G.getF H7 (wd100 V) Via.refl f2 D23_54 (J := 57) rfl ?_
  intro T11 H12
  refine G.ishr H12 D23_57 (J := 58) rfl ?_
  show Go p e below _ (T11.setTop (mkF m 58 _ [.int 34]))
  exact G.retI H12 rfl D23_58 (so := []) all0 (by decide) (by decide) ⟨rfl, rfl, rfl⟩
theorem m78_copyOf (V : Env1 Z a0 n0 uu0 uu1 uu2 uu3 uu4) (p0 : Addr) (c0 : ClassId) (h0 : Heap) (hO : Old Z n0 h0) (f0 : Arv Z h0 p0 c0 .byte 16 [.int 116, .int 104, .int 101, .int 32, .int 104, .int 105, .int 110, .int 116, .int 32, .int 111, .int 102, .int 32, .int 107, .int 101, .int 121, .int 32] (.int 0)) :
    Met Z a0 ELs True n0 l ⟨"java/util/Arrays", "copyOf", "([BI)[B"⟩ jdk_65_method_121_code 3 (some (.array .byte)) ⟨1, 1, 34, 40⟩ #[.ref p0, .int 34] h0 [] (fun v h so => (∃ a2 : Addr, ∃ k5 : ClassId, v = some (.ref a2) ∧ so = [a2] ∧ Keep h0 h [] ∧ h0.size ≤ a2 ∧ Arv Z h a2 k5 .byte 34 [.int 116, .int 104, .int 101, .int 32, .int 104, .int 105, .int 110, .int 116, .int 32, .int 111, .int 102, .int 32, .int 107, .int 101, .int 121, .int 32, .int 0, .int 0, .int 0, .int 0, .int 0, .int 0, .int 0, .int 0, .int 0, .int 0, .int 0, .int 0, .int 0, .int 0, .int 0, .int 0, .int 0, .int 0] (.int 0) ∧ Exa Z h a2 "[B")) := by
  refine Met.of (EWl V) (by first | decide +kernel | rfl) hO (L0 := #[.val (.ref p0), .val (.int 34), .unset]) rfl ?_
  intro p e s m below meth c T H
  show Go p e below _ (T.setTop (mkF m 0 _ []))
  refine G.iloadN H D15_0 (J := 1) rfl rfl ?_
  refine G.aloadN H D15_1 (J := 2) rfl rfl rfl ?_
  refine G.arrlen H f0 D15_2 (J := 3) rfl ?_
  refine G.icmpYes H D15_3 (by decide) (by decide) (J := 14) rfl ?_
  refine G.iloadN H D15_14 (J := 15) rfl rfl ?_
  refine G.newP H (aty := .byte) (wd4 V) D15_15 (J := 17) rfl (by decide) (cap := 34) (by decide) (by decide) (by decide) (by decide) (vs := [.int 0, .int 0, .int 0, .int 0, .int 0, .int 0, .int 0, .int 0, .int 0, .int 0, .int 0, .int 0, .int 0, .int 0, .int 0, .int 0, .int 0, .int 0, .int 0, .int 0, .int 0, .int 0, .int 0, .int 0, .int 0, .int 0, .int 0, .int 0, .int 0, .int 0, .int 0, .int 0, .int 0, .int 0]) rfl (ad := "[B") rfl ?_
  intro T1 h1_ a2 k5 ga2 H1 E3 A4 X6
  have na2 := H.nle ga2
  replace A4 : Arv Z h1_ a2 k5 .byte 34 [.int 0, .int 0, .int 0, .int 0, .int 0, .int 0, .int 0, .int 0, .int 0, .int 0, .int 0, .int 0, .int 0, .int 0, .int 0, .int 0, .int 0, .int 0, .int 0, .int 0, .int 0, .int 0, .int 0, .int 0, .int 0, .int 0, .int 0, .int 0, .int 0, .int 0, .int 0, .int 0, .int 0, .int 0] (.int 0) := A4
  refine G.astoreN H1 (L' := #[.val (.ref p0), .val (.int 34), .val (.ref a2)]) D15_17 (J := 18) rfl rfl rfl ?_
  refine G.aloadN H1 D15_18 (J := 19) rfl rfl rfl ?_
  refine G.iconst H1 D15_19 (J := 20) rfl (v := 0) rfl ?_
  refine G.aloadN H1 D15_20 (J := 21) rfl rfl rfl ?_
  refine G.iconst H1 D15_21 (J := 22) rfl (v := 0) rfl ?_
  refine G.aloadN H1 D15_22 (J := 23) rfl rfl rfl ?_
  have F7 := (Arv.ext f0 E3)
  refine G.arrlen H1 F7 D15_23 (J := 24) rfl ?_
  refine G.iloadN H1 D15_24 (J := 25) rfl rfl ?_
  refine G.callS H1 (m49_min V h1_ H1.old) (wd169 V) (wd170 V) (wd161 V) (wd171 V) (by decide) (argsL := [.int 16, .int 34]) (rest := [.int 0, .ref a2, .int 0, .ref p0]) (W := 4) rfl rfl (lenOf (pd_22) rfl) rfl rfl D15_25 (J := 28) rfl (by decide) (by decide) (by decide) (by decide) all0 ?_
  intro T8 h8_ v9 s10 H8 Q11
  obtain ⟨rfl, rfl, rfl⟩ := Q11
  show Go p e below _ (T8.setTop (mkF m 28 _ [.int 16, .int 0, .ref a2, .int 0, .ref p0]))
  refine G.copy H8 (wd172 V) (wd149 V) (wd147 V) (wd148 V) F7 A4 (us := [.int 116, .int 104, .int 101, .int 32, .int 104, .int 105, .int 110, .int 116, .int 32, .int 111, .int 102, .int 32, .int 107, .int 101, .int 121, .int 32]) (Or.inl ⟨rfl, rfl⟩) (by decide) (by decide) (by decide) (by decide) (by decide) rfl lB (vr := [.int 116, .int 104, .int 101, .int 32, .int 104, .int 105, .int 110, .int 116, .int 32, .int 111, .int 102, .int 32, .int 107, .int 101, .int 121, .int 32, .int 0, .int 0, .int 0, .int 0, .int 0, .int 0, .int 0, .int 0, .int 0, .int 0, .int 0, .int 0, .int 0, .int 0, .int 0, .int 0, .int 0, .int 0]) rfl na2 (Sf.mem (mG (i := 0) rfl)) (st := []) (W := 0) rfl rfl D15_28 (J := 31) rfl (by decide) (by decide) ?_
  intro T12 h12_ H12 K13 A14
  refine G.aloadN H12 D15_31 (J := 32) rfl rfl rfl ?_
  have F15 := (Exa.keep X6 K13)
  have K16 : Keep h0 h12_ [] := (Keep.trans (Keep.ext (Keep.refl h0 []) E3) K13 (allS (Or.inr (Nat.le_of_eq ga2.symm)) all0))
  exact G.retA H12 (t := (.array .byte)) rfl rfl rfl D15_32 (so := [a2]) (allS (mG (i := 0) rfl) all0) (by decide) (by decide) ⟨a2, k5, rfl, rfl, K16, (Nat.le_of_eq ga2.symm), A14, F15⟩
theorem m79_ensureCapacityInternal (V : Env1 Z a0 n0 uu0 uu1 uu2 uu3 uu4) (p0 : Addr) (p1 : Addr) (c0 : ClassId) (h0 : Heap) (hO : Old Z n0 h0) (f0 : Fld Z h0 p0 "java/lang/AbstractStringBuilder" "value" "[B" (.ref p1)) (f1 : Arv Z h0 p1 c0 .byte 16 [.int 116, .int 104, .int 101, .int 32, .int 104, .int 105, .int 110, .int 116, .int 32, .int 111, .int 102, .int 32, .int 107, .int 101, .int 121, .int 32] (.int 0)) (f2 : Fld Z h0 p0 "java/lang/AbstractStringBuilder" "coder" "B" (.int 0)) (f3 : Exa Z h0 p0 "java/lang/StringBuilder") (g4 : n0 ≤ p0) :
    Met Z a0 ELs True n0 l ⟨"java/lang/AbstractStringBuilder", "ensureCapacityInternal", "(I)V"⟩ jdk_68_method_9_code 3 none ⟨3, 1, 34, 55⟩ #[.ref p0, .int 17] h0 [] (fun v h so => (∃ a17 : Addr, ∃ k18 : ClassId, v = none ∧ so = [a17] ∧ Keep h0 h [p0] ∧ h0.size ≤ a17 ∧ (∀ (O n d : String) (w : Value), Fld Z h0 p0 O n d w → RoadKit.slotOf Z O n d ≠ RoadKit.slotOf Z "java/lang/AbstractStringBuilder" "value" "[B" → Fld Z h p0 O n d w) ∧ Fld Z h p0 "java/lang/AbstractStringBuilder" "value" "[B" (.ref a17) ∧ Fld Z h p0 "java/lang/AbstractStringBuilder" "coder" "B" (.int 0) ∧ Exa Z h p0 "java/lang/StringBuilder" ∧ Arv Z h a17 k18 .byte 34 [.int 116, .int 104, .int 101, .int 32, .int 104, .int 105, .int 110, .int 116, .int 32, .int 111, .int 102, .int 32, .int 107, .int 101, .int 121, .int 32, .int 0, .int 0, .int 0, .int 0, .int 0, .int 0, .int 0, .int 0, .int 0, .int 0, .int 0, .int 0, .int 0, .int 0, .int 0, .int 0, .int 0, .int 0] (.int 0) ∧ Exa Z h a17 "[B")) := by
  refine Met.of (EWl V) (by first | decide +kernel | rfl) hO (L0 := #[.val (.ref p0), .val (.int 17), .unset]) rfl ?_
  intro p e s m below meth c T H
  show Go p e below _ (T.setTop (mkF m 0 _ []))
  refine G.aloadN H D31_0 (J := 1) rfl rfl rfl ?_
  refine G.getF H (wd98 V) Via.refl f0 D31_1 (J := 4) rfl ?_
  intro T1 H2
  refine G.arrlen H2 f1 D31_4 (J := 5) rfl ?_
  refine G.aloadN H2 D31_5 (J := 6) rfl rfl rfl ?_
  refine G.getF H2 (wd100 V) Via.refl f2 D31_6 (J := 9) rfl ?_
  intro T3 H4
  refine G.ishr H4 D31_9 (J := 10) rfl ?_
  show Go p e below _ (T3.setTop (mkF m 10 _ [.int 16]))
  refine G.istoreN H4 (L' := #[.val (.ref p0), .val (.int 17), .val (.int 16)]) D31_10 (J := 11) rfl rfl ?_
  refine G.iloadN H4 D31_11 (J := 12) rfl rfl ?_
  refine G.iloadN H4 D31_12 (J := 13) rfl rfl ?_
  refine G.isub H4 D31_13 (J := 14) rfl ?_
  show Go p e below _ (T3.setTop (mkF m 14 _ [.int 1]))
  refine G.ifNo H4 D31_14 (J := 17) rfl (by decide) ?_
  refine G.aloadN H4 D31_17 (J := 18) rfl rfl rfl ?_
  refine G.aloadN H4 D31_18 (J := 19) rfl rfl rfl ?_
  refine G.getF H4 (wd98 V) Via.refl f0 D31_19 (J := 22) rfl ?_
  intro T5 H6
  refine G.aloadN H6 D31_22 (J := 23) rfl rfl rfl ?_
  refine G.iloadN H6 D31_23 (J := 24) rfl rfl ?_
  refine G.callV H6 (m77_newCapacity V p0 p1 c0 h0 H6.old f0 f1 f2) (wd150 V) (decl_of (wd151 V) (wd154 V)) (nf_sel (wd153 V)) (wd153 V) (wd151 V) (wd94 V) (wd154 V) (by decide) f3 (argsL := [.int 17]) (rest := [.ref p1, .ref p0]) (W := 2) rfl rfl (lenOf (pd_24) rfl) rfl rfl D31_24 (J := 27) rfl (by decide) (by decide) (by decide) (by decide) all0 ?_
  intro T7 h7_ v8 s9 H7 Q10
  obtain ⟨rfl, rfl, rfl⟩ := Q10
  show Go p e below _ (T7.setTop (mkF m 27 _ [.int 34, .ref p1, .ref p0]))
  refine G.aloadN H7 D31_27 (J := 28) rfl rfl rfl ?_
  refine G.getF H7 (wd100 V) Via.refl f2 D31_28 (J := 31) rfl ?_
  intro T11 H12
  refine G.ishl H12 D31_31 (J := 32) rfl ?_
  show Go p e below _ (T11.setTop (mkF m 32 _ [.int 34, .ref p1, .ref p0]))
  refine G.callS H12 (m78_copyOf V p1 c0 h0 H12.old f1) (wd165 V) (wd166 V) (wd167 V) (wd168 V) (by decide) (argsL := [.ref p1, .int 34]) (rest := [.ref p0]) (W := 1) rfl rfl (lenOf (pd_25) rfl) rfl rfl D31_32 (J := 35) rfl (by decide) (by decide) (by decide) (by decide) all0 ?_
  intro T13 h13_ v14 s15 H13 Q16
  obtain ⟨a17, k18, rfl, rfl, K19, g20, F21, F22⟩ := Q16
  have na17 : n0 ≤ a17 := Nat.le_trans H7.le g20
  show Go p e below _ (T13.setTop (mkF m 35 _ [.ref a17, .ref p0]))
  have F23 := (Exa.keep f3 K19)
  have F24 := (Fld.keep f0 K19 nin0)
  refine G.putF H13 (wd98 V) Via.refl F24 F23 (Or.inl (wd99 V)) (wd85 V) (ty := (.array .byte)) (by decide) rfl rfl g4 (Sf.exa F23) D31_35 (J := 38) rfl ?_
  intro T25 h25_ H25 W26
  have F27 : Fld Z h25_ p0 "java/lang/AbstractStringBuilder" "value" "[B" (.ref a17) := Fld.same W26 F24
  have F28 := (Fld.other W26 (Fld.keep f2 K19 nin0) (Or.inr (slot_ne (Or.inl (wd101 V)) (Or.inl (wd99 V)) (by decide) (t := .byte) (t' := (.array .byte)) (by decide) (by decide))))
  have F29 := (Exa.wr W26 F23)
  have N30 : a17 ≠ p0 := Ne.symm (Exa.neArv (Exa.keep f3 K19) F21 (wd85 V))
  have F31 := (Arv.other F21 W26 N30)
  have F32 := (Exa.wr W26 F22)
  have K33 : Keep h0 h25_ [p0] := (Keep.wr (Keep.trans (Keep.refl h0 [p0]) K19 all0) W26 (Or.inl (mG (i := 0) rfl)))
  exact G.retV H25 rfl D31_38 (so := [a17]) (allS (mG (i := 0) rfl) all0) (by decide) (by decide) ⟨a17, k18, rfl, rfl, K33, g20, (fun O n d w F hn0 => (Fld.other W26 (Fld.keep F K19 nin0) (Or.inr hn0))), F27, F28, F29, F31, F32⟩
theorem m80_getBytes (V : Env1 Z a0 n0 uu0 uu1 uu2 uu3 uu4) (p0 : Addr) (p1 : Addr) (p2 : Addr) (c0 : ClassId) (x0 : Int32) (c1 : ClassId) (h0 : Heap) (hO : Old Z n0 h0) (f0 : Exa Z h0 p0 "java/lang/String") (f1 : Fld Z h0 p0 "java/lang/String" "coder" "B" (.int 0)) (f2 : Fld Z h0 p0 "java/lang/String" "value" "[B" (.ref p2)) (f3 : Arv Z h0 p2 c0 .byte 1 [.int x0] (.int 0)) (f4 : Arv Z h0 p1 c1 .byte 34 [.int 116, .int 104, .int 101, .int 32, .int 104, .int 105, .int 110, .int 116, .int 32, .int 111, .int 102, .int 32, .int 107, .int 101, .int 121, .int 32, .int 0, .int 0, .int 0, .int 0, .int 0, .int 0, .int 0, .int 0, .int 0, .int 0, .int 0, .int 0, .int 0, .int 0, .int 0, .int 0, .int 0, .int 0] (.int 0)) (g5 : n0 ≤ p1) :
    Met Z a0 ELs True n0 l ⟨"java/lang/String", "getBytes", "([BIB)V"⟩ jdk_42_method_147_code 4 none ⟨1, 0, 0, 40⟩ #[.ref p0, .ref p1, .int 16, .int 0] h0 [p1] (fun v h so => (v = none ∧ so = [] ∧ Keep h0 h [p1] ∧ Arv Z h p1 c1 .byte 34 [.int 116, .int 104, .int 101, .int 32, .int 104, .int 105, .int 110, .int 116, .int 32, .int 111, .int 102, .int 32, .int 107, .int 101, .int 121, .int 32, .int x0, .int 0, .int 0, .int 0, .int 0, .int 0, .int 0, .int 0, .int 0, .int 0, .int 0, .int 0, .int 0, .int 0, .int 0, .int 0, .int 0, .int 0] (.int 0))) := by
  refine Met.of (EWl V) (by first | decide +kernel | rfl) hO (L0 := #[.val (.ref p0), .val (.ref p1), .val (.int 16), .val (.int 0)]) rfl ?_
  intro p e s m below meth c T H
  show Go p e below _ (T.setTop (mkF m 0 _ []))
  refine G.aloadN H D6_0 (J := 1) rfl rfl rfl ?_
  refine G.callV H (m18_coder V p0 h0 H.old f1) (wd118 V) (wd119 V) (nf_sel (wd121 V)) (wd121 V) (wd120 V) (wd2 V) (wd122 V) (by decide) f0 (argsL := []) (rest := []) (W := 0) rfl rfl (lenOf (pd_11) rfl) rfl rfl D6_1 (J := 4) rfl (by decide) (by decide) (by decide) (by decide) all0 ?_
  intro T1 h1_ v2 s3 H1 Q4
  obtain ⟨rfl, rfl, rfl⟩ := Q4
  show Go p e below _ (T1.setTop (mkF m 4 _ [.int 0]))
  refine G.iloadN H1 D6_4 (J := 5) rfl rfl ?_
  refine G.icmpNo H1 D6_5 (J := 8) rfl (by decide) ?_
  refine G.aloadN H1 D6_8 (J := 9) rfl rfl rfl ?_
  refine G.getF H1 (wd28 V) Via.refl f2 D6_9 (J := 12) rfl ?_
  intro T5 H6
  refine G.iconst H6 D6_12 (J := 13) rfl (v := 0) rfl ?_
  refine G.aloadN H6 D6_13 (J := 14) rfl rfl rfl ?_
  refine G.iloadN H6 D6_14 (J := 15) rfl rfl ?_
  refine G.iloadN H6 D6_15 (J := 16) rfl rfl ?_
  refine G.ishl H6 D6_16 (J := 17) rfl ?_
  show Go p e below _ (T5.setTop (mkF m 17 _ [.int 16, .ref p1, .int 0, .ref p2]))
  refine G.aloadN H6 D6_17 (J := 18) rfl rfl rfl ?_
  refine G.getF H6 (wd28 V) Via.refl f2 D6_18 (J := 21) rfl ?_
  intro T7 H8
  refine G.arrlen H8 f3 D6_21 (J := 22) rfl ?_
  refine G.copy H8 (wd146 V) (wd149 V) (wd147 V) (wd148 V) f3 f4 (us := [.int x0]) (Or.inl ⟨rfl, rfl⟩) (by decide) (by decide) (by decide) (by decide) (by decide) rfl lB (vr := [.int 116, .int 104, .int 101, .int 32, .int 104, .int 105, .int 110, .int 116, .int 32, .int 111, .int 102, .int 32, .int 107, .int 101, .int 121, .int 32, .int x0, .int 0, .int 0, .int 0, .int 0, .int 0, .int 0, .int 0, .int 0, .int 0, .int 0, .int 0, .int 0, .int 0, .int 0, .int 0, .int 0, .int 0]) rfl g5 (Sf.mem (mG (i := 0) rfl)) (st := []) (W := 0) rfl rfl D6_22 (J := 25) rfl (by decide) (by decide) ?_
  intro T9 h9_ H9 K10 A11
  refine G.goto H9 D6_25 (by decide) (J := 43) rfl ?_
  have K12 : Keep h0 h9_ [p1] := (Keep.trans (Keep.refl h0 [p1]) K10 (allS (Or.inl (mG (i := 0) rfl)) all0))
  exact G.retV H9 rfl D6_43 (so := []) all0 (by decide) (by decide) ⟨rfl, rfl, K12, A11⟩
theorem m81_putStringAt (V : Env1 Z a0 n0 uu0 uu1 uu2 uu3 uu4) (p0 : Addr) (p1 : Addr) (p2 : Addr) (p3 : Addr) (c0 : ClassId) (x0 : Int32) (c1 : ClassId) (h0 : Heap) (hO : Old Z n0 h0) (f0 : Exa Z h0 p0 "java/lang/StringBuilder") (f1 : Fld Z h0 p0 "java/lang/AbstractStringBuilder" "coder" "B" (.int 0)) (f2 : Exa Z h0 p1 "java/lang/String") (f3 : Fld Z h0 p1 "java/lang/String" "coder" "B" (.int 0)) (f4 : Fld Z h0 p0 "java/lang/AbstractStringBuilder" "value" "[B" (.ref p2)) (f5 : Fld Z h0 p1 "java/lang/String" "value" "[B" (.ref p3)) (f6 : Arv Z h0 p3 c0 .byte 1 [.int x0] (.int 0)) (f7 : Arv Z h0 p2 c1 .byte 34 [.int 116, .int 104, .int 101, .int 32, .int 104, .int 105, .int 110, .int 116, .int 32, .int 111, .int 102, .int 32, .int 107, .int 101, .int 121, .int 32, .int 0, .int 0, .int 0, .int 0, .int 0, .int 0, .int 0, .int 0, .int 0, .int 0, .int 0, .int 0, .int 0, .int 0, .int 0, .int 0, .int 0, .int 0] (.int 0)) (g8 : n0 ≤ p2) :
    Met Z a0 ELs True n0 l ⟨"java/lang/AbstractStringBuilder", "putStringAt", "(ILjava/lang/String;)V"⟩ jdk_68_method_73_code 3 none ⟨2, 0, 0, 55⟩ #[.ref p0, .int 16, .ref p1] h0 [p2] (fun v h so => (v = none ∧ so = [] ∧ Keep h0 h [p2] ∧ Arv Z h p2 c1 .byte 34 [.int 116, .int 104, .int 101, .int 32, .int 104, .int 105, .int 110, .int 116, .int 32, .int 111, .int 102, .int 32, .int 107, .int 101, .int 121, .int 32, .int x0, .int 0, .int 0, .int 0, .int 0, .int 0, .int 0, .int 0, .int 0, .int 0, .int 0, .int 0, .int 0, .int 0, .int 0, .int 0, .int 0, .int 0] (.int 0))) := by
  refine Met.of (EWl V) (by first | decide +kernel | rfl) hO (L0 := #[.val (.ref p0), .val (.int 16), .val (.ref p1)]) rfl ?_
  intro p e s m below meth c T H
  show Go p e below _ (T.setTop (mkF m 0 _ []))
  refine G.aloadN H D30_0 (J := 1) rfl rfl rfl ?_
  refine G.aloadN H D30_1 (J := 2) rfl rfl rfl ?_
  refine G.callV H (m21_inflateIfNeededFor V p0 p1 h0 H.old f1 f2 f3) (wd135 V) (decl_of (wd136 V) (wd139 V)) (nf_sel (wd138 V)) (wd138 V) (wd136 V) (wd94 V) (wd139 V) (by decide) f0 (argsL := [.ref p1]) (rest := []) (W := 0) rfl rfl (lenOf (pd_12) rfl) rfl rfl D30_2 (J := 5) rfl (by decide) (by decide) (by decide) (by decide) all0 ?_
  intro T1 h1_ v2 s3 H1 Q4
  obtain ⟨rfl, rfl, rfl⟩ := Q4
  show Go p e below _ (T1.setTop (mkF m 5 _ []))
  refine G.aloadN H1 D30_5 (J := 6) rfl rfl rfl ?_
  refine G.aloadN H1 D30_6 (J := 7) rfl rfl rfl ?_
  refine G.getF H1 (wd98 V) Via.refl f4 D30_7 (J := 10) rfl ?_
  intro T5 H6
  refine G.iloadN H6 D30_10 (J := 11) rfl rfl ?_
  refine G.aloadN H6 D30_11 (J := 12) rfl rfl rfl ?_
  refine G.getF H6 (wd100 V) Via.refl f1 D30_12 (J := 15) rfl ?_
  intro T7 H8
  refine G.callV H8 (m80_getBytes V p1 p2 p3 c0 x0 c1 h0 H8.old f2 f3 f5 f6 f7 g8) (wd141 V) (wd142 V) (nf_sel (wd144 V)) (wd144 V) (wd143 V) (wd2 V) (wd145 V) (by decide) f2 (argsL := [.ref p2, .int 16, .int 0]) (rest := []) (W := 0) rfl rfl (lenOf (pd_13) rfl) rfl rfl D30_15 (J := 18) rfl (by decide) (by decide) (by decide) (by decide) (allS (mG (i := 0) rfl) all0) ?_
  intro T9 h9_ v10 s11 H9 Q12
  obtain ⟨rfl, rfl, K13, F14⟩ := Q12
  show Go p e below _ (T9.setTop (mkF m 18 _ []))
  have K15 : Keep h0 h9_ [p2] := (Keep.trans (Keep.refl h0 [p2]) K13 (allS (Or.inl (mG (i := 0) rfl)) all0))
  exact G.retV H9 rfl D30_18 (so := []) all0 (by decide) (by decide) ⟨rfl, rfl, K15, F14⟩
theorem m82_append (V : Env1 Z a0 n0 uu0 uu1 uu2 uu3 uu4) (p0 : Addr) (p1 : Addr) (p2 : Addr) (c0 : ClassId) (x0 : Int32) (p3 : Addr) (c1 : ClassId) (h0 : Heap) (hO : Old Z n0 h0) (f0 : Exa Z h0 p1 "java/lang/String") (f1 : Fld Z h0 p1 "java/lang/String" "value" "[B" (.ref p2)) (f2 : Arv Z h0 p2 c0 .byte 1 [.int x0] (.int 0)) (f3 : Fld Z h0 p1 "java/lang/String" "coder" "B" (.int 0)) (f4 : Fld Z h0 p0 "java/lang/AbstractStringBuilder" "count" "I" (.int 16)) (f5 : Exa Z h0 p0 "java/lang/StringBuilder") (f6 : Fld Z h0 p0 "java/lang/AbstractStringBuilder" "value" "[B" (.ref p3)) (f7 : Arv Z h0 p3 c1 .byte 16 [.int 116, .int 104, .int 101, .int 32, .int 104, .int 105, .int 110, .int 116, .int 32, .int 111, .int 102, .int 32, .int 107, .int 101, .int 121, .int 32] (.int 0)) (f8 : Fld Z h0 p0 "java/lang/AbstractStringBuilder" "coder" "B" (.int 0)) (g9 : n0 ≤ p0) :
    Met Z a0 ELs True n0 l ⟨"java/lang/AbstractStringBuilder", "append", "(Ljava/lang/String;)Ljava/lang/AbstractStringBuilder;"⟩ jdk_68_method_22_code 3 (some (.object "java/lang/AbstractStringBuilder")) ⟨4, 1, 34, 69⟩ #[.ref p0, .ref p1] h0 [] (fun v h so => (∃ a11 : Addr, ∃ k12 : ClassId, v = some (.ref p0) ∧ so = [a11] ∧ Keep h0 h [p0] ∧ h0.size ≤ a11 ∧ (∀ (O n d : String) (w : Value), Fld Z h0 p0 O n d w → RoadKit.slotOf Z O n d ≠ RoadKit.slotOf Z "java/lang/AbstractStringBuilder" "value" "[B" → RoadKit.slotOf Z O n d ≠ RoadKit.slotOf Z "java/lang/AbstractStringBuilder" "count" "I" → Fld Z h p0 O n d w) ∧ Fld Z h p0 "java/lang/AbstractStringBuilder" "count" "I" (.int 17) ∧ Exa Z h p0 "java/lang/StringBuilder" ∧ Fld Z h p0 "java/lang/AbstractStringBuilder" "value" "[B" (.ref a11) ∧ Fld Z h p0 "java/lang/AbstractStringBuilder" "coder" "B" (.int 0) ∧ Arv Z h a11 k12 .byte 34 [.int 116, .int 104, .int 101, .int 32, .int 104, .int 105, .int 110, .int 116, .int 32, .int 111, .int 102, .int 32, .int 107, .int 101, .int 121, .int 32, .int x0, .int 0, .int 0, .int 0, .int 0, .int 0, .int 0, .int 0, .int 0, .int 0, .int 0, .int 0, .int 0, .int 0, .int 0, .int 0, .int 0, .int 0] (.int 0) ∧ Exa Z h a11 "[B")) := by
  refine Met.of (EWl V) (by first | decide +kernel | rfl) hO (L0 := #[.val (.ref p0), .val (.ref p1), .unset]) rfl ?_
  intro p e s m below meth c T H
  show Go p e below _ (T.setTop (mkF m 0 _ []))
  refine G.aloadN H D24_0 (J := 1) rfl rfl rfl ?_
  refine G.ifnonnullYes H D24_1 (by decide) (J := 9) rfl ?_
  refine G.aloadN H D24_9 (J := 10) rfl rfl rfl ?_
  refine G.callV H (m74_length V p1 p2 c0 x0 h0 H.old f1 f2 f0 f3) (wd113 V) (wd114 V) (nf_sel (wd116 V)) (wd116 V) (wd115 V) (wd2 V) (wd117 V) (by decide) f0 (argsL := []) (rest := []) (W := 0) rfl rfl (lenOf (pd_7) rfl) rfl rfl D24_10 (J := 13) rfl (by decide) (by decide) (by decide) (by decide) all0 ?_
  intro T1 h1_ v2 s3 H1 Q4
  obtain ⟨rfl, rfl, rfl⟩ := Q4
  show Go p e below _ (T1.setTop (mkF m 13 _ [.int 1]))
  refine G.istoreN H1 (L' := #[.val (.ref p0), .val (.ref p1), .val (.int 1)]) D24_13 (J := 14) rfl rfl ?_
  refine G.aloadN H1 D24_14 (J := 15) rfl rfl rfl ?_
  refine G.aloadN H1 D24_15 (J := 16) rfl rfl rfl ?_
  refine G.getF H1 (wd123 V) Via.refl f4 D24_16 (J := 19) rfl ?_
  intro T5 H6
  refine G.iloadN H6 D24_19 (J := 20) rfl rfl ?_
  refine G.iadd H6 D24_20 (J := 21) rfl ?_
  show Go p e below _ (T5.setTop (mkF m 21 _ [.int 17, .ref p0]))
  refine G.callV H6 (m79_ensureCapacityInternal V p0 p3 c1 h0 H6.old f6 f7 f8 f5 g9) (wd125 V) (decl_of (wd126 V) (wd129 V)) (nf_sel (wd128 V)) (wd128 V) (wd126 V) (wd94 V) (wd129 V) (by decide) f5 (argsL := [.int 17]) (rest := []) (W := 0) rfl rfl (lenOf (pd_10) rfl) rfl rfl D24_21 (J := 24) rfl (by decide) (by decide) (by decide) (by decide) all0 ?_
  intro T7 h7_ v8 s9 H7 Q10
  obtain ⟨a11, k12, rfl, rfl, K13, g14, U15, F16, F17, F18, F19, F20⟩ := Q10
  have na11 : n0 ≤ a11 := Nat.le_trans H1.le g14
  show Go p e below _ (T7.setTop (mkF m 24 _ []))
  refine G.aloadN H7 D24_24 (J := 25) rfl rfl rfl ?_
  refine G.aloadN H7 D24_25 (J := 26) rfl rfl rfl ?_
  have F21 := (U15 "java/lang/AbstractStringBuilder" "count" "I" (.int 16) f4 (slot_ne (Or.inl (wd124 V)) (Or.inl (wd99 V)) (by decide) (t := .int) (t' := (.array .byte)) (by decide) (by decide)))
  refine G.getF H7 (wd123 V) Via.refl F21 D24_26 (J := 29) rfl ?_
  intro T22 H23
  refine G.aloadN H23 D24_29 (J := 30) rfl rfl rfl ?_
  have F24 := (Exa.keep f0 K13)
  have N25 : p1 ≠ p0 := Exa.ne F24 F18 (by decide)
  have F26 := (Fld.keep f3 K13 (ninS N25 nin0))
  have F27 := (Fld.keep f1 K13 (ninS N25 nin0))
  have N28 : p2 ≠ p0 := Ne.symm (Exa.neArv f5 f2 (wd85 V))
  have F29 := (Arv.keep f2 K13 (ninS N28 nin0))
  refine G.callV H23 (m81_putStringAt V p0 p1 a11 p2 c0 x0 k12 h7_ H23.old F18 F17 F24 F26 F16 F27 F29 F19 na11) (wd130 V) (decl_of (wd131 V) (wd134 V)) (nf_sel (wd133 V)) (wd133 V) (wd131 V) (wd94 V) (wd134 V) (by decide) F18 (argsL := [.int 16, .ref p1]) (rest := []) (W := 0) rfl rfl (lenOf (pd_14) rfl) rfl rfl D24_30 (J := 33) rfl (by decide) (by decide) (by decide) (by decide) (allS (mG (i := 0) rfl) all0) ?_
  intro T30 h30_ v31 s32 H30 Q33
  obtain ⟨rfl, rfl, K34, F35⟩ := Q33
  show Go p e below _ (T30.setTop (mkF m 33 _ []))
  refine G.aloadN H30 D24_33 (J := 34) rfl rfl rfl ?_
  refine G.dup H30 D24_34 (J := 35) rfl rfl ?_
  have N36 : p0 ≠ a11 := Exa.neArv (Exa.keep F18 K34) F35 (wd85 V)
  have F37 := (Fld.keep F21 K34 (ninS N36 nin0))
  refine G.getF H30 (wd123 V) Via.refl F37 D24_35 (J := 38) rfl ?_
  intro T38 H39
  refine G.iloadN H39 D24_38 (J := 39) rfl rfl ?_
  refine G.iadd H39 D24_39 (J := 40) rfl ?_
  show Go p e below _ (T38.setTop (mkF m 40 _ [.int 17, .ref p0]))
  have F40 := (Exa.keep F18 K34)
  refine G.putF H39 (wd123 V) Via.refl F37 F40 (Or.inl (wd124 V)) (wd85 V) (ty := .int) (by decide) rfl rfl g9 (Sf.exa F40) D24_40 (J := 43) rfl ?_
  intro T41 h41_ H41 W42
  have F43 : Fld Z h41_ p0 "java/lang/AbstractStringBuilder" "count" "I" (.int 17) := Fld.same W42 F37
  refine G.aloadN H41 D24_43 (J := 44) rfl rfl rfl ?_
  have F44 := (Exa.wr W42 F40)
  have F45 := (Fld.other W42 (Fld.keep F16 K34 (ninS N36 nin0)) (Or.inr (slot_ne (Or.inl (wd99 V)) (Or.inl (wd124 V)) (by decide) (t := (.array .byte)) (t' := .int) (by decide) (by decide))))
  have F46 := (Fld.other W42 (Fld.keep F17 K34 (ninS N36 nin0)) (Or.inr (slot_ne (Or.inl (wd101 V)) (Or.inl (wd124 V)) (by decide) (t := .byte) (t' := .int) (by decide) (by decide))))
  have F47 := (Arv.other F35 W42 (Ne.symm N36))
  have K48 : Keep h7_ h41_ [a11, p0] := (Keep.wr (Keep.trans (Keep.refl h7_ [a11, p0]) K34 (allS (Or.inl (mG (i := 0) rfl)) all0)) W42 (Or.inl (mG (i := 1) rfl)))
  have F49 := (Exa.keep F20 K48)
  have K50 : Keep h0 h41_ [p0] := (Keep.wr (Keep.trans (Keep.trans (Keep.refl h0 [p0]) K13 (allS (Or.inl (mG (i := 0) rfl)) all0)) K34 (allS (Or.inr g14) all0)) W42 (Or.inl (mG (i := 0) rfl)))
  exact G.retA H41 (t := (.object "java/lang/AbstractStringBuilder")) rfl rfl rfl D24_44 (so := [a11]) (allS (mG (i := 0) rfl) all0) (by decide) (by decide) ⟨a11, k12, rfl, rfl, K50, g14, (fun O n d w F hn0 hn1 => (Fld.other W42 (Fld.keep (U15 O n d w F hn0) K34 (ninS N36 nin0)) (Or.inr hn1))), F43, F44, F45, F46, F47, F49⟩
theorem m83_append (V : Env1 Z a0 n0 uu0 uu1 uu2 uu3 uu4) (p0 : Addr) (p1 : Addr) (p2 : Addr) (c0 : ClassId) (x0 : Int32) (p3 : Addr) (c1 : ClassId) (h0 : Heap) (hO : Old Z n0 h0) (f0 : Exa Z h0 p1 "java/lang/String") (f1 : Fld Z h0 p1 "java/lang/String" "value" "[B" (.ref p2)) (f2 : Arv Z h0 p2 c0 .byte 1 [.int x0] (.int 0)) (f3 : Fld Z h0 p1 "java/lang/String" "coder" "B" (.int 0)) (f4 : Fld Z h0 p0 "java/lang/AbstractStringBuilder" "count" "I" (.int 16)) (f5 : Exa Z h0 p0 "java/lang/StringBuilder") (f6 : Fld Z h0 p0 "java/lang/AbstractStringBuilder" "value" "[B" (.ref p3)) (f7 : Arv Z h0 p3 c1 .byte 16 [.int 116, .int 104, .int 101, .int 32, .int 104, .int 105, .int 110, .int 116, .int 32, .int 111, .int 102, .int 32, .int 107, .int 101, .int 121, .int 32] (.int 0)) (f8 : Fld Z h0 p0 "java/lang/AbstractStringBuilder" "coder" "B" (.int 0)) (g9 : n0 ≤ p0) :
    Met Z a0 ELs True n0 l ⟨"java/lang/StringBuilder", "append", "(Ljava/lang/String;)Ljava/lang/StringBuilder;"⟩ jdk_67_method_7_code 2 (some (.object "java/lang/StringBuilder")) ⟨5, 1, 34, 83⟩ #[.ref p0, .ref p1] h0 [] (fun v h so => (∃ a5 : Addr, ∃ k6 : ClassId, v = some (.ref p0) ∧ so = [a5] ∧ Keep h0 h [p0] ∧ h0.size ≤ a5 ∧ (∀ (O n d : String) (w : Value), Fld Z h0 p0 O n d w → RoadKit.slotOf Z O n d ≠ RoadKit.slotOf Z "java/lang/AbstractStringBuilder" "value" "[B" → RoadKit.slotOf Z O n d ≠ RoadKit.slotOf Z "java/lang/AbstractStringBuilder" "count" "I" → Fld Z h p0 O n d w) ∧ Fld Z h p0 "java/lang/AbstractStringBuilder" "count" "I" (.int 17) ∧ Exa Z h p0 "java/lang/StringBuilder" ∧ Fld Z h p0 "java/lang/AbstractStringBuilder" "value" "[B" (.ref a5) ∧ Fld Z h p0 "java/lang/AbstractStringBuilder" "coder" "B" (.int 0) ∧ Arv Z h a5 k6 .byte 34 [.int 116, .int 104, .int 101, .int 32, .int 104, .int 105, .int 110, .int 116, .int 32, .int 111, .int 102, .int 32, .int 107, .int 101, .int 121, .int 32, .int x0, .int 0, .int 0, .int 0, .int 0, .int 0, .int 0, .int 0, .int 0, .int 0, .int 0, .int 0, .int 0, .int 0, .int 0, .int 0, .int 0, .int 0] (.int 0) ∧ Exa Z h a5 "[B")) := by
  refine Met.of (EWl V) (by first | decide +kernel | rfl) hO (L0 := #[.val (.ref p0), .val (.ref p1)]) rfl ?_
  intro p e s m below meth c T H
  show Go p e below _ (T.setTop (mkF m 0 _ []))
  refine G.aloadN H D21_0 (J := 1) rfl rfl rfl ?_
  refine G.aloadN H D21_1 (J := 2) rfl rfl rfl ?_
  refine G.callSup H (m82_append V p0 p1 p2 c0 x0 p3 c1 h0 H.old f0 f1 f2 f3 f4 f5 f6 f7 f8 g9) (wd108 V) (same_of (wd111 V) (wd128 V) rfl (by decide)) (wd109 V) (wd110 V) (by decide) (wd94 V) (wd112 V) (a := p0) (Ins.self f5) (argsL := [.ref p1]) (rest := []) (W := 0) rfl rfl (lenOf (pd_15) rfl) rfl rfl D21_2 (J := 5) rfl (by decide) (by decide) (by decide) (by decide) all0 ?_
  intro T1 h1_ v2 s3 H1 Q4
  obtain ⟨a5, k6, rfl, rfl, K7, g8, U9, F10, F11, F12, F13, F14, F15⟩ := Q4
  have na5 : n0 ≤ a5 := Nat.le_trans H.le g8
  show Go p e below _ (T1.setTop (mkF m 5 _ [.ref p0]))
  refine G.pop H1 D21_5 (J := 6) rfl rfl ?_
  refine G.aloadN H1 D21_6 (J := 7) rfl rfl rfl ?_
  have K16 : Keep h0 h1_ [p0] := (Keep.trans (Keep.refl h0 [p0]) K7 (allS (Or.inl (mG (i := 0) rfl)) all0))
  exact G.retA H1 (t := (.object "java/lang/StringBuilder")) rfl rfl rfl D21_7 (so := [a5]) (allS (mG (i := 0) rfl) all0) (by decide) (by decide) ⟨a5, k6, rfl, rfl, K16, g8, (fun O n d w F hn0 hn1 => (U9 O n d w F hn0 hn1)), F10, F11, F12, F13, F14, F15⟩
theorem m84_length (V : Env1 Z a0 n0 uu0 uu1 uu2 uu3 uu4) (p0 : Addr) (h0 : Heap) (hO : Old Z n0 h0) (f0 : Fld Z h0 p0 "java/lang/AbstractStringBuilder" "count" "I" (.int 17)) :
    Met Z a0 ELs True n0 l ⟨"java/lang/AbstractStringBuilder", "length", "()I"⟩ jdk_68_method_6_code 1 (some .int) ⟨0, 0, 0, 0⟩ #[.ref p0] h0 [] (fun v h so => (v = some (.int 17) ∧ so = [] ∧ h0 = h)) := by
  refine Met.of (EWl V) (by first | decide +kernel | rfl) hO (L0 := #[.val (.ref p0)]) rfl ?_
  intro p e s m below meth c T H
  show Go p e below _ (T.setTop (mkF m 0 _ []))
  refine G.aloadN H D28_0 (J := 1) rfl rfl rfl ?_
  refine G.getF H (wd123 V) Via.refl f0 D28_1 (J := 4) rfl ?_
  intro T1 H2
  exact G.retI H2 rfl D28_4 (so := []) all0 (by decide) (by decide) ⟨rfl, rfl, rfl⟩
theorem m85_length (V : Env1 Z a0 n0 uu0 uu1 uu2 uu3 uu4) (p0 : Addr) (h0 : Heap) (hO : Old Z n0 h0) (f0 : Fld Z h0 p0 "java/lang/AbstractStringBuilder" "count" "I" (.int 17)) (f1 : Exa Z h0 p0 "java/lang/StringBuilder") :
    Met Z a0 ELs True n0 l ⟨"java/lang/StringBuilder", "length", "()I"⟩ jdk_67_method_93_code 1 (some .int) ⟨1, 0, 0, 12⟩ #[.ref p0] h0 [] (fun v h so => (v = some (.int 17) ∧ so = [] ∧ h0 = h)) := by
  refine Met.of (EWl V) (by first | decide +kernel | rfl) hO (L0 := #[.val (.ref p0)]) rfl ?_
  intro p e s m below meth c T H
  show Go p e below _ (T.setTop (mkF m 0 _ []))
  refine G.aloadN H D22_0 (J := 1) rfl rfl rfl ?_
  refine G.callSup H (m84_length V p0 h0 H.old f0) (wd196 V) (same_of (wd191 V) (wd128 V) rfl (by decide)) (wd192 V) (wd110 V) (by decide) (wd94 V) (wd197 V) (a := p0) (Ins.self f1) (argsL := []) (rest := []) (W := 0) rfl rfl (lenOf (pd_7) rfl) rfl rfl D22_1 (J := 4) rfl (by decide) (by decide) (by decide) (by decide) all0 ?_
  intro T1 h1_ v2 s3 H1 Q4
  obtain ⟨rfl, rfl, rfl⟩ := Q4
  show Go p e below _ (T1.setTop (mkF m 4 _ [.int 17]))
  exact G.retI H1 rfl D22_4 (so := []) all0 (by decide) (by decide) ⟨rfl, rfl, rfl⟩
theorem m86_checkLength (V : Env1 Z a0 n0 uu0 uu1 uu2 uu3 uu4)  (h0 : Heap) (hO : Old Z n0 h0)  :
    Met Z a0 ELs True n0 l ⟨"java/util/Arrays", "checkLength", "(II)V"⟩ jdk_65_method_131_code 2 none ⟨0, 0, 0, 0⟩ #[.int 0, .int 17] h0 [] (fun v h so => (v = none ∧ so = [] ∧ h0 = h)) := by
  refine Met.of (EWl V) (by first | decide +kernel | rfl) hO (L0 := #[.val (.int 0), .val (.int 17)]) rfl ?_
  intro p e s m below meth c T H
  show Go p e below _ (T.setTop (mkF m 0 _ []))
  refine G.iloadN H D16_0 (J := 1) rfl rfl ?_
  refine G.iloadN H D16_1 (J := 2) rfl rfl ?_
  refine G.icmpYes H D16_2 (by decide) (by decide) (J := 37) rfl ?_
  exact G.retV H rfl D16_37 (so := []) all0 (by decide) (by decide) ⟨rfl, rfl, rfl⟩
theorem m87_min (V : Env1 Z a0 n0 uu0 uu1 uu2 uu3 uu4)  (h0 : Heap) (hO : Old Z n0 h0)  :
    Met Z a0 ELs True n0 l ⟨"java/lang/Math", "min", "(II)I"⟩ jdk_29_method_69_code 2 (some .int) ⟨0, 0, 0, 0⟩ #[.int 34, .int 17] h0 [] (fun v h so => (v = some (.int 17) ∧ so = [] ∧ h0 = h)) := by
  refine Met.of (EWl V) (by first | decide +kernel | rfl) hO (L0 := #[.val (.int 34), .val (.int 17)]) rfl ?_
  intro p e s m below meth c T H
  show Go p e below _ (T.setTop (mkF m 0 _ []))
  refine G.iloadN H D1_0 (J := 1) rfl rfl ?_
  refine G.iloadN H D1_1 (J := 2) rfl rfl ?_
  refine G.icmpYes H D1_2 (by decide) (by decide) (J := 9) rfl ?_
  refine G.iloadN H D1_9 (J := 10) rfl rfl ?_
  exact G.retI H rfl D1_10 (so := []) all0 (by decide) (by decide) ⟨rfl, rfl, rfl⟩
theorem m88_copyOfRangeByte (V : Env1 Z a0 n0 uu0 uu1 uu2 uu3 uu4) (p0 : Addr) (c0 : ClassId) (x0 : Int32) (h0 : Heap) (hO : Old Z n0 h0) (f0 : Arv Z h0 p0 c0 .byte 34 [.int 116, .int 104, .int 101, .int 32, .int 104, .int 105, .int 110, .int 116, .int 32, .int 111, .int 102, .int 32, .int 107, .int 101, .int 121, .int 32, .int x0, .int 0, .int 0, .int 0, .int 0, .int 0, .int 0, .int 0, .int 0, .int 0, .int 0, .int 0, .int 0, .int 0, .int 0, .int 0, .int 0, .int 0] (.int 0)) :
    Met Z a0 ELs True n0 l ⟨"java/util/Arrays", "copyOfRangeByte", "([BII)[B"⟩ jdk_65_method_133_code 5 (some (.array .byte)) ⟨1, 1, 17, 40⟩ #[.ref p0, .int 0, .int 17] h0 [] (fun v h so => (∃ a6 : Addr, ∃ k9 : ClassId, v = some (.ref a6) ∧ so = [a6] ∧ Keep h0 h [] ∧ h0.size ≤ a6 ∧ Arv Z h a6 k9 .byte 17 [.int 116, .int 104, .int 101, .int 32, .int 104, .int 105, .int 110, .int 116, .int 32, .int 111, .int 102, .int 32, .int 107, .int 101, .int 121, .int 32, .int x0] (.int 0) ∧ Exa Z h a6 "[B")) := by
  refine Met.of (EWl V) (by first | decide +kernel | rfl) hO (L0 := #[.val (.ref p0), .val (.int 0), .val (.int 17), .unset, .unset]) rfl ?_
  intro p e s m below meth c T H
  show Go p e below _ (T.setTop (mkF m 0 _ []))
  refine G.iloadN H D18_0 (J := 1) rfl rfl ?_
  refine G.iloadN H D18_1 (J := 2) rfl rfl ?_
  refine G.callS H (m86_checkLength V h0 H.old) (wd209 V) (wd210 V) (wd167 V) (wd211 V) (by decide) (argsL := [.int 0, .int 17]) (rest := []) (W := 0) rfl rfl (lenOf (pd_26) rfl) rfl rfl D18_2 (J := 5) rfl (by decide) (by decide) (by decide) (by decide) all0 ?_
  intro T1 h1_ v2 s3 H1 Q4
  obtain ⟨rfl, rfl, rfl⟩ := Q4
  show Go p e below _ (T1.setTop (mkF m 5 _ []))
  refine G.iloadN H1 D18_5 (J := 6) rfl rfl ?_
  refine G.iloadN H1 D18_6 (J := 7) rfl rfl ?_
  refine G.isub H1 D18_7 (J := 8) rfl ?_
  show Go p e below _ (T1.setTop (mkF m 8 _ [.int 17]))
  refine G.istoreN H1 (L' := #[.val (.ref p0), .val (.int 0), .val (.int 17), .val (.int 17), .unset]) D18_8 (J := 9) rfl rfl ?_
  refine G.iloadN H1 D18_9 (J := 10) rfl rfl ?_
  refine G.newP H1 (aty := .byte) (wd4 V) D18_10 (J := 12) rfl (by decide) (cap := 17) (by decide) (by decide) (by decide) (by decide) (vs := [.int 0, .int 0, .int 0, .int 0, .int 0, .int 0, .int 0, .int 0, .int 0, .int 0, .int 0, .int 0, .int 0, .int 0, .int 0, .int 0, .int 0]) rfl (ad := "[B") rfl ?_
  intro T5 h5_ a6 k9 ga6 H5 E7 A8 X10
  have na6 := H1.nle ga6
  replace A8 : Arv Z h5_ a6 k9 .byte 17 [.int 0, .int 0, .int 0, .int 0, .int 0, .int 0, .int 0, .int 0, .int 0, .int 0, .int 0, .int 0, .int 0, .int 0, .int 0, .int 0, .int 0] (.int 0) := A8
  refine G.astore H5 (L' := #[.val (.ref p0), .val (.int 0), .val (.int 17), .val (.int 17), .val (.ref a6)]) D18_12 (J := 14) rfl rfl rfl ?_
  refine G.aloadN H5 D18_14 (J := 15) rfl rfl rfl ?_
  refine G.iloadN H5 D18_15 (J := 16) rfl rfl ?_
  refine G.aload H5 D18_16 (J := 18) rfl rfl rfl ?_
  refine G.iconst H5 D18_18 (J := 19) rfl (v := 0) rfl ?_
  refine G.aloadN H5 D18_19 (J := 20) rfl rfl rfl ?_
  have F11 := (Arv.ext f0 E7)
  refine G.arrlen H5 F11 D18_20 (J := 21) rfl ?_
  refine G.iloadN H5 D18_21 (J := 22) rfl rfl ?_
  refine G.isub H5 D18_22 (J := 23) rfl ?_
  show Go p e below _ (T5.setTop (mkF m 23 _ [.int 34, .int 0, .ref a6, .int 0, .ref p0]))
  refine G.iloadN H5 D18_23 (J := 24) rfl rfl ?_
  refine G.callS H5 (m87_min V h5_ H5.old) (wd169 V) (wd170 V) (wd161 V) (wd171 V) (by decide) (argsL := [.int 34, .int 17]) (rest := [.int 0, .ref a6, .int 0, .ref p0]) (W := 4) rfl rfl (lenOf (pd_22) rfl) rfl rfl D18_24 (J := 27) rfl (by decide) (by decide) (by decide) (by decide) all0 ?_
  intro T12 h12_ v13 s14 H12 Q15
  obtain ⟨rfl, rfl, rfl⟩ := Q15
  show Go p e below _ (T12.setTop (mkF m 27 _ [.int 17, .int 0, .ref a6, .int 0, .ref p0]))
  refine G.copy H12 (wd172 V) (wd149 V) (wd147 V) (wd148 V) F11 A8 (us := [.int 116, .int 104, .int 101, .int 32, .int 104, .int 105, .int 110, .int 116, .int 32, .int 111, .int 102, .int 32, .int 107, .int 101, .int 121, .int 32, .int x0]) (Or.inl ⟨rfl, rfl⟩) (by decide) (by decide) (by decide) (by decide) (by decide) rfl lB (vr := [.int 116, .int 104, .int 101, .int 32, .int 104, .int 105, .int 110, .int 116, .int 32, .int 111, .int 102, .int 32, .int 107, .int 101, .int 121, .int 32, .int x0]) rfl na6 (Sf.mem (mG (i := 0) rfl)) (st := []) (W := 0) rfl rfl D18_27 (J := 30) rfl (by decide) (by decide) ?_
  intro T16 h16_ H16 K17 A18
  refine G.aload H16 D18_30 (J := 32) rfl rfl rfl ?_
  have F19 := (Exa.keep X10 K17)
  have K20 : Keep h0 h16_ [] := (Keep.trans (Keep.ext (Keep.refl h0 []) E7) K17 (allS (Or.inr (Nat.le_of_eq ga6.symm)) all0))
  exact G.retA H16 (t := (.array .byte)) rfl rfl rfl D18_32 (so := [a6]) (allS (mG (i := 0) rfl) all0) (by decide) (by decide) ⟨a6, k9, rfl, rfl, K20, (Nat.le_of_eq ga6.symm), A18, F19⟩
theorem m89_copyOfRange (V : Env1 Z a0 n0 uu0 uu1 uu2 uu3 uu4) (p0 : Addr) (c0 : ClassId) (x0 : Int32) (h0 : Heap) (hO : Old Z n0 h0) (f0 : Arv Z h0 p0 c0 .byte 34 [.int 116, .int 104, .int 101, .int 32, .int 104, .int 105, .int 110, .int 116, .int 32, .int 111, .int 102, .int 32, .int 107, .int 101, .int 121, .int 32, .int x0, .int 0, .int 0, .int 0, .int 0, .int 0, .int 0, .int 0, .int 0, .int 0, .int 0, .int 0, .int 0, .int 0, .int 0, .int 0, .int 0, .int 0] (.int 0)) :
    Met Z a0 ELs True n0 l ⟨"java/util/Arrays", "copyOfRange", "([BII)[B"⟩ jdk_65_method_132_code 3 (some (.array .byte)) ⟨2, 1, 17, 56⟩ #[.ref p0, .int 0, .int 17] h0 [] (fun v h so => (∃ a5 : Addr, ∃ k6 : ClassId, v = some (.ref a5) ∧ so = [a5] ∧ Keep h0 h [] ∧ h0.size ≤ a5 ∧ Arv Z h a5 k6 .byte 17 [.int 116, .int 104, .int 101, .int 32, .int 104, .int 105, .int 110, .int 116, .int 32, .int 111, .int 102, .int 32, .int 107, .int 101, .int 121, .int 32, .int x0] (.int 0) ∧ Exa Z h a5 "[B")) := by
  refine Met.of (EWl V) (by first | decide +kernel | rfl) hO (L0 := #[.val (.ref p0), .val (.int 0), .val (.int 17)]) rfl ?_
  intro p e s m below meth c T H
  show Go p e below _ (T.setTop (mkF m 0 _ []))
  refine G.iloadN H D17_0 (J := 1) rfl rfl ?_
  refine G.ifNo H D17_1 (J := 4) rfl (by decide) ?_
  refine G.iloadN H D17_4 (J := 5) rfl rfl ?_
  refine G.aloadN H D17_5 (J := 6) rfl rfl rfl ?_
  refine G.arrlen H f0 D17_6 (J := 7) rfl ?_
  refine G.icmpNo H D17_7 (J := 10) rfl (by decide) ?_
  refine G.aloadN H D17_10 (J := 11) rfl rfl rfl ?_
  refine G.iloadN H D17_11 (J := 12) rfl rfl ?_
  refine G.iloadN H D17_12 (J := 13) rfl rfl ?_
  refine G.callS H (m88_copyOfRangeByte V p0 c0 x0 h0 H.old f0) (wd206 V) (wd207 V) (wd167 V) (wd208 V) (by decide) (argsL := [.ref p0, .int 0, .int 17]) (rest := []) (W := 0) rfl rfl (lenOf (pd_19) rfl) rfl rfl D17_13 (J := 16) rfl (by decide) (by decide) (by decide) (by decide) all0 ?_
  intro T1 h1_ v2 s3 H1 Q4
  obtain ⟨a5, k6, rfl, rfl, K7, g8, F9, F10⟩ := Q4
  have na5 : n0 ≤ a5 := Nat.le_trans H.le g8
  show Go p e below _ (T1.setTop (mkF m 16 _ [.ref a5]))
  have K11 : Keep h0 h1_ [] := (Keep.trans (Keep.refl h0 []) K7 all0)
  exact G.retA H1 (t := (.array .byte)) rfl rfl rfl D17_16 (so := [a5]) (allS (mG (i := 0) rfl) all0) (by decide) (by decide) ⟨a5, k6, rfl, rfl, K11, g8, F9, F10⟩
theorem m90_init (V : Env1 Z a0 n0 uu0 uu1 uu2 uu3 uu4) (p0 : Addr) (p1 : Addr) (p2 : Addr) (c0 : ClassId) (x0 : Int32) (h0 : Heap) (hO : Old Z n0 h0) (f0 : Exa Z h0 p1 "java/lang/StringBuilder") (f1 : Fld Z h0 p1 "java/lang/AbstractStringBuilder" "value" "[B" (.ref p2)) (f2 : Fld Z h0 p1 "java/lang/AbstractStringBuilder" "count" "I" (.int 17)) (f3 : Fld Z h0 p1 "java/lang/AbstractStringBuilder" "coder" "B" (.int 0)) (f4 : Exa Z h0 p0 "java/lang/String") (f5 : Fld Z h0 p0 "java/lang/String" "coder" "B" (.int 0)) (g6 : n0 ≤ p0) (f7 : Arv Z h0 p2 c0 .byte 34 [.int 116, .int 104, .int 101, .int 32, .int 104, .int 105, .int 110, .int 116, .int 32, .int 111, .int 102, .int 32, .int 107, .int 101, .int 121, .int 32, .int x0, .int 0, .int 0, .int 0, .int 0, .int 0, .int 0, .int 0, .int 0, .int 0, .int 0, .int 0, .int 0, .int 0, .int 0, .int 0, .int 0, .int 0] (.int 0)) (f8 : Fld Z h0 p0 "java/lang/String" "value" "[B" .null) :
    Met Z a0 ELs True n0 l ⟨"java/lang/String", "<init>", "(Ljava/lang/AbstractStringBuilder;Ljava/lang/Void;)V"⟩ jdk_42_method_150_code 5 none ⟨3, 1, 17, 71⟩ #[.ref p0, .ref p1, .null] h0 [p0] (fun v h so => (∃ a24 : Addr, ∃ k25 : ClassId, v = none ∧ so = [a24] ∧ Keep h0 h [p0] ∧ h0.size ≤ a24 ∧ (∀ (O n d : String) (w : Value), Fld Z h0 p0 O n d w → RoadKit.slotOf Z O n d ≠ RoadKit.slotOf Z "java/lang/String" "coder" "B" → RoadKit.slotOf Z O n d ≠ RoadKit.slotOf Z "java/lang/String" "value" "[B" → Fld Z h p0 O n d w) ∧ Exa Z h p0 "java/lang/String" ∧ Fld Z h p0 "java/lang/String" "coder" "B" (.int 0) ∧ Fld Z h p0 "java/lang/String" "value" "[B" (.ref a24) ∧ Arv Z h a24 k25 .byte 17 [.int 116, .int 104, .int 101, .int 32, .int 104, .int 105, .int 110, .int 116, .int 32, .int 111, .int 102, .int 32, .int 107, .int 101, .int 121, .int 32, .int x0] (.int 0) ∧ Exa Z h a24 "[B")) := by
  refine Met.of (EWl V) (by first | decide +kernel | rfl) hO (L0 := #[.val (.ref p0), .val (.ref p1), .val .null, .unset, .unset]) rfl ?_
  intro p e s m below meth c T H
  show Go p e below _ (T.setTop (mkF m 0 _ []))
  refine G.aloadN H D7_0 (J := 1) rfl rfl rfl ?_
  refine G.initO H (wd25 V) (wd26 V) (wd27 V) rfl D7_1 (J := 4) rfl (by decide) (W := 0) rfl (by decide) ?_
  intro T1 H2
  refine G.aloadN H2 D7_4 (J := 5) rfl rfl rfl ?_
  refine G.callV H2 (m32_getValue V p1 p2 h0 H2.old f1) (wd185 V) (wd186 V) (nf_sel (wd188 V)) (wd188 V) (wd187 V) (wd94 V) (wd189 V) (by decide) f0 (argsL := []) (rest := []) (W := 0) rfl rfl (lenOf (pd_17) rfl) rfl rfl D7_5 (J := 8) rfl (by decide) (by decide) (by decide) (by decide) all0 ?_
  intro T3 h3_ v4 s5 H3 Q6
  obtain ⟨rfl, rfl, rfl⟩ := Q6
  show Go p e below _ (T3.setTop (mkF m 8 _ [.ref p2]))
  refine G.astoreN H3 (L' := #[.val (.ref p0), .val (.ref p1), .val .null, .val (.ref p2), .unset]) D7_8 (J := 9) rfl rfl rfl ?_
  refine G.aloadN H3 D7_9 (J := 10) rfl rfl rfl ?_
  refine G.callV H3 (m85_length V p1 h0 H3.old f2 f0) (wd190 V) (wd191 V) (nf_sib (wd128 V) rfl) (wd193 V) (wd194 V) (wd86 V) (wd195 V) (by decide) f0 (argsL := []) (rest := []) (W := 0) rfl rfl (lenOf (pd_7) rfl) rfl rfl D7_10 (J := 13) rfl (by decide) (by decide) (by decide) (by decide) all0 ?_
  intro T7 h7_ v8 s9 H7 Q10
  obtain ⟨rfl, rfl, rfl⟩ := Q10
  show Go p e below _ (T7.setTop (mkF m 13 _ [.int 17]))
  refine G.istore H7 (L' := #[.val (.ref p0), .val (.ref p1), .val .null, .val (.ref p2), .val (.int 17)]) D7_13 (J := 15) rfl rfl ?_
  refine G.aloadN H7 D7_15 (J := 16) rfl rfl rfl ?_
  refine G.callV H7 (m35_isLatin1 V p1 h0 H7.old f3) (wd198 V) (wd199 V) (nf_sel (wd201 V)) (wd201 V) (wd200 V) (wd94 V) (wd202 V) (by decide) f0 (argsL := []) (rest := []) (W := 0) rfl rfl (lenOf (pd_18) rfl) rfl rfl D7_16 (J := 19) rfl (by decide) (by decide) (by decide) (by decide) all0 ?_
  intro T11 h11_ v12 s13 H11 Q14
  obtain ⟨rfl, rfl, rfl⟩ := Q14
  show Go p e below _ (T11.setTop (mkF m 19 _ [.int 1]))
  refine G.ifNo H11 D7_19 (J := 22) rfl (by decide) ?_
  refine G.aloadN H11 D7_22 (J := 23) rfl rfl rfl ?_
  refine G.iconst H11 D7_23 (J := 24) rfl (v := 0) rfl ?_
  refine G.putF H11 (wd29 V) Via.refl f5 f4 (Or.inr ⟨(wd6 V), rfl, rfl⟩) (wd3 V) (ty := .byte) (by decide) rfl rfl g6 (Sf.mem (mG (i := 0) rfl)) D7_24 (J := 27) rfl ?_
  intro T15 h15_ H15 W16
  have F17 : Fld Z h15_ p0 "java/lang/String" "coder" "B" (.int 0) := Fld.same W16 f5
  refine G.aloadN H15 D7_27 (J := 28) rfl rfl rfl ?_
  refine G.aloadN H15 D7_28 (J := 29) rfl rfl rfl ?_
  refine G.iconst H15 D7_29 (J := 30) rfl (v := 0) rfl ?_
  refine G.iload H15 D7_30 (J := 32) rfl rfl ?_
  have N18 : p2 ≠ p0 := Ne.symm (Exa.neArv f4 f7 (wd3 V))
  have F19 := (Arv.other f7 W16 N18)
  refine G.callS H15 (m89_copyOfRange V p2 c0 x0 h15_ H15.old F19) (wd203 V) (wd204 V) (wd167 V) (wd205 V) (by decide) (argsL := [.ref p2, .int 0, .int 17]) (rest := [.ref p0]) (W := 1) rfl rfl (lenOf (pd_19) rfl) rfl rfl D7_32 (J := 35) rfl (by decide) (by decide) (by decide) (by decide) all0 ?_
  intro T20 h20_ v21 s22 H20 Q23
  obtain ⟨a24, k25, rfl, rfl, K26, g27, F28, F29⟩ := Q23
  have na24 : n0 ≤ a24 := Nat.le_trans H15.le g27
  show Go p e below _ (T20.setTop (mkF m 35 _ [.ref a24, .ref p0]))
  have K30 : Keep h0 h20_ [p0] := (Keep.trans (Keep.wr (Keep.refl h0 [p0]) W16 (Or.inl (mG (i := 0) rfl))) K26 all0)
  have F31 := (Exa.keep f4 K30)
  have F32 := (Fld.keep (Fld.other W16 f8 (Or.inr (slot_ne (Or.inr (wd5 V)) (Or.inr (wd6 V)) (by decide) (t := (.array .byte)) (t' := .byte) (by decide) (by decide)))) K26 nin0)
  refine G.putF H20 (wd28 V) Via.refl F32 F31 (Or.inr ⟨(wd5 V), rfl, rfl⟩) (wd3 V) (ty := (.array .byte)) (by decide) rfl rfl g6 (Sf.mem (mG (i := 1) rfl)) D7_35 (J := 38) rfl ?_
  intro T33 h33_ H33 W34
  have F35 : Fld Z h33_ p0 "java/lang/String" "value" "[B" (.ref a24) := Fld.same W34 F32
  refine G.goto H33 D7_38 (by decide) (J := 97) rfl ?_
  have F36 := (Exa.wr W34 F31)
  have F37 := (Fld.other W34 (Fld.keep F17 K26 nin0) (Or.inr (slot_ne (Or.inr (wd6 V)) (Or.inr (wd5 V)) (by decide) (t := .byte) (t' := (.array .byte)) (by decide) (by decide))))
  have N38 : a24 ≠ p0 := Ne.symm (Exa.neArv (Exa.keep (Exa.wr W16 f4) K26) F28 (wd3 V))
  have F39 := (Arv.other F28 W34 N38)
  have F40 := (Exa.wr W34 F29)
  have K41 : Keep h0 h33_ [p0] := (Keep.wr (Keep.trans (Keep.wr (Keep.refl h0 [p0]) W16 (Or.inl (mG (i := 0) rfl))) K26 all0) W34 (Or.inl (mG (i := 0) rfl)))
  have K42 : Keep h0 h15_ [p0] := (Keep.wr (Keep.refl h0 [p0]) W16 (Or.inl (mG (i := 0) rfl)))
  exact G.retV H33 rfl D7_97 (so := [a24]) (allS (mG (i := 0) rfl) all0) (by decide) (by decide) ⟨a24, k25, rfl, rfl, K41, (Nat.le_trans K42.1 g27), (fun O n d w F hn0 hn1 => (Fld.other W34 (Fld.keep (Fld.other W16 F (Or.inr hn0)) K26 nin0) (Or.inr hn1))), F36, F37, F35, F39, F40⟩
theorem m91_init (V : Env1 Z a0 n0 uu0 uu1 uu2 uu3 uu4) (p0 : Addr) (p1 : Addr) (p2 : Addr) (c0 : ClassId) (x0 : Int32) (h0 : Heap) (hO : Old Z n0 h0) (f0 : Exa Z h0 p1 "java/lang/StringBuilder") (f1 : Fld Z h0 p1 "java/lang/AbstractStringBuilder" "value" "[B" (.ref p2)) (f2 : Fld Z h0 p1 "java/lang/AbstractStringBuilder" "count" "I" (.int 17)) (f3 : Fld Z h0 p1 "java/lang/AbstractStringBuilder" "coder" "B" (.int 0)) (f4 : Exa Z h0 p0 "java/lang/String") (f5 : Fld Z h0 p0 "java/lang/String" "coder" "B" (.int 0)) (g6 : n0 ≤ p0) (f7 : Arv Z h0 p2 c0 .byte 34 [.int 116, .int 104, .int 101, .int 32, .int 104, .int 105, .int 110, .int 116, .int 32, .int 111, .int 102, .int 32, .int 107, .int 101, .int 121, .int 32, .int x0, .int 0, .int 0, .int 0, .int 0, .int 0, .int 0, .int 0, .int 0, .int 0, .int 0, .int 0, .int 0, .int 0, .int 0, .int 0, .int 0, .int 0] (.int 0)) (f8 : Fld Z h0 p0 "java/lang/String" "value" "[B" .null) :
    Met Z a0 ELs True n0 l ⟨"java/lang/String", "<init>", "(Ljava/lang/StringBuilder;)V"⟩ jdk_42_method_53_code 2 none ⟨4, 1, 17, 87⟩ #[.ref p0, .ref p1] h0 [p0] (fun v h so => (∃ a5 : Addr, ∃ k6 : ClassId, v = none ∧ so = [a5] ∧ Keep h0 h [p0] ∧ h0.size ≤ a5 ∧ (∀ (O n d : String) (w : Value), Fld Z h0 p0 O n d w → RoadKit.slotOf Z O n d ≠ RoadKit.slotOf Z "java/lang/String" "coder" "B" → RoadKit.slotOf Z O n d ≠ RoadKit.slotOf Z "java/lang/String" "value" "[B" → Fld Z h p0 O n d w) ∧ Exa Z h p0 "java/lang/String" ∧ Fld Z h p0 "java/lang/String" "coder" "B" (.int 0) ∧ Fld Z h p0 "java/lang/String" "value" "[B" (.ref a5) ∧ Arv Z h a5 k6 .byte 17 [.int 116, .int 104, .int 101, .int 32, .int 104, .int 105, .int 110, .int 116, .int 32, .int 111, .int 102, .int 32, .int 107, .int 101, .int 121, .int 32, .int x0] (.int 0) ∧ Exa Z h a5 "[B")) := by
  refine Met.of (EWl V) (by first | decide +kernel | rfl) hO (L0 := #[.val (.ref p0), .val (.ref p1)]) rfl ?_
  intro p e s m below meth c T H
  show Go p e below _ (T.setTop (mkF m 0 _ []))
  refine G.aloadN H D10_0 (J := 1) rfl rfl rfl ?_
  refine G.aloadN H D10_1 (J := 2) rfl rfl rfl ?_
  refine G.aconstNull H D10_2 (J := 3) rfl ?_
  refine G.callI H (m90_init V p0 p1 p2 c0 x0 h0 H.old f0 f1 f2 f3 f4 f5 g6 f7 f8) rfl (wd182 V) (wd183 V) (wd2 V) (wd184 V) (by decide) (a := p0) (argsL := [.ref p1, .null]) (rest := []) (W := 0) rfl rfl (lenOf (pd_20) rfl) rfl rfl D10_3 (J := 6) rfl (by decide) (by decide) (by decide) (by decide) (allS (mG (i := 0) rfl) all0) ?_
  intro T1 h1_ v2 s3 H1 Q4
  obtain ⟨a5, k6, rfl, rfl, K7, g8, U9, F10, F11, F12, F13, F14⟩ := Q4
  have na5 : n0 ≤ a5 := Nat.le_trans H.le g8
  show Go p e below _ (T1.setTop (mkF m 6 _ []))
  have K15 : Keep h0 h1_ [p0] := (Keep.trans (Keep.refl h0 [p0]) K7 (allS (Or.inl (mG (i := 0) rfl)) all0))
  exact G.retV H1 rfl D10_6 (so := [a5]) (allS (mG (i := 0) rfl) all0) (by decide) (by decide) ⟨a5, k6, rfl, rfl, K15, g8, (fun O n d w F hn0 hn1 => (U9 O n d w F hn0 hn1)), F10, F11, F12, F13, F14⟩
theorem m92_toString (V : Env1 Z a0 n0 uu0 uu1 uu2 uu3 uu4) (p0 : Addr) (p1 : Addr) (c0 : ClassId) (x0 : Int32) (h0 : Heap) (hO : Old Z n0 h0) (f0 : Exa Z h0 p0 "java/lang/StringBuilder") (f1 : Fld Z h0 p0 "java/lang/AbstractStringBuilder" "value" "[B" (.ref p1)) (f2 : Fld Z h0 p0 "java/lang/AbstractStringBuilder" "count" "I" (.int 17)) (f3 : Fld Z h0 p0 "java/lang/AbstractStringBuilder" "coder" "B" (.int 0)) (f4 : Arv Z h0 p1 c0 .byte 34 [.int 116, .int 104, .int 101, .int 32, .int 104, .int 105, .int 110, .int 116, .int 32, .int 111, .int 102, .int 32, .int 107, .int 101, .int 121, .int 32, .int x0, .int 0, .int 0, .int 0, .int 0, .int 0, .int 0, .int 0, .int 0, .int 0, .int 0, .int 0, .int 0, .int 0, .int 0, .int 0, .int 0, .int 0] (.int 0)) :
    Met Z a0 ELs True n0 l ⟨"java/lang/StringBuilder", "toString", "()Ljava/lang/String;"⟩ jdk_67_method_42_code 1 (some (.object "java/lang/String")) ⟨5, 2, 21, 101⟩ #[.ref p0] h0 [] (fun v h so => (∃ a2 a17 : Addr, ∃ k18 : ClassId, v = some (.ref a2) ∧ so = [a2, a17] ∧ Keep h0 h [] ∧ h0.size ≤ a2 ∧ a2 < a17 ∧ Exa Z h a2 "java/lang/String" ∧ Fld Z h a2 "java/lang/String" "coder" "B" (.int 0) ∧ Fld Z h a2 "java/lang/String" "value" "[B" (.ref a17) ∧ Arv Z h a17 k18 .byte 17 [.int 116, .int 104, .int 101, .int 32, .int 104, .int 105, .int 110, .int 116, .int 32, .int 111, .int 102, .int 32, .int 107, .int 101, .int 121, .int 32, .int x0] (.int 0) ∧ Exa Z h a17 "[B")) := by
  refine Met.of (EWl V) (by first | decide +kernel | rfl) hO (L0 := #[.val (.ref p0)]) rfl ?_
  intro p e s m below meth c T H
  show Go p e below _ (T.setTop (mkF m 0 _ []))
  refine G.new H (wd178 V) (wd3 V) (wd2 V) D20_0 (J := 3) rfl (by decide) (by decide) ?_
  intro T1 h1_ a2 ga2 H1 E3 A4 D5
  have na2 := H.nle ga2
  refine G.dup H1 D20_3 (J := 4) rfl rfl ?_
  refine G.aloadN H1 D20_4 (J := 5) rfl rfl rfl ?_
  have F6 := (Exa.ext E3 f0)
  have F7 := (Fld.ext E3 f1)
  have F8 := (Fld.ext E3 f2)
  have F9 := (Fld.ext E3 f3)
  have F10 : Fld Z h1_ a2 "java/lang/String" "coder" "B" (.int 0) := D5 (Or.inr (wd6 V)) (ty := .byte) (by decide)
  have F11 := (Arv.ext f4 E3)
  have F12 : Fld Z h1_ a2 "java/lang/String" "value" "[B" .null := D5 (Or.inr (wd5 V)) (ty := (.array .byte)) (by decide)
  refine G.callI H1 (m91_init V a2 p0 p1 c0 x0 h1_ H1.old F6 F7 F8 F9 A4 F10 na2 F11 F12) rfl (wd179 V) (wd180 V) (wd2 V) (wd181 V) (by decide) (a := a2) (argsL := [.ref p0]) (rest := [.ref a2]) (W := 1) rfl rfl (lenOf (pd_21) rfl) rfl rfl D20_5 (J := 8) rfl (by decide) (by decide) (by decide) (by decide) (allS (mG (i := 0) rfl) all0) ?_
  intro T13 h13_ v14 s15 H13 Q16
  obtain ⟨a17, k18, rfl, rfl, K19, g20, U21, F22, F23, F24, F25, F26⟩ := Q16
  have na17 : n0 ≤ a17 := Nat.le_trans H1.le g20
  show Go p e below _ (T13.setTop (mkF m 8 _ [.ref a2]))
  have K27 : Keep h0 h13_ [] := (Keep.trans (Keep.ext (Keep.refl h0 []) E3) K19 (allS (Or.inr (Nat.le_of_eq ga2.symm)) all0))
  exact G.retA H13 (t := (.object "java/lang/String")) rfl rfl rfl D20_8 (so := [a2, a17]) (allS (mG (i := 1) rfl) (allS (mG (i := 0) rfl) all0)) (by decide) (by decide) ⟨a2, a17, k18, rfl, rfl, K27, (Nat.le_of_eq ga2.symm), (Nat.lt_of_lt_of_le A4.lt g20), F22, F23, F24, F25, F26⟩
theorem m93_description (V : Env1 Z a0 n0 uu0 uu1 uu2 uu3 uu4) (p0 : Addr) (p1 : Addr) (p2 : Addr) (c0 : ClassId) (x0 : Int32) (h0 : Heap) (hO : Old Z n0 h0) (f0 : Fld Z h0 p0 "com/example/formboard/formboard/core/Board$Live" "part" "Lcom/example/formboard/formboard/core/Board$Part;" (.ref uu0)) (f1 : Fld Z h0 p0 "com/example/formboard/formboard/core/Board$Live" "key" "Ljava/lang/String;" (.ref p1)) (f2 : Exa Z h0 p1 "java/lang/String") (f3 : Fld Z h0 p1 "java/lang/String" "value" "[B" (.ref p2)) (f4 : Arv Z h0 p2 c0 .byte 1 [.int x0] (.int 0)) (f5 : Fld Z h0 p1 "java/lang/String" "coder" "B" (.int 0)) :
    Met Z a0 ELs True n0 l ⟨"com/example/formboard/formboard/core/Board$Live", "description", "()Ljava/lang/String;"⟩ prog_16_method_2_code 1 (some (.object "java/lang/String")) ⟨6, 7, 143, 113⟩ #[.ref p0] h0 [] (fun v h so => (∃ a85 a86 : Addr, ∃ k87 : ClassId, v = some (.ref a85) ∧ so = [a85, a86] ∧ Keep h0 h [] ∧ h0.size ≤ a85 ∧ a85 < a86 ∧ Exa Z h a85 "java/lang/String" ∧ Fld Z h a85 "java/lang/String" "coder" "B" (.int 0) ∧ Fld Z h a85 "java/lang/String" "value" "[B" (.ref a86) ∧ Arv Z h a86 k87 .byte 17 [.int 116, .int 104, .int 101, .int 32, .int 104, .int 105, .int 110, .int 116, .int 32, .int 111, .int 102, .int 32, .int 107, .int 101, .int 121, .int 32, .int x0] (.int 0) ∧ Exa Z h a86 "[B")) := by
  refine Met.of (EWl V) (by first | decide +kernel | rfl) hO (L0 := #[.val (.ref p0)]) rfl ?_
  intro p e s m below meth c T H
  show Go p e below _ (T.setTop (mkF m 0 _ []))
  refine G.aloadN H D34_0 (J := 1) rfl rfl rfl ?_
  refine G.getF H (wd51 V) Via.refl f0 D34_1 (J := 4) rfl ?_
  intro T1 H2
  have B3 := Exa.ext H2.old.2 (hv1 V)
  refine G.callVU H2 (y := ⟨"com/example/formboard/formboard/core/Board$Part", "ordinal", "()I"⟩) (m15_ordinal V h0 H2.old) (wd62 V) (wd63 V) (wd64 V) (by decide) (wd66 V) (wd65 V) (wd67 V) (wd68 V) B3 (argsL := []) (rest := []) (W := 0) rfl rfl (lenOf (pd_7) rfl) rfl rfl D34_4 (J := 7) rfl (by decide) (by decide) (by decide) (by decide) all0 ?_
  intro T4 h4_ v5 s6 H4 Q7
  obtain ⟨rfl, rfl, rfl⟩ := Q7
  show Go p e below _ (T4.setTop (mkF m 7 _ [.int 1]))
  refine G.tswIn H4 D34_7 (by decide) (o := 40) rfl (by decide) (J := 47) rfl ?_
  refine G.new H4 (wd84 V) (wd85 V) (wd86 V) D34_47 (J := 50) rfl (by decide) (by decide) ?_
  intro T8 h8_ a9 ga9 H8 E10 A11 D12
  have na9 := H4.nle ga9
  refine G.dup H8 D34_50 (J := 51) rfl rfl ?_
  have F13 : Fld Z h8_ a9 "java/lang/AbstractStringBuilder" "value" "[B" .null := D12 (Or.inl (wd99 V)) (ty := (.array .byte)) (by decide)
  have F14 : Fld Z h8_ a9 "java/lang/AbstractStringBuilder" "coder" "B" (.int 0) := D12 (Or.inl (wd101 V)) (ty := .byte) (by decide)
  refine G.callI H8 (m17_init V a9 h8_ H8.old A11 F13 na9 F14) rfl (wd87 V) (wd88 V) (wd86 V) (wd89 V) (by decide) (a := a9) (argsL := []) (rest := [.ref a9]) (W := 1) rfl rfl (lenOf (pd_4) rfl) rfl rfl D34_51 (J := 54) rfl (by decide) (by decide) (by decide) (by decide) all0 ?_
  intro T15 h15_ v16 s17 H15 Q18
  obtain ⟨a19, k20, rfl, rfl, K21, g22, U23, F24, F25, F26, F27, F28⟩ := Q18
  have na19 : n0 ≤ a19 := Nat.le_trans H8.le g22
  show Go p e below _ (T15.setTop (mkF m 54 _ [.ref a9]))
  refine G.ldcS H15 trivial (wS V) (wd102 V) (by decide) (vs := [.int 116, .int 104, .int 101, .int 32, .int 104, .int 105, .int 110, .int 116, .int 32, .int 111, .int 102, .int 32, .int 107, .int 101, .int 121, .int 32]) (z := 16) (by decide) (by decide) rfl (n := 64) (by decide) (by decide) (by decide) (by decide) D34_54 (J := 56) rfl ?_
  intro T29 h29_ a30 b32 k33 H29 E31 X34 F35 F36 A37 Q38
  have S39 : Str Z h29_ a30 b32 k33 [116, 104, 101, 32, 104, 105, 110, 116, 32, 111, 102, 32, 107, 101, 121, 32] := ⟨X34, F35, F36, A37, by decide, by decide⟩
  have F40 := (Exa.ext E31 F24)
  have F41 : Fld Z h8_ a9 "java/lang/AbstractStringBuilder" "count" "I" (.int 0) := D12 (Or.inl (wd124 V)) (ty := .int) (by decide)
  have F42 := (Fld.ext E31 (U23 "java/lang/AbstractStringBuilder" "count" "I" (.int 0) F41 (slot_ne (Or.inl (wd124 V)) (Or.inl (wd99 V)) (by decide) (t := .int) (t' := (.array .byte)) (by decide) (by decide)) (slot_ne (Or.inl (wd124 V)) (Or.inl (wd101 V)) (by decide) (t := .int) (t' := .byte) (by decide) (by decide))))
  have F43 := (Fld.ext E31 F25)
  have F44 := (Arv.ext F27 E31)
  have F45 := (Fld.ext E31 F26)
  refine G.callV H29 (m25_append V a9 a30 b32 k33 a19 k20 h29_ H29.old X34 F36 A37 F35 F42 F40 F43 F44 F45 na19 na9) (wd103 V) (wd104 V) (nf_sel (wd106 V)) (wd106 V) (wd105 V) (wd86 V) (wd107 V) (by decide) F40 (argsL := [.ref a30]) (rest := []) (W := 0) rfl rfl (lenOf (pd_16) rfl) rfl rfl D34_56 (J := 59) rfl (by decide) (by decide) (by decide) (by decide) (allS (mG (i := 0) rfl) all0) ?_
  intro T46 h46_ v47 s48 H46 Q49
  obtain ⟨rfl, rfl, K50, U51, F52, F53, F54, F55, F56⟩ := Q49
  show Go p e below _ (T46.setTop (mkF m 59 _ [.ref a9]))
  refine G.aloadN H46 D34_59 (J := 60) rfl rfl rfl ?_
  have K57 : Keep h0 h8_ [] := (Keep.ext (Keep.refl h0 []) E10)
  have K58 : Keep h0 h46_ [] := (Keep.trans (Keep.ext (Keep.trans (Keep.ext (Keep.refl h0 []) E10) K21 (allS (Or.inr (Nat.le_of_eq ga9.symm)) all0)) E31) K50 (allS (Or.inr (Nat.le_trans K57.1 g22)) (allS (Or.inr (Nat.le_of_eq ga9.symm)) all0)))
  have F59 := (Fld.keep f1 K58 nin0)
  refine G.getF H46 (wd53 V) Via.refl F59 D34_60 (J := 63) rfl ?_
  intro T60 H61
  have F62 := (Exa.keep f2 K58)
  have F63 := (Fld.keep f3 K58 nin0)
  have F64 := (Arv.keep f4 K58 nin0)
  have F65 := (Fld.keep f5 K58 nin0)
  refine G.callV H61 (m83_append V a9 p1 p2 c0 x0 a19 k20 h46_ H61.old F62 F63 F64 F65 F53 F54 F55 F52 F56 na9) (wd103 V) (wd104 V) (nf_sel (wd106 V)) (wd106 V) (wd105 V) (wd86 V) (wd107 V) (by decide) F54 (argsL := [.ref p1]) (rest := []) (W := 0) rfl rfl (lenOf (pd_16) rfl) rfl rfl D34_63 (J := 66) rfl (by decide) (by decide) (by decide) (by decide) all0 ?_
  intro T66 h66_ v67 s68 H66 Q69
  obtain ⟨a70, k71, rfl, rfl, K72, g73, U74, F75, F76, F77, F78, F79, F80⟩ := Q69
  have na70 : n0 ≤ a70 := Nat.le_trans H46.le g73
  show Go p e below _ (T66.setTop (mkF m 66 _ [.ref a9]))
  refine G.callV H66 (m92_toString V a9 a70 k71 x0 h66_ H66.old F76 F77 F75 F78 F79) (wd173 V) (wd174 V) (nf_sel (wd176 V)) (wd176 V) (wd175 V) (wd86 V) (wd177 V) (by decide) F76 (argsL := []) (rest := []) (W := 0) rfl rfl (lenOf (pd_8) rfl) rfl rfl D34_66 (J := 69) rfl (by decide) (by decide) (by decide) (by decide) all0 ?_
  intro T81 h81_ v82 s83 H81 Q84
  obtain ⟨a85, a86, k87, rfl, rfl, K88, g89, g90, F91, F92, F93, F94, F95⟩ := Q84
  have na85 : n0 ≤ a85 := Nat.le_trans H66.le g89
  have na86 : n0 ≤ a86 := Nat.le_trans H66.le (Nat.le_of_lt (Nat.lt_of_le_of_lt g89 g90))
  show Go p e below _ (T81.setTop (mkF m 69 _ [.ref a85]))
  refine G.goto H81 D34_69 (by decide) (J := 94) rfl ?_
  have K96 : Keep h0 h81_ [] := (Keep.trans (Keep.trans (Keep.trans (Keep.ext (Keep.trans (Keep.ext (Keep.refl h0 []) E10) K21 (allS (Or.inr (Nat.le_of_eq ga9.symm)) all0)) E31) K50 (allS (Or.inr (Nat.le_trans K57.1 g22)) (allS (Or.inr (Nat.le_of_eq ga9.symm)) all0))) K72 (allS (Or.inr (Nat.le_of_eq ga9.symm)) all0)) K88 all0)
  have K97 : Keep h0 h66_ [] := (Keep.trans (Keep.trans (Keep.ext (Keep.trans (Keep.ext (Keep.refl h0 []) E10) K21 (allS (Or.inr (Nat.le_of_eq ga9.symm)) all0)) E31) K50 (allS (Or.inr (Nat.le_trans K57.1 g22)) (allS (Or.inr (Nat.le_of_eq ga9.symm)) all0))) K72 (allS (Or.inr (Nat.le_of_eq ga9.symm)) all0))
  exact G.retA H81 (t := (.object "java/lang/String")) rfl rfl rfl D34_94 (so := [a85, a86]) (allS (mG (i := 0) rfl) (allS (mG (i := 1) rfl) all0)) (by decide) (by decide) ⟨a85, a86, k87, rfl, rfl, K96, (Nat.le_trans K97.1 g89), g90, F91, F92, F93, F94, F95⟩
theorem m94_expected (V : Env1 Z a0 n0 uu0 uu1 uu2 uu3 uu4) (x0 : Int32) (x1 : Int32) (h0 : Heap) (hO : Old Z n0 h0) (r0 : ¬ x0 < 0 ∧ ¬ 65535 < x0) (r1 : ¬ x0 < 0 ∧ ¬ 255 < x0) :
    Met Z a0 ELs True n0 l ⟨"com/example/formboard/formboard/core/LiveDescriptionPinLaw", "expected", "(IICC)Ljava/lang/String;"⟩ method_3_code 4 (some (.object "java/lang/String")) ⟨4, 3, 38, 66⟩ #[.int 1, .int 1, .int x0, .int x1] h0 [] (fun v h so => (∃ a2 t70 : Addr, ∃ k71 : ClassId, v = some (.ref a2) ∧ so = [a2, t70] ∧ Keep h0 h [] ∧ h0.size ≤ a2 ∧ a2 < t70 ∧ Str Z h a2 t70 k71 [116, 104, 101, 32, 104, 105, 110, 116, 32, 111, 102, 32, 107, 101, 121, 32, x0])) := by
  refine Met.of (EWl V) (by first | decide +kernel | rfl) hO (L0 := #[.val (.int 1), .val (.int 1), .val (.int x0), .val (.int x1)]) rfl ?_
  intro p e s m below meth c T H
  show Go p e below _ (T.setTop (mkF m 0 _ []))
  refine G.iloadN H D32_0 (J := 1) rfl rfl ?_
  refine G.ifYes H D32_1 (by decide) (by decide) (J := 7) rfl ?_
  refine G.iloadN H D32_7 (J := 8) rfl rfl ?_
  refine G.iconst H D32_8 (J := 9) rfl (v := 1) rfl ?_
  refine G.icmpNo H D32_9 (J := 12) rfl (by decide) ?_
  refine G.iloadN H D32_12 (J := 13) rfl rfl ?_
  refine G.ifYes H D32_13 (by decide) (by decide) (J := 19) rfl ?_
  refine G.iloadN H D32_19 (J := 20) rfl rfl ?_
  refine G.iconst H D32_20 (J := 21) rfl (v := 1) rfl ?_
  refine G.icmpNo H D32_21 (J := 24) rfl (by decide) ?_
  refine G.new H (wd212 V) (wd3 V) (wd2 V) D32_24 (J := 27) rfl (by decide) (by decide) ?_
  intro T1 h1_ a2 ga2 H1 E3 A4 D5
  have na2 := H.nle ga2
  refine G.dup H1 D32_27 (J := 28) rfl rfl ?_
  refine G.bipush H1 D32_28 (J := 30) rfl (v := 17) rfl ?_
  refine G.newP H1 (aty := .char) (wd213 V) D32_30 (J := 32) rfl (by decide) (cap := 17) (by decide) (by decide) (by decide) (by decide) (vs := [.int 0, .int 0, .int 0, .int 0, .int 0, .int 0, .int 0, .int 0, .int 0, .int 0, .int 0, .int 0, .int 0, .int 0, .int 0, .int 0, .int 0]) rfl (ad := "[C") rfl ?_
  intro T6 h6_ a7 k10 ga7 H6 E8 A9 X11
  have na7 := H1.nle ga7
  replace A9 : Arv Z h6_ a7 k10 .char 17 [.int 0, .int 0, .int 0, .int 0, .int 0, .int 0, .int 0, .int 0, .int 0, .int 0, .int 0, .int 0, .int 0, .int 0, .int 0, .int 0, .int 0] (.int 0) := A9
  refine G.dup H6 D32_32 (J := 33) rfl rfl ?_
  refine G.iconst H6 D32_33 (J := 34) rfl (v := 0) rfl ?_
  refine G.bipush H6 D32_34 (J := 36) rfl (v := 116) rfl ?_
  refine G.stC H6 A9 (by decide) (i := 0) rfl lB na7 (y := 116) rfl D32_36 (J := 37) rfl ?_
  intro T12 h12_ H12 W13 A14
  replace A14 : Arv Z h12_ a7 k10 .char 17 [.int 116, .int 0, .int 0, .int 0, .int 0, .int 0, .int 0, .int 0, .int 0, .int 0, .int 0, .int 0, .int 0, .int 0, .int 0, .int 0, .int 0] (.int 0) := A14
  refine G.dup H12 D32_37 (J := 38) rfl rfl ?_
  refine G.iconst H12 D32_38 (J := 39) rfl (v := 1) rfl ?_
  refine G.bipush H12 D32_39 (J := 41) rfl (v := 104) rfl ?_
  refine G.stC H12 A14 (by decide) (i := 1) rfl lB na7 (y := 104) rfl D32_41 (J := 42) rfl ?_
  intro T15 h15_ H15 W16 A17
  replace A17 : Arv Z h15_ a7 k10 .char 17 [.int 116, .int 104, .int 0, .int 0, .int 0, .int 0, .int 0, .int 0, .int 0, .int 0, .int 0, .int 0, .int 0, .int 0, .int 0, .int 0, .int 0] (.int 0) := A17
  refine G.dup H15 D32_42 (J := 43) rfl rfl ?_
  refine G.iconst H15 D32_43 (J := 44) rfl (v := 2) rfl ?_
  refine G.bipush H15 D32_44 (J := 46) rfl (v := 101) rfl ?_
  refine G.stC H15 A17 (by decide) (i := 2) rfl lB na7 (y := 101) rfl D32_46 (J := 47) rfl ?_
  intro T18 h18_ H18 W19 A20
  replace A20 : Arv Z h18_ a7 k10 .char 17 [.int 116, .int 104, .int 101, .int 0, .int 0, .int 0, .int 0, .int 0, .int 0, .int 0, .int 0, .int 0, .int 0, .int 0, .int 0, .int 0, .int 0] (.int 0) := A20
  refine G.dup H18 D32_47 (J := 48) rfl rfl ?_
  refine G.iconst H18 D32_48 (J := 49) rfl (v := 3) rfl ?_
  refine G.bipush H18 D32_49 (J := 51) rfl (v := 32) rfl ?_
  refine G.stC H18 A20 (by decide) (i := 3) rfl lB na7 (y := 32) rfl D32_51 (J := 52) rfl ?_
  intro T21 h21_ H21 W22 A23
  replace A23 : Arv Z h21_ a7 k10 .char 17 [.int 116, .int 104, .int 101, .int 32, .int 0, .int 0, .int 0, .int 0, .int 0, .int 0, .int 0, .int 0, .int 0, .int 0, .int 0, .int 0, .int 0] (.int 0) := A23
  refine G.dup H21 D32_52 (J := 53) rfl rfl ?_
  refine G.iconst H21 D32_53 (J := 54) rfl (v := 4) rfl ?_
  refine G.bipush H21 D32_54 (J := 56) rfl (v := 104) rfl ?_
  refine G.stC H21 A23 (by decide) (i := 4) rfl lB na7 (y := 104) rfl D32_56 (J := 57) rfl ?_
  intro T24 h24_ H24 W25 A26
  replace A26 : Arv Z h24_ a7 k10 .char 17 [.int 116, .int 104, .int 101, .int 32, .int 104, .int 0, .int 0, .int 0, .int 0, .int 0, .int 0, .int 0, .int 0, .int 0, .int 0, .int 0, .int 0] (.int 0) := A26
  refine G.dup H24 D32_57 (J := 58) rfl rfl ?_
  refine G.iconst H24 D32_58 (J := 59) rfl (v := 5) rfl ?_
  refine G.bipush H24 D32_59 (J := 61) rfl (v := 105) rfl ?_
  refine G.stC H24 A26 (by decide) (i := 5) rfl lB na7 (y := 105) rfl D32_61 (J := 62) rfl ?_
  intro T27 h27_ H27 W28 A29
  replace A29 : Arv Z h27_ a7 k10 .char 17 [.int 116, .int 104, .int 101, .int 32, .int 104, .int 105, .int 0, .int 0, .int 0, .int 0, .int 0, .int 0, .int 0, .int 0, .int 0, .int 0, .int 0] (.int 0) := A29
  refine G.dup H27 D32_62 (J := 63) rfl rfl ?_
  refine G.bipush H27 D32_63 (J := 65) rfl (v := 6) rfl ?_
  refine G.bipush H27 D32_65 (J := 67) rfl (v := 110) rfl ?_
  refine G.stC H27 A29 (by decide) (i := 6) rfl lB na7 (y := 110) rfl D32_67 (J := 68) rfl ?_
  intro T30 h30_ H30 W31 A32
  replace A32 : Arv Z h30_ a7 k10 .char 17 [.int 116, .int 104, .int 101, .int 32, .int 104, .int 105, .int 110, .int 0, .int 0, .int 0, .int 0, .int 0, .int 0, .int 0, .int 0, .int 0, .int 0] (.int 0) := A32
  refine G.dup H30 D32_68 (J := 69) rfl rfl ?_
  refine G.bipush H30 D32_69 (J := 71) rfl (v := 7) rfl ?_
  refine G.bipush H30 D32_71 (J := 73) rfl (v := 116) rfl ?_
  refine G.stC H30 A32 (by decide) (i := 7) rfl lB na7 (y := 116) rfl D32_73 (J := 74) rfl ?_
  intro T33 h33_ H33 W34 A35
  replace A35 : Arv Z h33_ a7 k10 .char 17 [.int 116, .int 104, .int 101, .int 32, .int 104, .int 105, .int 110, .int 116, .int 0, .int 0, .int 0, .int 0, .int 0, .int 0, .int 0, .int 0, .int 0] (.int 0) := A35
  refine G.dup H33 D32_74 (J := 75) rfl rfl ?_
  refine G.bipush H33 D32_75 (J := 77) rfl (v := 8) rfl ?_
  refine G.bipush H33 D32_77 (J := 79) rfl (v := 32) rfl ?_
  refine G.stC H33 A35 (by decide) (i := 8) rfl lB na7 (y := 32) rfl D32_79 (J := 80) rfl ?_
  intro T36 h36_ H36 W37 A38
  replace A38 : Arv Z h36_ a7 k10 .char 17 [.int 116, .int 104, .int 101, .int 32, .int 104, .int 105, .int 110, .int 116, .int 32, .int 0, .int 0, .int 0, .int 0, .int 0, .int 0, .int 0, .int 0] (.int 0) := A38
  refine G.dup H36 D32_80 (J := 81) rfl rfl ?_
  refine G.bipush H36 D32_81 (J := 83) rfl (v := 9) rfl ?_
  refine G.bipush H36 D32_83 (J := 85) rfl (v := 111) rfl ?_
  refine G.stC H36 A38 (by decide) (i := 9) rfl lB na7 (y := 111) rfl D32_85 (J := 86) rfl ?_
  intro T39 h39_ H39 W40 A41
  replace A41 : Arv Z h39_ a7 k10 .char 17 [.int 116, .int 104, .int 101, .int 32, .int 104, .int 105, .int 110, .int 116, .int 32, .int 111, .int 0, .int 0, .int 0, .int 0, .int 0, .int 0, .int 0] (.int 0) := A41
  refine G.dup H39 D32_86 (J := 87) rfl rfl ?_
  refine G.bipush H39 D32_87 (J := 89) rfl (v := 10) rfl ?_
  refine G.bipush H39 D32_89 (J := 91) rfl (v := 102) rfl ?_
  refine G.stC H39 A41 (by decide) (i := 10) rfl lB na7 (y := 102) rfl D32_91 (J := 92) rfl ?_
  intro T42 h42_ H42 W43 A44
  replace A44 : Arv Z h42_ a7 k10 .char 17 [.int 116, .int 104, .int 101, .int 32, .int 104, .int 105, .int 110, .int 116, .int 32, .int 111, .int 102, .int 0, .int 0, .int 0, .int 0, .int 0, .int 0] (.int 0) := A44
  refine G.dup H42 D32_92 (J := 93) rfl rfl ?_
  refine G.bipush H42 D32_93 (J := 95) rfl (v := 11) rfl ?_
  refine G.bipush H42 D32_95 (J := 97) rfl (v := 32) rfl ?_
  refine G.stC H42 A44 (by decide) (i := 11) rfl lB na7 (y := 32) rfl D32_97 (J := 98) rfl ?_
  intro T45 h45_ H45 W46 A47
  replace A47 : Arv Z h45_ a7 k10 .char 17 [.int 116, .int 104, .int 101, .int 32, .int 104, .int 105, .int 110, .int 116, .int 32, .int 111, .int 102, .int 32, .int 0, .int 0, .int 0, .int 0, .int 0] (.int 0) := A47
  refine G.dup H45 D32_98 (J := 99) rfl rfl ?_
  refine G.bipush H45 D32_99 (J := 101) rfl (v := 12) rfl ?_
  refine G.bipush H45 D32_101 (J := 103) rfl (v := 107) rfl ?_
  refine G.stC H45 A47 (by decide) (i := 12) rfl lB na7 (y := 107) rfl D32_103 (J := 104) rfl ?_
  intro T48 h48_ H48 W49 A50
  replace A50 : Arv Z h48_ a7 k10 .char 17 [.int 116, .int 104, .int 101, .int 32, .int 104, .int 105, .int 110, .int 116, .int 32, .int 111, .int 102, .int 32, .int 107, .int 0, .int 0, .int 0, .int 0] (.int 0) := A50
  refine G.dup H48 D32_104 (J := 105) rfl rfl ?_
  refine G.bipush H48 D32_105 (J := 107) rfl (v := 13) rfl ?_
  refine G.bipush H48 D32_107 (J := 109) rfl (v := 101) rfl ?_
  refine G.stC H48 A50 (by decide) (i := 13) rfl lB na7 (y := 101) rfl D32_109 (J := 110) rfl ?_
  intro T51 h51_ H51 W52 A53
  replace A53 : Arv Z h51_ a7 k10 .char 17 [.int 116, .int 104, .int 101, .int 32, .int 104, .int 105, .int 110, .int 116, .int 32, .int 111, .int 102, .int 32, .int 107, .int 101, .int 0, .int 0, .int 0] (.int 0) := A53
  refine G.dup H51 D32_110 (J := 111) rfl rfl ?_
  refine G.bipush H51 D32_111 (J := 113) rfl (v := 14) rfl ?_
  refine G.bipush H51 D32_113 (J := 115) rfl (v := 121) rfl ?_
  refine G.stC H51 A53 (by decide) (i := 14) rfl lB na7 (y := 121) rfl D32_115 (J := 116) rfl ?_
  intro T54 h54_ H54 W55 A56
  replace A56 : Arv Z h54_ a7 k10 .char 17 [.int 116, .int 104, .int 101, .int 32, .int 104, .int 105, .int 110, .int 116, .int 32, .int 111, .int 102, .int 32, .int 107, .int 101, .int 121, .int 0, .int 0] (.int 0) := A56
  refine G.dup H54 D32_116 (J := 117) rfl rfl ?_
  refine G.bipush H54 D32_117 (J := 119) rfl (v := 15) rfl ?_
  refine G.bipush H54 D32_119 (J := 121) rfl (v := 32) rfl ?_
  refine G.stC H54 A56 (by decide) (i := 15) rfl lB na7 (y := 32) rfl D32_121 (J := 122) rfl ?_
  intro T57 h57_ H57 W58 A59
  replace A59 : Arv Z h57_ a7 k10 .char 17 [.int 116, .int 104, .int 101, .int 32, .int 104, .int 105, .int 110, .int 116, .int 32, .int 111, .int 102, .int 32, .int 107, .int 101, .int 121, .int 32, .int 0] (.int 0) := A59
  refine G.dup H57 D32_122 (J := 123) rfl rfl ?_
  refine G.bipush H57 D32_123 (J := 125) rfl (v := 16) rfl ?_
  refine G.iloadN H57 D32_125 (J := 126) rfl rfl ?_
  refine G.stC H57 A59 (by decide) (i := 16) rfl lB na7 (y := x0) (own_narC r0) D32_126 (J := 127) rfl ?_
  intro T60 h60_ H60 W61 A62
  replace A62 : Arv Z h60_ a7 k10 .char 17 [.int 116, .int 104, .int 101, .int 32, .int 104, .int 105, .int 110, .int 116, .int 32, .int 111, .int 102, .int 32, .int 107, .int 101, .int 121, .int 32, .int x0] (.int 0) := A62
  have K63 : Keep h1_ h60_ [] := (Keep.wr (Keep.wr (Keep.wr (Keep.wr (Keep.wr (Keep.wr (Keep.wr (Keep.wr (Keep.wr (Keep.wr (Keep.wr (Keep.wr (Keep.wr (Keep.wr (Keep.wr (Keep.wr (Keep.wr (Keep.ext (Keep.refl h1_ []) E8) W13 (Or.inr (Nat.le_of_eq ga7.symm))) W16 (Or.inr (Nat.le_of_eq ga7.symm))) W19 (Or.inr (Nat.le_of_eq ga7.symm))) W22 (Or.inr (Nat.le_of_eq ga7.symm))) W25 (Or.inr (Nat.le_of_eq ga7.symm))) W28 (Or.inr (Nat.le_of_eq ga7.symm))) W31 (Or.inr (Nat.le_of_eq ga7.symm))) W34 (Or.inr (Nat.le_of_eq ga7.symm))) W37 (Or.inr (Nat.le_of_eq ga7.symm))) W40 (Or.inr (Nat.le_of_eq ga7.symm))) W43 (Or.inr (Nat.le_of_eq ga7.symm))) W46 (Or.inr (Nat.le_of_eq ga7.symm))) W49 (Or.inr (Nat.le_of_eq ga7.symm))) W52 (Or.inr (Nat.le_of_eq ga7.symm))) W55 (Or.inr (Nat.le_of_eq ga7.symm))) W58 (Or.inr (Nat.le_of_eq ga7.symm))) W61 (Or.inr (Nat.le_of_eq ga7.symm)))
  have F64 := (Exa.keep A4 K63)
  have F65 : Fld Z h1_ a2 "java/lang/String" "value" "[B" .null := D5 (Or.inr (wd5 V)) (ty := (.array .byte)) (by decide)
  have F66 := (Fld.keep F65 K63 nin0)
  have F67 : Fld Z h1_ a2 "java/lang/String" "coder" "B" (.int 0) := D5 (Or.inr (wd6 V)) (ty := .byte) (by decide)
  have F68 := (Fld.keep F67 K63 nin0)
  refine G.newStr H60 (strw V) (wd3 V) (wd214 V) (wd215 V) (cs := [116, 104, 101, 32, 104, 105, 110, 116, 32, 111, 102, 32, 107, 101, 121, 32, x0]) (n := 17) na2 F64 F66 F68 A62 (hv9 V) (hv10 V) rfl rfl (by decide) (by decide) (cbS (by decide) (cbS (by decide) (cbS (by decide) (cbS (by decide) (cbS (by decide) (cbS (by decide) (cbS (by decide) (cbS (by decide) (cbS (by decide) (cbS (by decide) (cbS (by decide) (cbS (by decide) (cbS (by decide) (cbS (by decide) (cbS (by decide) (cbS (by decide) (cbS r1 cb0))))))))))))))))) (Sf.mem (mG (i := 1) rfl)) (rest := [.ref a2]) (W := 1) rfl rfl D32_127 (J := 130) rfl (by decide) (by decide) (by decide) (by decide) ?_
  intro T69 h69_ t70 k71 g74 H69 K72 S73
  have nt70 : n0 ≤ t70 := Nat.le_trans H60.le g74
  have K75 : Keep h0 h1_ [] := (Keep.ext (Keep.refl h0 []) E3)
  have K76 : Keep h0 h69_ [] := (Keep.trans (Keep.wr (Keep.wr (Keep.wr (Keep.wr (Keep.wr (Keep.wr (Keep.wr (Keep.wr (Keep.wr (Keep.wr (Keep.wr (Keep.wr (Keep.wr (Keep.wr (Keep.wr (Keep.wr (Keep.wr (Keep.ext (Keep.ext (Keep.refl h0 []) E3) E8) W13 (Or.inr (Nat.le_trans K75.1 (Nat.le_of_eq ga7.symm)))) W16 (Or.inr (Nat.le_trans K75.1 (Nat.le_of_eq ga7.symm)))) W19 (Or.inr (Nat.le_trans K75.1 (Nat.le_of_eq ga7.symm)))) W22 (Or.inr (Nat.le_trans K75.1 (Nat.le_of_eq ga7.symm)))) W25 (Or.inr (Nat.le_trans K75.1 (Nat.le_of_eq ga7.symm)))) W28 (Or.inr (Nat.le_trans K75.1 (Nat.le_of_eq ga7.symm)))) W31 (Or.inr (Nat.le_trans K75.1 (Nat.le_of_eq ga7.symm)))) W34 (Or.inr (Nat.le_trans K75.1 (Nat.le_of_eq ga7.symm)))) W37 (Or.inr (Nat.le_trans K75.1 (Nat.le_of_eq ga7.symm)))) W40 (Or.inr (Nat.le_trans K75.1 (Nat.le_of_eq ga7.symm)))) W43 (Or.inr (Nat.le_trans K75.1 (Nat.le_of_eq ga7.symm)))) W46 (Or.inr (Nat.le_trans K75.1 (Nat.le_of_eq ga7.symm)))) W49 (Or.inr (Nat.le_trans K75.1 (Nat.le_of_eq ga7.symm)))) W52 (Or.inr (Nat.le_trans K75.1 (Nat.le_of_eq ga7.symm)))) W55 (Or.inr (Nat.le_trans K75.1 (Nat.le_of_eq ga7.symm)))) W58 (Or.inr (Nat.le_trans K75.1 (Nat.le_of_eq ga7.symm)))) W61 (Or.inr (Nat.le_trans K75.1 (Nat.le_of_eq ga7.symm)))) K72 (allS (Or.inr (Nat.le_of_eq ga2.symm)) all0))
  exact G.retA H69 (t := (.object "java/lang/String")) rfl rfl rfl D32_130 (so := [a2, t70]) (allS (mG (i := 2) rfl) (allS (mG (i := 0) rfl) all0)) (by decide) (by decide) ⟨a2, t70, k71, rfl, rfl, K76, (Nat.le_of_eq ga2.symm), (Nat.lt_of_lt_of_le (Nat.lt_of_lt_of_le A4.lt K63.1) g74), S73⟩
theorem m95_ensureCapacityInternal (V : Env1 Z a0 n0 uu0 uu1 uu2 uu3 uu4) (p0 : Addr) (p1 : Addr) (c0 : ClassId) (h0 : Heap) (hO : Old Z n0 h0) (f0 : Fld Z h0 p0 "java/lang/AbstractStringBuilder" "value" "[B" (.ref p1)) (f1 : Arv Z h0 p1 c0 .byte 34 [.int 116, .int 104, .int 101, .int 32, .int 116, .int 111, .int 103, .int 103, .int 108, .int 101, .int 32, .int 111, .int 102, .int 32, .int 107, .int 101, .int 121, .int 32, .int 0, .int 0, .int 0, .int 0, .int 0, .int 0, .int 0, .int 0, .int 0, .int 0, .int 0, .int 0, .int 0, .int 0, .int 0, .int 0] (.int 0)) (f2 : Fld Z h0 p0 "java/lang/AbstractStringBuilder" "coder" "B" (.int 0)) :
    Met Z a0 ELs True n0 l ⟨"java/lang/AbstractStringBuilder", "ensureCapacityInternal", "(I)V"⟩ jdk_68_method_9_code 3 none ⟨0, 0, 0, 0⟩ #[.ref p0, .int 19] h0 [] (fun v h so => (v = none ∧ so = [] ∧ h0 = h)) := by
  refine Met.of (EWl V) (by first | decide +kernel | rfl) hO (L0 := #[.val (.ref p0), .val (.int 19), .unset]) rfl ?_
  intro p e s m below meth c T H
  show Go p e below _ (T.setTop (mkF m 0 _ []))
  refine G.aloadN H D31_0 (J := 1) rfl rfl rfl ?_
  refine G.getF H (wd98 V) Via.refl f0 D31_1 (J := 4) rfl ?_
  intro T1 H2
  refine G.arrlen H2 f1 D31_4 (J := 5) rfl ?_
  refine G.aloadN H2 D31_5 (J := 6) rfl rfl rfl ?_
  refine G.getF H2 (wd100 V) Via.refl f2 D31_6 (J := 9) rfl ?_
  intro T3 H4
  refine G.ishr H4 D31_9 (J := 10) rfl ?_
  show Go p e below _ (T3.setTop (mkF m 10 _ [.int 34]))
  refine G.istoreN H4 (L' := #[.val (.ref p0), .val (.int 19), .val (.int 34)]) D31_10 (J := 11) rfl rfl ?_
  refine G.iloadN H4 D31_11 (J := 12) rfl rfl ?_
  refine G.iloadN H4 D31_12 (J := 13) rfl rfl ?_
  refine G.isub H4 D31_13 (J := 14) rfl ?_
  show Go p e below _ (T3.setTop (mkF m 14 _ [(.int (-15 : Int32))]))
  refine G.ifYes H4 D31_14 (by decide) (by decide) (J := 38) rfl ?_
  exact G.retV H4 rfl D31_38 (so := []) all0 (by decide) (by decide) ⟨rfl, rfl, rfl⟩
theorem m96_getBytes (V : Env1 Z a0 n0 uu0 uu1 uu2 uu3 uu4) (p0 : Addr) (p1 : Addr) (p2 : Addr) (c0 : ClassId) (x0 : Int32) (c1 : ClassId) (h0 : Heap) (hO : Old Z n0 h0) (f0 : Exa Z h0 p0 "java/lang/String") (f1 : Fld Z h0 p0 "java/lang/String" "coder" "B" (.int 0)) (f2 : Fld Z h0 p0 "java/lang/String" "value" "[B" (.ref p2)) (f3 : Arv Z h0 p2 c0 .byte 1 [.int x0] (.int 0)) (f4 : Arv Z h0 p1 c1 .byte 34 [.int 116, .int 104, .int 101, .int 32, .int 116, .int 111, .int 103, .int 103, .int 108, .int 101, .int 32, .int 111, .int 102, .int 32, .int 107, .int 101, .int 121, .int 32, .int 0, .int 0, .int 0, .int 0, .int 0, .int 0, .int 0, .int 0, .int 0, .int 0, .int 0, .int 0, .int 0, .int 0, .int 0, .int 0] (.int 0)) (g5 : n0 ≤ p1) :
    Met Z a0 ELs True n0 l ⟨"java/lang/String", "getBytes", "([BIB)V"⟩ jdk_42_method_147_code 4 none ⟨1, 0, 0, 40⟩ #[.ref p0, .ref p1, .int 18, .int 0] h0 [p1] (fun v h so => (v = none ∧ so = [] ∧ Keep h0 h [p1] ∧ Arv Z h p1 c1 .byte 34 [.int 116, .int 104, .int 101, .int 32, .int 116, .int 111, .int 103, .int 103, .int 108, .int 101, .int 32, .int 111, .int 102, .int 32, .int 107, .int 101, .int 121, .int 32, .int x0, .int 0, .int 0, .int 0, .int 0, .int 0, .int 0, .int 0, .int 0, .int 0, .int 0, .int 0, .int 0, .int 0, .int 0, .int 0] (.int 0))) := by
  refine Met.of (EWl V) (by first | decide +kernel | rfl) hO (L0 := #[.val (.ref p0), .val (.ref p1), .val (.int 18), .val (.int 0)]) rfl ?_
  intro p e s m below meth c T H
  show Go p e below _ (T.setTop (mkF m 0 _ []))
  refine G.aloadN H D6_0 (J := 1) rfl rfl rfl ?_
  refine G.callV H (m18_coder V p0 h0 H.old f1) (wd118 V) (wd119 V) (nf_sel (wd121 V)) (wd121 V) (wd120 V) (wd2 V) (wd122 V) (by decide) f0 (argsL := []) (rest := []) (W := 0) rfl rfl (lenOf (pd_11) rfl) rfl rfl D6_1 (J := 4) rfl (by decide) (by decide) (by decide) (by decide) all0 ?_
  intro T1 h1_ v2 s3 H1 Q4
  obtain ⟨rfl, rfl, rfl⟩ := Q4
  show Go p e below _ (T1.setTop (mkF m 4 _ [.int 0]))
  refine G.iloadN H1 D6_4 (J := 5) rfl rfl ?_
  refine G.icmpNo H1 D6_5 (J := 8) rfl (by decide) ?_
  refine G.aloadN H1 D6_8 (J := 9) rfl rfl rfl ?_
  refine G.getF H1 (wd28 V) Via.refl f2 D6_9 (J := 12) rfl ?_
  intro T5 H6
  refine G.iconst H6 D6_12 (J := 13) rfl (v := 0) rfl ?_
  refine G.aloadN H6 D6_13 (J := 14) rfl rfl rfl ?_
  refine G.iloadN H6 D6_14 (J := 15) rfl rfl ?_
  refine G.iloadN H6 D6_15 (J := 16) rfl rfl ?_
  refine G.ishl H6 D6_16 (J := 17) rfl ?_
  show Go p e below _ (T5.setTop (mkF m 17 _ [.int 18, .ref p1, .int 0, .ref p2]))
  refine G.aloadN H6 D6_17 (J := 18) rfl rfl rfl ?_
  refine G.getF H6 (wd28 V) Via.refl f2 D6_18 (J := 21) rfl ?_
  intro T7 H8
  refine G.arrlen H8 f3 D6_21 (J := 22) rfl ?_
  refine G.copy H8 (wd146 V) (wd149 V) (wd147 V) (wd148 V) f3 f4 (us := [.int x0]) (Or.inl ⟨rfl, rfl⟩) (by decide) (by decide) (by decide) (by decide) (by decide) rfl lB (vr := [.int 116, .int 104, .int 101, .int 32, .int 116, .int 111, .int 103, .int 103, .int 108, .int 101, .int 32, .int 111, .int 102, .int 32, .int 107, .int 101, .int 121, .int 32, .int x0, .int 0, .int 0, .int 0, .int 0, .int 0, .int 0, .int 0, .int 0, .int 0, .int 0, .int 0, .int 0, .int 0, .int 0, .int 0]) rfl g5 (Sf.mem (mG (i := 0) rfl)) (st := []) (W := 0) rfl rfl D6_22 (J := 25) rfl (by decide) (by decide) ?_
  intro T9 h9_ H9 K10 A11
  refine G.goto H9 D6_25 (by decide) (J := 43) rfl ?_
  have K12 : Keep h0 h9_ [p1] := (Keep.trans (Keep.refl h0 [p1]) K10 (allS (Or.inl (mG (i := 0) rfl)) all0))
  exact G.retV H9 rfl D6_43 (so := []) all0 (by decide) (by decide) ⟨rfl, rfl, K12, A11⟩
theorem m97_putStringAt (V : Env1 Z a0 n0 uu0 uu1 uu2 uu3 uu4) (p0 : Addr) (p1 : Addr) (p2 : Addr) (p3 : Addr) (c0 : ClassId) (x0 : Int32) (c1 : ClassId) (h0 : Heap) (hO : Old Z n0 h0) (f0 : Exa Z h0 p0 "java/lang/StringBuilder") (f1 : Fld Z h0 p0 "java/lang/AbstractStringBuilder" "coder" "B" (.int 0)) (f2 : Exa Z h0 p1 "java/lang/String") (f3 : Fld Z h0 p1 "java/lang/String" "coder" "B" (.int 0)) (f4 : Fld Z h0 p0 "java/lang/AbstractStringBuilder" "value" "[B" (.ref p2)) (f5 : Fld Z h0 p1 "java/lang/String" "value" "[B" (.ref p3)) (f6 : Arv Z h0 p3 c0 .byte 1 [.int x0] (.int 0)) (f7 : Arv Z h0 p2 c1 .byte 34 [.int 116, .int 104, .int 101, .int 32, .int 116, .int 111, .int 103, .int 103, .int 108, .int 101, .int 32, .int 111, .int 102, .int 32, .int 107, .int 101, .int 121, .int 32, .int 0, .int 0, .int 0, .int 0, .int 0, .int 0, .int 0, .int 0, .int 0, .int 0, .int 0, .int 0, .int 0, .int 0, .int 0, .int 0] (.int 0)) (g8 : n0 ≤ p2) :
    Met Z a0 ELs True n0 l ⟨"java/lang/AbstractStringBuilder", "putStringAt", "(ILjava/lang/String;)V"⟩ jdk_68_method_73_code 3 none ⟨2, 0, 0, 55⟩ #[.ref p0, .int 18, .ref p1] h0 [p2] (fun v h so => (v = none ∧ so = [] ∧ Keep h0 h [p2] ∧ Arv Z h p2 c1 .byte 34 [.int 116, .int 104, .int 101, .int 32, .int 116, .int 111, .int 103, .int 103, .int 108, .int 101, .int 32, .int 111, .int 102, .int 32, .int 107, .int 101, .int 121, .int 32, .int x0, .int 0, .int 0, .int 0, .int 0, .int 0, .int 0, .int 0, .int 0, .int 0, .int 0, .int 0, .int 0, .int 0, .int 0, .int 0] (.int 0))) := by
  refine Met.of (EWl V) (by first | decide +kernel | rfl) hO (L0 := #[.val (.ref p0), .val (.int 18), .val (.ref p1)]) rfl ?_
  intro p e s m below meth c T H
  show Go p e below _ (T.setTop (mkF m 0 _ []))
  refine G.aloadN H D30_0 (J := 1) rfl rfl rfl ?_
  refine G.aloadN H D30_1 (J := 2) rfl rfl rfl ?_
  refine G.callV H (m21_inflateIfNeededFor V p0 p1 h0 H.old f1 f2 f3) (wd135 V) (decl_of (wd136 V) (wd139 V)) (nf_sel (wd138 V)) (wd138 V) (wd136 V) (wd94 V) (wd139 V) (by decide) f0 (argsL := [.ref p1]) (rest := []) (W := 0) rfl rfl (lenOf (pd_12) rfl) rfl rfl D30_2 (J := 5) rfl (by decide) (by decide) (by decide) (by decide) all0 ?_
  intro T1 h1_ v2 s3 H1 Q4
  obtain ⟨rfl, rfl, rfl⟩ := Q4
  show Go p e below _ (T1.setTop (mkF m 5 _ []))
  refine G.aloadN H1 D30_5 (J := 6) rfl rfl rfl ?_
  refine G.aloadN H1 D30_6 (J := 7) rfl rfl rfl ?_
  refine G.getF H1 (wd98 V) Via.refl f4 D30_7 (J := 10) rfl ?_
  intro T5 H6
  refine G.iloadN H6 D30_10 (J := 11) rfl rfl ?_
  refine G.aloadN H6 D30_11 (J := 12) rfl rfl rfl ?_
  refine G.getF H6 (wd100 V) Via.refl f1 D30_12 (J := 15) rfl ?_
  intro T7 H8
  refine G.callV H8 (m96_getBytes V p1 p2 p3 c0 x0 c1 h0 H8.old f2 f3 f5 f6 f7 g8) (wd141 V) (wd142 V) (nf_sel (wd144 V)) (wd144 V) (wd143 V) (wd2 V) (wd145 V) (by decide) f2 (argsL := [.ref p2, .int 18, .int 0]) (rest := []) (W := 0) rfl rfl (lenOf (pd_13) rfl) rfl rfl D30_15 (J := 18) rfl (by decide) (by decide) (by decide) (by decide) (allS (mG (i := 0) rfl) all0) ?_
  intro T9 h9_ v10 s11 H9 Q12
  obtain ⟨rfl, rfl, K13, F14⟩ := Q12
  show Go p e below _ (T9.setTop (mkF m 18 _ []))
  have K15 : Keep h0 h9_ [p2] := (Keep.trans (Keep.refl h0 [p2]) K13 (allS (Or.inl (mG (i := 0) rfl)) all0))
  exact G.retV H9 rfl D30_18 (so := []) all0 (by decide) (by decide) ⟨rfl, rfl, K15, F14⟩
theorem m98_append (V : Env1 Z a0 n0 uu0 uu1 uu2 uu3 uu4) (p0 : Addr) (p1 : Addr) (p2 : Addr) (c0 : ClassId) (x0 : Int32) (p3 : Addr) (c1 : ClassId) (h0 : Heap) (hO : Old Z n0 h0) (f0 : Exa Z h0 p1 "java/lang/String") (f1 : Fld Z h0 p1 "java/lang/String" "value" "[B" (.ref p2)) (f2 : Arv Z h0 p2 c0 .byte 1 [.int x0] (.int 0)) (f3 : Fld Z h0 p1 "java/lang/String" "coder" "B" (.int 0)) (f4 : Fld Z h0 p0 "java/lang/AbstractStringBuilder" "count" "I" (.int 18)) (f5 : Exa Z h0 p0 "java/lang/StringBuilder") (f6 : Fld Z h0 p0 "java/lang/AbstractStringBuilder" "value" "[B" (.ref p3)) (f7 : Arv Z h0 p3 c1 .byte 34 [.int 116, .int 104, .int 101, .int 32, .int 116, .int 111, .int 103, .int 103, .int 108, .int 101, .int 32, .int 111, .int 102, .int 32, .int 107, .int 101, .int 121, .int 32, .int 0, .int 0, .int 0, .int 0, .int 0, .int 0, .int 0, .int 0, .int 0, .int 0, .int 0, .int 0, .int 0, .int 0, .int 0, .int 0] (.int 0)) (f8 : Fld Z h0 p0 "java/lang/AbstractStringBuilder" "coder" "B" (.int 0)) (g9 : n0 ≤ p3) (g10 : n0 ≤ p0) :
    Met Z a0 ELs True n0 l ⟨"java/lang/AbstractStringBuilder", "append", "(Ljava/lang/String;)Ljava/lang/AbstractStringBuilder;"⟩ jdk_68_method_22_code 3 (some (.object "java/lang/AbstractStringBuilder")) ⟨3, 0, 0, 69⟩ #[.ref p0, .ref p1] h0 [p3] (fun v h so => (v = some (.ref p0) ∧ so = [] ∧ Keep h0 h [p3, p0] ∧ (∀ (O n d : String) (w : Value), Fld Z h0 p0 O n d w → RoadKit.slotOf Z O n d ≠ RoadKit.slotOf Z "java/lang/AbstractStringBuilder" "count" "I" → Fld Z h p0 O n d w) ∧ Arv Z h p3 c1 .byte 34 [.int 116, .int 104, .int 101, .int 32, .int 116, .int 111, .int 103, .int 103, .int 108, .int 101, .int 32, .int 111, .int 102, .int 32, .int 107, .int 101, .int 121, .int 32, .int x0, .int 0, .int 0, .int 0, .int 0, .int 0, .int 0, .int 0, .int 0, .int 0, .int 0, .int 0, .int 0, .int 0, .int 0, .int 0] (.int 0) ∧ Fld Z h p0 "java/lang/AbstractStringBuilder" "count" "I" (.int 19) ∧ Exa Z h p0 "java/lang/StringBuilder" ∧ Fld Z h p0 "java/lang/AbstractStringBuilder" "value" "[B" (.ref p3) ∧ Fld Z h p0 "java/lang/AbstractStringBuilder" "coder" "B" (.int 0))) := by
  refine Met.of (EWl V) (by first | decide +kernel | rfl) hO (L0 := #[.val (.ref p0), .val (.ref p1), .unset]) rfl ?_
  intro p e s m below meth c T H
  show Go p e below _ (T.setTop (mkF m 0 _ []))
  refine G.aloadN H D24_0 (J := 1) rfl rfl rfl ?_
  refine G.ifnonnullYes H D24_1 (by decide) (J := 9) rfl ?_
  refine G.aloadN H D24_9 (J := 10) rfl rfl rfl ?_
  refine G.callV H (m74_length V p1 p2 c0 x0 h0 H.old f1 f2 f0 f3) (wd113 V) (wd114 V) (nf_sel (wd116 V)) (wd116 V) (wd115 V) (wd2 V) (wd117 V) (by decide) f0 (argsL := []) (rest := []) (W := 0) rfl rfl (lenOf (pd_7) rfl) rfl rfl D24_10 (J := 13) rfl (by decide) (by decide) (by decide) (by decide) all0 ?_
  intro T1 h1_ v2 s3 H1 Q4
  obtain ⟨rfl, rfl, rfl⟩ := Q4
  show Go p e below _ (T1.setTop (mkF m 13 _ [.int 1]))
  refine G.istoreN H1 (L' := #[.val (.ref p0), .val (.ref p1), .val (.int 1)]) D24_13 (J := 14) rfl rfl ?_
  refine G.aloadN H1 D24_14 (J := 15) rfl rfl rfl ?_
  refine G.aloadN H1 D24_15 (J := 16) rfl rfl rfl ?_
  refine G.getF H1 (wd123 V) Via.refl f4 D24_16 (J := 19) rfl ?_
  intro T5 H6
  refine G.iloadN H6 D24_19 (J := 20) rfl rfl ?_
  refine G.iadd H6 D24_20 (J := 21) rfl ?_
  show Go p e below _ (T5.setTop (mkF m 21 _ [.int 19, .ref p0]))
  refine G.callV H6 (m95_ensureCapacityInternal V p0 p3 c1 h0 H6.old f6 f7 f8) (wd125 V) (decl_of (wd126 V) (wd129 V)) (nf_sel (wd128 V)) (wd128 V) (wd126 V) (wd94 V) (wd129 V) (by decide) f5 (argsL := [.int 19]) (rest := []) (W := 0) rfl rfl (lenOf (pd_10) rfl) rfl rfl D24_21 (J := 24) rfl (by decide) (by decide) (by decide) (by decide) all0 ?_
  intro T7 h7_ v8 s9 H7 Q10
  obtain ⟨rfl, rfl, rfl⟩ := Q10
  show Go p e below _ (T7.setTop (mkF m 24 _ []))
  refine G.aloadN H7 D24_24 (J := 25) rfl rfl rfl ?_
  refine G.aloadN H7 D24_25 (J := 26) rfl rfl rfl ?_
  refine G.getF H7 (wd123 V) Via.refl f4 D24_26 (J := 29) rfl ?_
  intro T11 H12
  refine G.aloadN H12 D24_29 (J := 30) rfl rfl rfl ?_
  refine G.callV H12 (m97_putStringAt V p0 p1 p3 p2 c0 x0 c1 h0 H12.old f5 f8 f0 f3 f6 f1 f2 f7 g9) (wd130 V) (decl_of (wd131 V) (wd134 V)) (nf_sel (wd133 V)) (wd133 V) (wd131 V) (wd94 V) (wd134 V) (by decide) f5 (argsL := [.int 18, .ref p1]) (rest := []) (W := 0) rfl rfl (lenOf (pd_14) rfl) rfl rfl D24_30 (J := 33) rfl (by decide) (by decide) (by decide) (by decide) (allS (mG (i := 0) rfl) all0) ?_
  intro T13 h13_ v14 s15 H13 Q16
  obtain ⟨rfl, rfl, K17, F18⟩ := Q16
  show Go p e below _ (T13.setTop (mkF m 33 _ []))
  refine G.aloadN H13 D24_33 (J := 34) rfl rfl rfl ?_
  refine G.dup H13 D24_34 (J := 35) rfl rfl ?_
  have N19 : p0 ≠ p3 := Exa.neArv (Exa.keep f5 K17) F18 (wd85 V)
  have F20 := (Fld.keep f4 K17 (ninS N19 nin0))
  refine G.getF H13 (wd123 V) Via.refl F20 D24_35 (J := 38) rfl ?_
  intro T21 H22
  refine G.iloadN H22 D24_38 (J := 39) rfl rfl ?_
  refine G.iadd H22 D24_39 (J := 40) rfl ?_
  show Go p e below _ (T21.setTop (mkF m 40 _ [.int 19, .ref p0]))
  have F23 := (Exa.keep f5 K17)
  refine G.putF H22 (wd123 V) Via.refl F20 F23 (Or.inl (wd124 V)) (wd85 V) (ty := .int) (by decide) rfl rfl g10 (Sf.exa F23) D24_40 (J := 43) rfl ?_
  intro T24 h24_ H24 W25
  have F26 : Fld Z h24_ p0 "java/lang/AbstractStringBuilder" "count" "I" (.int 19) := Fld.same W25 F20
  refine G.aloadN H24 D24_43 (J := 44) rfl rfl rfl ?_
  have F27 := (Arv.other F18 W25 (Ne.symm N19))
  have F28 := (Exa.wr W25 F23)
  have F29 := (Fld.other W25 (Fld.keep f6 K17 (ninS N19 nin0)) (Or.inr (slot_ne (Or.inl (wd99 V)) (Or.inl (wd124 V)) (by decide) (t := (.array .byte)) (t' := .int) (by decide) (by decide))))
  have F30 := (Fld.other W25 (Fld.keep f8 K17 (ninS N19 nin0)) (Or.inr (slot_ne (Or.inl (wd101 V)) (Or.inl (wd124 V)) (by decide) (t := .byte) (t' := .int) (by decide) (by decide))))
  have K31 : Keep h0 h24_ [p3, p0] := (Keep.wr (Keep.trans (Keep.refl h0 [p3, p0]) K17 (allS (Or.inl (mG (i := 0) rfl)) all0)) W25 (Or.inl (mG (i := 1) rfl)))
  exact G.retA H24 (t := (.object "java/lang/AbstractStringBuilder")) rfl rfl rfl D24_44 (so := []) all0 (by decide) (by decide) ⟨rfl, rfl, K31, (fun O n d w F hn0 => (Fld.other W25 (Fld.keep F K17 (ninS N19 nin0)) (Or.inr hn0))), F27, F26, F28, F29, F30⟩
theorem m99_append (V : Env1 Z a0 n0 uu0 uu1 uu2 uu3 uu4) (p0 : Addr) (p1 : Addr) (p2 : Addr) (c0 : ClassId) (x0 : Int32) (p3 : Addr) (c1 : ClassId) (h0 : Heap) (hO : Old Z n0 h0) (f0 : Exa Z h0 p1 "java/lang/String") (f1 : Fld Z h0 p1 "java/lang/String" "value" "[B" (.ref p2)) (f2 : Arv Z h0 p2 c0 .byte 1 [.int x0] (.int 0)) (f3 : Fld Z h0 p1 "java/lang/String" "coder" "B" (.int 0)) (f4 : Fld Z h0 p0 "java/lang/AbstractStringBuilder" "count" "I" (.int 18)) (f5 : Exa Z h0 p0 "java/lang/StringBuilder") (f6 : Fld Z h0 p0 "java/lang/AbstractStringBuilder" "value" "[B" (.ref p3)) (f7 : Arv Z h0 p3 c1 .byte 34 [.int 116, .int 104, .int 101, .int 32, .int 116, .int 111, .int 103, .int 103, .int 108, .int 101, .int 32, .int 111, .int 102, .int 32, .int 107, .int 101, .int 121, .int 32, .int 0, .int 0, .int 0, .int 0, .int 0, .int 0, .int 0, .int 0, .int 0, .int 0, .int 0, .int 0, .int 0, .int 0, .int 0, .int 0] (.int 0)) (f8 : Fld Z h0 p0 "java/lang/AbstractStringBuilder" "coder" "B" (.int 0)) (g9 : n0 ≤ p3) (g10 : n0 ≤ p0) :
    Met Z a0 ELs True n0 l ⟨"java/lang/StringBuilder", "append", "(Ljava/lang/String;)Ljava/lang/StringBuilder;"⟩ jdk_67_method_7_code 2 (some (.object "java/lang/StringBuilder")) ⟨4, 0, 0, 83⟩ #[.ref p0, .ref p1] h0 [p3] (fun v h so => (v = some (.ref p0) ∧ so = [] ∧ Keep h0 h [p3, p0] ∧ (∀ (O n d : String) (w : Value), Fld Z h0 p0 O n d w → RoadKit.slotOf Z O n d ≠ RoadKit.slotOf Z "java/lang/AbstractStringBuilder" "count" "I" → Fld Z h p0 O n d w) ∧ Arv Z h p3 c1 .byte 34 [.int 116, .int 104, .int 101, .int 32, .int 116, .int 111, .int 103, .int 103, .int 108, .int 101, .int 32, .int 111, .int 102, .int 32, .int 107, .int 101, .int 121, .int 32, .int x0, .int 0, .int 0, .int 0, .int 0, .int 0, .int 0, .int 0, .int 0, .int 0, .int 0, .int 0, .int 0, .int 0, .int 0, .int 0] (.int 0) ∧ Fld Z h p0 "java/lang/AbstractStringBuilder" "count" "I" (.int 19) ∧ Exa Z h p0 "java/lang/StringBuilder" ∧ Fld Z h p0 "java/lang/AbstractStringBuilder" "value" "[B" (.ref p3) ∧ Fld Z h p0 "java/lang/AbstractStringBuilder" "coder" "B" (.int 0))) := by
  refine Met.of (EWl V) (by first | decide +kernel | rfl) hO (L0 := #[.val (.ref p0), .val (.ref p1)]) rfl ?_
  intro p e s m below meth c T H
  show Go p e below _ (T.setTop (mkF m 0 _ []))
  refine G.aloadN H D21_0 (J := 1) rfl rfl rfl ?_
  refine G.aloadN H D21_1 (J := 2) rfl rfl rfl ?_
  refine G.callSup H (m98_append V p0 p1 p2 c0 x0 p3 c1 h0 H.old f0 f1 f2 f3 f4 f5 f6 f7 f8 g9 g10) (wd108 V) (same_of (wd111 V) (wd128 V) rfl (by decide)) (wd109 V) (wd110 V) (by decide) (wd94 V) (wd112 V) (a := p0) (Ins.self f5) (argsL := [.ref p1]) (rest := []) (W := 0) rfl rfl (lenOf (pd_15) rfl) rfl rfl D21_2 (J := 5) rfl (by decide) (by decide) (by decide) (by decide) (allS (mG (i := 0) rfl) all0) ?_
  intro T1 h1_ v2 s3 H1 Q4
  obtain ⟨rfl, rfl, K5, U6, F7, F8, F9, F10, F11⟩ := Q4
  show Go p e below _ (T1.setTop (mkF m 5 _ [.ref p0]))
  refine G.pop H1 D21_5 (J := 6) rfl rfl ?_
  refine G.aloadN H1 D21_6 (J := 7) rfl rfl rfl ?_
  have K12 : Keep h0 h1_ [p3, p0] := (Keep.trans (Keep.refl h0 [p3, p0]) K5 (allS (Or.inl (mG (i := 0) rfl)) (allS (Or.inl (mG (i := 1) rfl)) all0)))
  exact G.retA H1 (t := (.object "java/lang/StringBuilder")) rfl rfl rfl D21_7 (so := []) all0 (by decide) (by decide) ⟨rfl, rfl, K12, (fun O n d w F hn0 => (U6 O n d w F hn0)), F7, F8, F9, F10, F11⟩
theorem m100_length (V : Env1 Z a0 n0 uu0 uu1 uu2 uu3 uu4) (p0 : Addr) (h0 : Heap) (hO : Old Z n0 h0) (f0 : Fld Z h0 p0 "java/lang/AbstractStringBuilder" "count" "I" (.int 19)) :
    Met Z a0 ELs True n0 l ⟨"java/lang/AbstractStringBuilder", "length", "()I"⟩ jdk_68_method_6_code 1 (some .int) ⟨0, 0, 0, 0⟩ #[.ref p0] h0 [] (fun v h so => (v = some (.int 19) ∧ so = [] ∧ h0 = h)) := by
  refine Met.of (EWl V) (by first | decide +kernel | rfl) hO (L0 := #[.val (.ref p0)]) rfl ?_
  intro p e s m below meth c T H
  show Go p e below _ (T.setTop (mkF m 0 _ []))
  refine G.aloadN H D28_0 (J := 1) rfl rfl rfl ?_
  refine G.getF H (wd123 V) Via.refl f0 D28_1 (J := 4) rfl ?_
  intro T1 H2
  exact G.retI H2 rfl D28_4 (so := []) all0 (by decide) (by decide) ⟨rfl, rfl, rfl⟩
theorem m101_length (V : Env1 Z a0 n0 uu0 uu1 uu2 uu3 uu4) (p0 : Addr) (h0 : Heap) (hO : Old Z n0 h0) (f0 : Fld Z h0 p0 "java/lang/AbstractStringBuilder" "count" "I" (.int 19)) (f1 : Exa Z h0 p0 "java/lang/StringBuilder") :
    Met Z a0 ELs True n0 l ⟨"java/lang/StringBuilder", "length", "()I"⟩ jdk_67_method_93_code 1 (some .int) ⟨1, 0, 0, 12⟩ #[.ref p0] h0 [] (fun v h so => (v = some (.int 19) ∧ so = [] ∧ h0 = h)) := by
  refine Met.of (EWl V) (by first | decide +kernel | rfl) hO (L0 := #[.val (.ref p0)]) rfl ?_
  intro p e s m below meth c T H
  show Go p e below _ (T.setTop (mkF m 0 _ []))
  refine G.aloadN H D22_0 (J := 1) rfl rfl rfl ?_
  refine G.callSup H (m100_length V p0 h0 H.old f0) (wd196 V) (same_of (wd191 V) (wd128 V) rfl (by decide)) (wd192 V) (wd110 V) (by decide) (wd94 V) (wd197 V) (a := p0) (Ins.self f1) (argsL := []) (rest := []) (W := 0) rfl rfl (lenOf (pd_7) rfl) rfl rfl D22_1 (J := 4) rfl (by decide) (by decide) (by decide) (by decide) all0 ?_
  intro T1 h1_ v2 s3 H1 Q4
  obtain ⟨rfl, rfl, rfl⟩ := Q4
  show Go p e below _ (T1.setTop (mkF m 4 _ [.int 19]))
  exact G.retI H1 rfl D22_4 (so := []) all0 (by decide) (by decide) ⟨rfl, rfl, rfl⟩
theorem m102_checkLength (V : Env1 Z a0 n0 uu0 uu1 uu2 uu3 uu4)  (h0 : Heap) (hO : Old Z n0 h0)  :
    Met Z a0 ELs True n0 l ⟨"java/util/Arrays", "checkLength", "(II)V"⟩ jdk_65_method_131_code 2 none ⟨0, 0, 0, 0⟩ #[.int 0, .int 19] h0 [] (fun v h so => (v = none ∧ so = [] ∧ h0 = h)) := by
  refine Met.of (EWl V) (by first | decide +kernel | rfl) hO (L0 := #[.val (.int 0), .val (.int 19)]) rfl ?_
  intro p e s m below meth c T H
  show Go p e below _ (T.setTop (mkF m 0 _ []))
  refine G.iloadN H D16_0 (J := 1) rfl rfl ?_
  refine G.iloadN H D16_1 (J := 2) rfl rfl ?_
  refine G.icmpYes H D16_2 (by decide) (by decide) (J := 37) rfl ?_
  exact G.retV H rfl D16_37 (so := []) all0 (by decide) (by decide) ⟨rfl, rfl, rfl⟩
theorem m103_min (V : Env1 Z a0 n0 uu0 uu1 uu2 uu3 uu4)  (h0 : Heap) (hO : Old Z n0 h0)  :
    Met Z a0 ELs True n0 l ⟨"java/lang/Math", "min", "(II)I"⟩ jdk_29_method_69_code 2 (some .int) ⟨0, 0, 0, 0⟩ #[.int 34, .int 19] h0 [] (fun v h so => (v = some (.int 19) ∧ so = [] ∧ h0 = h)) := by
  refine Met.of (EWl V) (by first | decide +kernel | rfl) hO (L0 := #[.val (.int 34), .val (.int 19)]) rfl ?_
  intro p e s m below meth c T H
  show Go p e below _ (T.setTop (mkF m 0 _ []))
  refine G.iloadN H D1_0 (J := 1) rfl rfl ?_
  refine G.iloadN H D1_1 (J := 2) rfl rfl ?_
  refine G.icmpYes H D1_2 (by decide) (by decide) (J := 9) rfl ?_
  refine G.iloadN H D1_9 (J := 10) rfl rfl ?_
  exact G.retI H rfl D1_10 (so := []) all0 (by decide) (by decide) ⟨rfl, rfl, rfl⟩
theorem m104_copyOfRangeByte (V : Env1 Z a0 n0 uu0 uu1 uu2 uu3 uu4) (p0 : Addr) (c0 : ClassId) (x0 : Int32) (h0 : Heap) (hO : Old Z n0 h0) (f0 : Arv Z h0 p0 c0 .byte 34 [.int 116, .int 104, .int 101, .int 32, .int 116, .int 111, .int 103, .int 103, .int 108, .int 101, .int 32, .int 111, .int 102, .int 32, .int 107, .int 101, .int 121, .int 32, .int x0, .int 0, .int 0, .int 0, .int 0, .int 0, .int 0, .int 0, .int 0, .int 0, .int 0, .int 0, .int 0, .int 0, .int 0, .int 0] (.int 0)) :
    Met Z a0 ELs True n0 l ⟨"java/util/Arrays", "copyOfRangeByte", "([BII)[B"⟩ jdk_65_method_133_code 5 (some (.array .byte)) ⟨1, 1, 19, 40⟩ #[.ref p0, .int 0, .int 19] h0 [] (fun v h so => (∃ a6 : Addr, ∃ k9 : ClassId, v = some (.ref a6) ∧ so = [a6] ∧ Keep h0 h [] ∧ h0.size ≤ a6 ∧ Arv Z h a6 k9 .byte 19 [.int 116, .int 104, .int 101, .int 32, .int 116, .int 111, .int 103, .int 103, .int 108, .int 101, .int 32, .int 111, .int 102, .int 32, .int 107, .int 101, .int 121, .int 32, .int x0] (.int 0) ∧ Exa Z h a6 "[B")) := by
  refine Met.of (EWl V) (by first | decide +kernel | rfl) hO (L0 := #[.val (.ref p0), .val (.int 0), .val (.int 19), .unset, .unset]) rfl ?_
  intro p e s m below meth c T H
  show Go p e below _ (T.setTop (mkF m 0 _ []))
  refine G.iloadN H D18_0 (J := 1) rfl rfl ?_
  refine G.iloadN H D18_1 (J := 2) rfl rfl ?_
  refine G.callS H (m102_checkLength V h0 H.old) (wd209 V) (wd210 V) (wd167 V) (wd211 V) (by decide) (argsL := [.int 0, .int 19]) (rest := []) (W := 0) rfl rfl (lenOf (pd_26) rfl) rfl rfl D18_2 (J := 5) rfl (by decide) (by decide) (by decide) (by decide) all0 ?_
  intro T1 h1_ v2 s3 H1 Q4
  obtain ⟨rfl, rfl, rfl⟩ := Q4
  show Go p e below _ (T1.setTop (mkF m 5 _ []))
  refine G.iloadN H1 D18_5 (J := 6) rfl rfl ?_
  refine G.iloadN H1 D18_6 (J := 7) rfl rfl ?_
  refine G.isub H1 D18_7 (J := 8) rfl ?_
  show Go p e below _ (T1.setTop (mkF m 8 _ [.int 19]))
  refine G.istoreN H1 (L' := #[.val (.ref p0), .val (.int 0), .val (.int 19), .val (.int 19), .unset]) D18_8 (J := 9) rfl rfl ?_
  refine G.iloadN H1 D18_9 (J := 10) rfl rfl ?_
  refine G.newP H1 (aty := .byte) (wd4 V) D18_10 (J := 12) rfl (by decide) (cap := 19) (by decide) (by decide) (by decide) (by decide) (vs := [.int 0, .int 0, .int 0, .int 0, .int 0, .int 0, .int 0, .int 0, .int 0, .int 0, .int 0, .int 0, .int 0, .int 0, .int 0, .int 0, .int 0, .int 0, .int 0]) rfl (ad := "[B") rfl ?_
  intro T5 h5_ a6 k9 ga6 H5 E7 A8 X10
  have na6 := H1.nle ga6
  replace A8 : Arv Z h5_ a6 k9 .byte 19 [.int 0, .int 0, .int 0, .int 0, .int 0, .int 0, .int 0, .int 0, .int 0, .int 0, .int 0, .int 0, .int 0, .int 0, .int 0, .int 0, .int 0, .int 0, .int 0] (.int 0) := A8
  refine G.astore H5 (L' := #[.val (.ref p0), .val (.int 0), .val (.int 19), .val (.int 19), .val (.ref a6)]) D18_12 (J := 14) rfl rfl rfl ?_
  refine G.aloadN H5 D18_14 (J := 15) rfl rfl rfl ?_
  refine G.iloadN H5 D18_15 (J := 16) rfl rfl ?_
  refine G.aload H5 D18_16 (J := 18) rfl rfl rfl ?_
  refine G.iconst H5 D18_18 (J := 19) rfl (v := 0) rfl ?_
  refine G.aloadN H5 D18_19 (J := 20) rfl rfl rfl ?_
  have F11 := (Arv.ext f0 E7)
  refine G.arrlen H5 F11 D18_20 (J := 21) rfl ?_
  refine G.iloadN H5 D18_21 (J := 22) rfl rfl ?_
  refine G.isub H5 D18_22 (J := 23) rfl ?_
  show Go p e below _ (T5.setTop (mkF m 23 _ [.int 34, .int 0, .ref a6, .int 0, .ref p0]))
  refine G.iloadN H5 D18_23 (J := 24) rfl rfl ?_
  refine G.callS H5 (m103_min V h5_ H5.old) (wd169 V) (wd170 V) (wd161 V) (wd171 V) (by decide) (argsL := [.int 34, .int 19]) (rest := [.int 0, .ref a6, .int 0, .ref p0]) (W := 4) rfl rfl (lenOf (pd_22) rfl) rfl rfl D18_24 (J := 27) rfl (by decide) (by decide) (by decide) (by decide) all0 ?_
  intro T12 h12_ v13 s14 H12 Q15
  obtain ⟨rfl, rfl, rfl⟩ := Q15
  show Go p e below _ (T12.setTop (mkF m 27 _ [.int 19, .int 0, .ref a6, .int 0, .ref p0]))
  refine G.copy H12 (wd172 V) (wd149 V) (wd147 V) (wd148 V) F11 A8 (us := [.int 116, .int 104, .int 101, .int 32, .int 116, .int 111, .int 103, .int 103, .int 108, .int 101, .int 32, .int 111, .int 102, .int 32, .int 107, .int 101, .int 121, .int 32, .int x0]) (Or.inl ⟨rfl, rfl⟩) (by decide) (by decide) (by decide) (by decide) (by decide) rfl lB (vr := [.int 116, .int 104, .int 101, .int 32, .int 116, .int 111, .int 103, .int 103, .int 108, .int 101, .int 32, .int 111, .int 102, .int 32, .int 107, .int 101, .int 121, .int 32, .int x0]) rfl na6 (Sf.mem (mG (i := 0) rfl)) (st := []) (W := 0) rfl rfl D18_27 (J := 30) rfl (by decide) (by decide) ?_
  intro T16 h16_ H16 K17 A18
  refine G.aload H16 D18_30 (J := 32) rfl rfl rfl ?_
  have F19 := (Exa.keep X10 K17)
  have K20 : Keep h0 h16_ [] := (Keep.trans (Keep.ext (Keep.refl h0 []) E7) K17 (allS (Or.inr (Nat.le_of_eq ga6.symm)) all0))
  exact G.retA H16 (t := (.array .byte)) rfl rfl rfl D18_32 (so := [a6]) (allS (mG (i := 0) rfl) all0) (by decide) (by decide) ⟨a6, k9, rfl, rfl, K20, (Nat.le_of_eq ga6.symm), A18, F19⟩
theorem m105_copyOfRange (V : Env1 Z a0 n0 uu0 uu1 uu2 uu3 uu4) (p0 : Addr) (c0 : ClassId) (x0 : Int32) (h0 : Heap) (hO : Old Z n0 h0) (f0 : Arv Z h0 p0 c0 .byte 34 [.int 116, .int 104, .int 101, .int 32, .int 116, .int 111, .int 103, .int 103, .int 108, .int 101, .int 32, .int 111, .int 102, .int 32, .int 107, .int 101, .int 121, .int 32, .int x0, .int 0, .int 0, .int 0, .int 0, .int 0, .int 0, .int 0, .int 0, .int 0, .int 0, .int 0, .int 0, .int 0, .int 0, .int 0] (.int 0)) :
    Met Z a0 ELs True n0 l ⟨"java/util/Arrays", "copyOfRange", "([BII)[B"⟩ jdk_65_method_132_code 3 (some (.array .byte)) ⟨2, 1, 19, 56⟩ #[.ref p0, .int 0, .int 19] h0 [] (fun v h so => (∃ a5 : Addr, ∃ k6 : ClassId, v = some (.ref a5) ∧ so = [a5] ∧ Keep h0 h [] ∧ h0.size ≤ a5 ∧ Arv Z h a5 k6 .byte 19 [.int 116, .int 104, .int 101, .int 32, .int 116, .int 111, .int 103, .int 103, .int 108, .int 101, .int 32, .int 111, .int 102, .int 32, .int 107, .int 101, .int 121, .int 32, .int x0] (.int 0) ∧ Exa Z h a5 "[B")) := by
  refine Met.of (EWl V) (by first | decide +kernel | rfl) hO (L0 := #[.val (.ref p0), .val (.int 0), .val (.int 19)]) rfl ?_
  intro p e s m below meth c T H
  show Go p e below _ (T.setTop (mkF m 0 _ []))
  refine G.iloadN H D17_0 (J := 1) rfl rfl ?_
  refine G.ifNo H D17_1 (J := 4) rfl (by decide) ?_
  refine G.iloadN H D17_4 (J := 5) rfl rfl ?_
  refine G.aloadN H D17_5 (J := 6) rfl rfl rfl ?_
  refine G.arrlen H f0 D17_6 (J := 7) rfl ?_
  refine G.icmpNo H D17_7 (J := 10) rfl (by decide) ?_
  refine G.aloadN H D17_10 (J := 11) rfl rfl rfl ?_
  refine G.iloadN H D17_11 (J := 12) rfl rfl ?_
  refine G.iloadN H D17_12 (J := 13) rfl rfl ?_
  refine G.callS H (m104_copyOfRangeByte V p0 c0 x0 h0 H.old f0) (wd206 V) (wd207 V) (wd167 V) (wd208 V) (by decide) (argsL := [.ref p0, .int 0, .int 19]) (rest := []) (W := 0) rfl rfl (lenOf (pd_19) rfl) rfl rfl D17_13 (J := 16) rfl (by decide) (by decide) (by decide) (by decide) all0 ?_
  intro T1 h1_ v2 s3 H1 Q4
  obtain ⟨a5, k6, rfl, rfl, K7, g8, F9, F10⟩ := Q4
  have na5 : n0 ≤ a5 := Nat.le_trans H.le g8
  show Go p e below _ (T1.setTop (mkF m 16 _ [.ref a5]))
  have K11 : Keep h0 h1_ [] := (Keep.trans (Keep.refl h0 []) K7 all0)
  exact G.retA H1 (t := (.array .byte)) rfl rfl rfl D17_16 (so := [a5]) (allS (mG (i := 0) rfl) all0) (by decide) (by decide) ⟨a5, k6, rfl, rfl, K11, g8, F9, F10⟩
theorem m106_init (V : Env1 Z a0 n0 uu0 uu1 uu2 uu3 uu4) (p0 : Addr) (p1 : Addr) (p2 : Addr) (c0 : ClassId) (x0 : Int32) (h0 : Heap) (hO : Old Z n0 h0) (f0 : Exa Z h0 p1 "java/lang/StringBuilder") (f1 : Fld Z h0 p1 "java/lang/AbstractStringBuilder" "value" "[B" (.ref p2)) (f2 : Fld Z h0 p1 "java/lang/AbstractStringBuilder" "count" "I" (.int 19)) (f3 : Fld Z h0 p1 "java/lang/AbstractStringBuilder" "coder" "B" (.int 0)) (f4 : Exa Z h0 p0 "java/lang/String") (f5 : Fld Z h0 p0 "java/lang/String" "coder" "B" (.int 0)) (g6 : n0 ≤ p0) (f7 : Arv Z h0 p2 c0 .byte 34 [.int 116, .int 104, .int 101, .int 32, .int 116, .int 111, .int 103, .int 103, .int 108, .int 101, .int 32, .int 111, .int 102, .int 32, .int 107, .int 101, .int 121, .int 32, .int x0, .int 0, .int 0, .int 0, .int 0, .int 0, .int 0, .int 0, .int 0, .int 0, .int 0, .int 0, .int 0, .int 0, .int 0, .int 0] (.int 0)) (f8 : Fld Z h0 p0 "java/lang/String" "value" "[B" .null) :
    Met Z a0 ELs True n0 l ⟨"java/lang/String", "<init>", "(Ljava/lang/AbstractStringBuilder;Ljava/lang/Void;)V"⟩ jdk_42_method_150_code 5 none ⟨3, 1, 19, 71⟩ #[.ref p0, .ref p1, .null] h0 [p0] (fun v h so => (∃ a24 : Addr, ∃ k25 : ClassId, v = none ∧ so = [a24] ∧ Keep h0 h [p0] ∧ h0.size ≤ a24 ∧ (∀ (O n d : String) (w : Value), Fld Z h0 p0 O n d w → RoadKit.slotOf Z O n d ≠ RoadKit.slotOf Z "java/lang/String" "coder" "B" → RoadKit.slotOf Z O n d ≠ RoadKit.slotOf Z "java/lang/String" "value" "[B" → Fld Z h p0 O n d w) ∧ Exa Z h p0 "java/lang/String" ∧ Fld Z h p0 "java/lang/String" "coder" "B" (.int 0) ∧ Fld Z h p0 "java/lang/String" "value" "[B" (.ref a24) ∧ Arv Z h a24 k25 .byte 19 [.int 116, .int 104, .int 101, .int 32, .int 116, .int 111, .int 103, .int 103, .int 108, .int 101, .int 32, .int 111, .int 102, .int 32, .int 107, .int 101, .int 121, .int 32, .int x0] (.int 0) ∧ Exa Z h a24 "[B")) := by
  refine Met.of (EWl V) (by first | decide +kernel | rfl) hO (L0 := #[.val (.ref p0), .val (.ref p1), .val .null, .unset, .unset]) rfl ?_
  intro p e s m below meth c T H
  show Go p e below _ (T.setTop (mkF m 0 _ []))
  refine G.aloadN H D7_0 (J := 1) rfl rfl rfl ?_
  refine G.initO H (wd25 V) (wd26 V) (wd27 V) rfl D7_1 (J := 4) rfl (by decide) (W := 0) rfl (by decide) ?_
  intro T1 H2
  refine G.aloadN H2 D7_4 (J := 5) rfl rfl rfl ?_
  refine G.callV H2 (m32_getValue V p1 p2 h0 H2.old f1) (wd185 V) (wd186 V) (nf_sel (wd188 V)) (wd188 V) (wd187 V) (wd94 V) (wd189 V) (by decide) f0 (argsL := []) (rest := []) (W := 0) rfl rfl (lenOf (pd_17) rfl) rfl rfl D7_5 (J := 8) rfl (by decide) (by decide) (by decide) (by decide) all0 ?_
  intro T3 h3_ v4 s5 H3 Q6
  obtain ⟨rfl, rfl, rfl⟩ := Q6
  show Go p e below _ (T3.setTop (mkF m 8 _ [.ref p2]))
  refine G.astoreN H3 (L' := #[.val (.ref p0), .val (.ref p1), .val .null, .val (.ref p2), .unset]) D7_8 (J := 9) rfl rfl rfl ?_
  refine G.aloadN H3 D7_9 (J := 10) rfl rfl rfl ?_
  refine G.callV H3 (m101_length V p1 h0 H3.old f2 f0) (wd190 V) (wd191 V) (nf_sib (wd128 V) rfl) (wd193 V) (wd194 V) (wd86 V) (wd195 V) (by decide) f0 (argsL := []) (rest := []) (W := 0) rfl rfl (lenOf (pd_7) rfl) rfl rfl D7_10 (J := 13) rfl (by decide) (by decide) (by decide) (by decide) all0 ?_
  intro T7 h7_ v8 s9 H7 Q10
  obtain ⟨rfl, rfl, rfl⟩ := Q10
  show Go p e below _ (T7.setTop (mkF m 13 _ [.int 19]))
  refine G.istore H7 (L' := #[.val (.ref p0), .val (.ref p1), .val .null, .val (.ref p2), .val (.int 19)]) D7_13 (J := 15) rfl rfl ?_
  refine G.aloadN H7 D7_15 (J := 16) rfl rfl rfl ?_
  refine G.callV H7 (m35_isLatin1 V p1 h0 H7.old f3) (wd198 V) (wd199 V) (nf_sel (wd201 V)) (wd201 V) (wd200 V) (wd94 V) (wd202 V) (by decide) f0 (argsL := []) (rest := []) (W := 0) rfl rfl (lenOf (pd_18) rfl) rfl rfl D7_16 (J := 19) rfl (by decide) (by decide) (by decide) (by decide) all0 ?_
  intro T11 h11_ v12 s13 H11 Q14
  obtain ⟨rfl, rfl, rfl⟩ := Q14
  show Go p e below _ (T11.setTop (mkF m 19 _ [.int 1]))
  refine G.ifNo H11 D7_19 (J := 22) rfl (by decide) ?_
  refine G.aloadN H11 D7_22 (J := 23) rfl rfl rfl ?_
  refine G.iconst H11 D7_23 (J := 24) rfl (v := 0) rfl ?_
  refine G.putF H11 (wd29 V) Via.refl f5 f4 (Or.inr ⟨(wd6 V), rfl, rfl⟩) (wd3 V) (ty := .byte) (by decide) rfl rfl g6 (Sf.mem (mG (i := 0) rfl)) D7_24 (J := 27) rfl ?_
  intro T15 h15_ H15 W16
  have F17 : Fld Z h15_ p0 "java/lang/String" "coder" "B" (.int 0) := Fld.same W16 f5
  refine G.aloadN H15 D7_27 (J := 28) rfl rfl rfl ?_
  refine G.aloadN H15 D7_28 (J := 29) rfl rfl rfl ?_
  refine G.iconst H15 D7_29 (J := 30) rfl (v := 0) rfl ?_
  refine G.iload H15 D7_30 (J := 32) rfl rfl ?_
  have N18 : p2 ≠ p0 := Ne.symm (Exa.neArv f4 f7 (wd3 V))
  have F19 := (Arv.other f7 W16 N18)
  refine G.callS H15 (m105_copyOfRange V p2 c0 x0 h15_ H15.old F19) (wd203 V) (wd204 V) (wd167 V) (wd205 V) (by decide) (argsL := [.ref p2, .int 0, .int 19]) (rest := [.ref p0]) (W := 1) rfl rfl (lenOf (pd_19) rfl) rfl rfl D7_32 (J := 35) rfl (by decide) (by decide) (by decide) (by decide) all0 ?_
  intro T20 h20_ v21 s22 H20 Q23
  obtain ⟨a24, k25, rfl, rfl, K26, g27, F28, F29⟩ := Q23
  have na24 : n0 ≤ a24 := Nat.le_trans H15.le g27
  show Go p e below _ (T20.setTop (mkF m 35 _ [.ref a24, .ref p0]))
  have K30 : Keep h0 h20_ [p0] := (Keep.trans (Keep.wr (Keep.refl h0 [p0]) W16 (Or.inl (mG (i := 0) rfl))) K26 all0)
  have F31 := (Exa.keep f4 K30)
  have F32 := (Fld.keep (Fld.other W16 f8 (Or.inr (slot_ne (Or.inr (wd5 V)) (Or.inr (wd6 V)) (by decide) (t := (.array .byte)) (t' := .byte) (by decide) (by decide)))) K26 nin0)
  refine G.putF H20 (wd28 V) Via.refl F32 F31 (Or.inr ⟨(wd5 V), rfl, rfl⟩) (wd3 V) (ty := (.array .byte)) (by decide) rfl rfl g6 (Sf.mem (mG (i := 1) rfl)) D7_35 (J := 38) rfl ?_
  intro T33 h33_ H33 W34
  have F35 : Fld Z h33_ p0 "java/lang/String" "value" "[B" (.ref a24) := Fld.same W34 F32
  refine G.goto H33 D7_38 (by decide) (J := 97) rfl ?_
  have F36 := (Exa.wr W34 F31)
  have F37 := (Fld.other W34 (Fld.keep F17 K26 nin0) (Or.inr (slot_ne (Or.inr (wd6 V)) (Or.inr (wd5 V)) (by decide) (t := .byte) (t' := (.array .byte)) (by decide) (by decide))))
  have N38 : a24 ≠ p0 := Ne.symm (Exa.neArv (Exa.keep (Exa.wr W16 f4) K26) F28 (wd3 V))
  have F39 := (Arv.other F28 W34 N38)
  have F40 := (Exa.wr W34 F29)
  have K41 : Keep h0 h33_ [p0] := (Keep.wr (Keep.trans (Keep.wr (Keep.refl h0 [p0]) W16 (Or.inl (mG (i := 0) rfl))) K26 all0) W34 (Or.inl (mG (i := 0) rfl)))
  have K42 : Keep h0 h15_ [p0] := (Keep.wr (Keep.refl h0 [p0]) W16 (Or.inl (mG (i := 0) rfl)))
  exact G.retV H33 rfl D7_97 (so := [a24]) (allS (mG (i := 0) rfl) all0) (by decide) (by decide) ⟨a24, k25, rfl, rfl, K41, (Nat.le_trans K42.1 g27), (fun O n d w F hn0 hn1 => (Fld.other W34 (Fld.keep (Fld.other W16 F (Or.inr hn0)) K26 nin0) (Or.inr hn1))), F36, F37, F35, F39, F40⟩
theorem m107_init (V : Env1 Z a0 n0 uu0 uu1 uu2 uu3 uu4) (p0 : Addr) (p1 : Addr) (p2 : Addr) (c0 : ClassId) (x0 : Int32) (h0 : Heap) (hO : Old Z n0 h0) (f0 : Exa Z h0 p1 "java/lang/StringBuilder") (f1 : Fld Z h0 p1 "java/lang/AbstractStringBuilder" "value" "[B" (.ref p2)) (f2 : Fld Z h0 p1 "java/lang/AbstractStringBuilder" "count" "I" (.int 19)) (f3 : Fld Z h0 p1 "java/lang/AbstractStringBuilder" "coder" "B" (.int 0)) (f4 : Exa Z h0 p0 "java/lang/String") (f5 : Fld Z h0 p0 "java/lang/String" "coder" "B" (.int 0)) (g6 : n0 ≤ p0) (f7 : Arv Z h0 p2 c0 .byte 34 [.int 116, .int 104, .int 101, .int 32, .int 116, .int 111, .int 103, .int 103, .int 108, .int 101, .int 32, .int 111, .int 102, .int 32, .int 107, .int 101, .int 121, .int 32, .int x0, .int 0, .int 0, .int 0, .int 0, .int 0, .int 0, .int 0, .int 0, .int 0, .int 0, .int 0, .int 0, .int 0, .int 0, .int 0] (.int 0)) (f8 : Fld Z h0 p0 "java/lang/String" "value" "[B" .null) :
    Met Z a0 ELs True n0 l ⟨"java/lang/String", "<init>", "(Ljava/lang/StringBuilder;)V"⟩ jdk_42_method_53_code 2 none ⟨4, 1, 19, 87⟩ #[.ref p0, .ref p1] h0 [p0] (fun v h so => (∃ a5 : Addr, ∃ k6 : ClassId, v = none ∧ so = [a5] ∧ Keep h0 h [p0] ∧ h0.size ≤ a5 ∧ (∀ (O n d : String) (w : Value), Fld Z h0 p0 O n d w → RoadKit.slotOf Z O n d ≠ RoadKit.slotOf Z "java/lang/String" "coder" "B" → RoadKit.slotOf Z O n d ≠ RoadKit.slotOf Z "java/lang/String" "value" "[B" → Fld Z h p0 O n d w) ∧ Exa Z h p0 "java/lang/String" ∧ Fld Z h p0 "java/lang/String" "coder" "B" (.int 0) ∧ Fld Z h p0 "java/lang/String" "value" "[B" (.ref a5) ∧ Arv Z h a5 k6 .byte 19 [.int 116, .int 104, .int 101, .int 32, .int 116, .int 111, .int 103, .int 103, .int 108, .int 101, .int 32, .int 111, .int 102, .int 32, .int 107, .int 101, .int 121, .int 32, .int x0] (.int 0) ∧ Exa Z h a5 "[B")) := by
  refine Met.of (EWl V) (by first | decide +kernel | rfl) hO (L0 := #[.val (.ref p0), .val (.ref p1)]) rfl ?_
  intro p e s m below meth c T H
  show Go p e below _ (T.setTop (mkF m 0 _ []))
  refine G.aloadN H D10_0 (J := 1) rfl rfl rfl ?_
  refine G.aloadN H D10_1 (J := 2) rfl rfl rfl ?_
  refine G.aconstNull H D10_2 (J := 3) rfl ?_
  refine G.callI H (m106_init V p0 p1 p2 c0 x0 h0 H.old f0 f1 f2 f3 f4 f5 g6 f7 f8) rfl (wd182 V) (wd183 V) (wd2 V) (wd184 V) (by decide) (a := p0) (argsL := [.ref p1, .null]) (rest := []) (W := 0) rfl rfl (lenOf (pd_20) rfl) rfl rfl D10_3 (J := 6) rfl (by decide) (by decide) (by decide) (by decide) (allS (mG (i := 0) rfl) all0) ?_
  intro T1 h1_ v2 s3 H1 Q4
  obtain ⟨a5, k6, rfl, rfl, K7, g8, U9, F10, F11, F12, F13, F14⟩ := Q4
  have na5 : n0 ≤ a5 := Nat.le_trans H.le g8
  show Go p e below _ (T1.setTop (mkF m 6 _ []))
  have K15 : Keep h0 h1_ [p0] := (Keep.trans (Keep.refl h0 [p0]) K7 (allS (Or.inl (mG (i := 0) rfl)) all0))
  exact G.retV H1 rfl D10_6 (so := [a5]) (allS (mG (i := 0) rfl) all0) (by decide) (by decide) ⟨a5, k6, rfl, rfl, K15, g8, (fun O n d w F hn0 hn1 => (U9 O n d w F hn0 hn1)), F10, F11, F12, F13, F14⟩
theorem m108_toString (V : Env1 Z a0 n0 uu0 uu1 uu2 uu3 uu4) (p0 : Addr) (p1 : Addr) (c0 : ClassId) (x0 : Int32) (h0 : Heap) (hO : Old Z n0 h0) (f0 : Exa Z h0 p0 "java/lang/StringBuilder") (f1 : Fld Z h0 p0 "java/lang/AbstractStringBuilder" "value" "[B" (.ref p1)) (f2 : Fld Z h0 p0 "java/lang/AbstractStringBuilder" "count" "I" (.int 19)) (f3 : Fld Z h0 p0 "java/lang/AbstractStringBuilder" "coder" "B" (.int 0)) (f4 : Arv Z h0 p1 c0 .byte 34 [.int 116, .int 104, .int 101, .int 32, .int 116, .int 111, .int 103, .int 103, .int 108, .int 101, .int 32, .int 111, .int 102, .int 32, .int 107, .int 101, .int 121, .int 32, .int x0, .int 0, .int 0, .int 0, .int 0, .int 0, .int 0, .int 0, .int 0, .int 0, .int 0, .int 0, .int 0, .int 0, .int 0, .int 0] (.int 0)) :
    Met Z a0 ELs True n0 l ⟨"java/lang/StringBuilder", "toString", "()Ljava/lang/String;"⟩ jdk_67_method_42_code 1 (some (.object "java/lang/String")) ⟨5, 2, 23, 101⟩ #[.ref p0] h0 [] (fun v h so => (∃ a2 a17 : Addr, ∃ k18 : ClassId, v = some (.ref a2) ∧ so = [a2, a17] ∧ Keep h0 h [] ∧ h0.size ≤ a2 ∧ a2 < a17 ∧ Exa Z h a2 "java/lang/String" ∧ Fld Z h a2 "java/lang/String" "coder" "B" (.int 0) ∧ Fld Z h a2 "java/lang/String" "value" "[B" (.ref a17) ∧ Arv Z h a17 k18 .byte 19 [.int 116, .int 104, .int 101, .int 32, .int 116, .int 111, .int 103, .int 103, .int 108, .int 101, .int 32, .int 111, .int 102, .int 32, .int 107, .int 101, .int 121, .int 32, .int x0] (.int 0) ∧ Exa Z h a17 "[B")) := by
  refine Met.of (EWl V) (by first | decide +kernel | rfl) hO (L0 := #[.val (.ref p0)]) rfl ?_
  intro p e s m below meth c T H
  show Go p e below _ (T.setTop (mkF m 0 _ []))
  refine G.new H (wd178 V) (wd3 V) (wd2 V) D20_0 (J := 3) rfl (by decide) (by decide) ?_
  intro T1 h1_ a2 ga2 H1 E3 A4 D5
  have na2 := H.nle ga2
  refine G.dup H1 D20_3 (J := 4) rfl rfl ?_
  refine G.aloadN H1 D20_4 (J := 5) rfl rfl rfl ?_
  have F6 := (Exa.ext E3 f0)
  have F7 := (Fld.ext E3 f1)
  have F8 := (Fld.ext E3 f2)
  have F9 := (Fld.ext E3 f3)
  have F10 : Fld Z h1_ a2 "java/lang/String" "coder" "B" (.int 0) := D5 (Or.inr (wd6 V)) (ty := .byte) (by decide)
  have F11 := (Arv.ext f4 E3)
  have F12 : Fld Z h1_ a2 "java/lang/String" "value" "[B" .null := D5 (Or.inr (wd5 V)) (ty := (.array .byte)) (by decide)
  refine G.callI H1 (m107_init V a2 p0 p1 c0 x0 h1_ H1.old F6 F7 F8 F9 A4 F10 na2 F11 F12) rfl (wd179 V) (wd180 V) (wd2 V) (wd181 V) (by decide) (a := a2) (argsL := [.ref p0]) (rest := [.ref a2]) (W := 1) rfl rfl (lenOf (pd_21) rfl) rfl rfl D20_5 (J := 8) rfl (by decide) (by decide) (by decide) (by decide) (allS (mG (i := 0) rfl) all0) ?_
  intro T13 h13_ v14 s15 H13 Q16
  obtain ⟨a17, k18, rfl, rfl, K19, g20, U21, F22, F23, F24, F25, F26⟩ := Q16
  have na17 : n0 ≤ a17 := Nat.le_trans H1.le g20
  show Go p e below _ (T13.setTop (mkF m 8 _ [.ref a2]))
  have K27 : Keep h0 h13_ [] := (Keep.trans (Keep.ext (Keep.refl h0 []) E3) K19 (allS (Or.inr (Nat.le_of_eq ga2.symm)) all0))
  exact G.retA H13 (t := (.object "java/lang/String")) rfl rfl rfl D20_8 (so := [a2, a17]) (allS (mG (i := 1) rfl) (allS (mG (i := 0) rfl) all0)) (by decide) (by decide) ⟨a2, a17, k18, rfl, rfl, K27, (Nat.le_of_eq ga2.symm), (Nat.lt_of_lt_of_le A4.lt g20), F22, F23, F24, F25, F26⟩
theorem m109_description (V : Env1 Z a0 n0 uu0 uu1 uu2 uu3 uu4) (p0 : Addr) (p1 : Addr) (p2 : Addr) (c0 : ClassId) (x0 : Int32) (h0 : Heap) (hO : Old Z n0 h0) (f0 : Fld Z h0 p0 "com/example/formboard/formboard/core/Board$Live" "part" "Lcom/example/formboard/formboard/core/Board$Part;" (.ref uu2)) (f1 : Fld Z h0 p0 "com/example/formboard/formboard/core/Board$Live" "key" "Ljava/lang/String;" (.ref p1)) (f2 : Exa Z h0 p1 "java/lang/String") (f3 : Fld Z h0 p1 "java/lang/String" "value" "[B" (.ref p2)) (f4 : Arv Z h0 p2 c0 .byte 1 [.int x0] (.int 0)) (f5 : Fld Z h0 p1 "java/lang/String" "coder" "B" (.int 0)) :
    Met Z a0 ELs True n0 l ⟨"com/example/formboard/formboard/core/Board$Live", "description", "()Ljava/lang/String;"⟩ prog_16_method_2_code 1 (some (.object "java/lang/String")) ⟨6, 7, 153, 113⟩ #[.ref p0] h0 [] (fun v h so => (∃ a84 a85 : Addr, ∃ k86 : ClassId, v = some (.ref a84) ∧ so = [a84, a85] ∧ Keep h0 h [] ∧ h0.size ≤ a84 ∧ a84 < a85 ∧ Exa Z h a84 "java/lang/String" ∧ Fld Z h a84 "java/lang/String" "coder" "B" (.int 0) ∧ Fld Z h a84 "java/lang/String" "value" "[B" (.ref a85) ∧ Arv Z h a85 k86 .byte 19 [.int 116, .int 104, .int 101, .int 32, .int 116, .int 111, .int 103, .int 103, .int 108, .int 101, .int 32, .int 111, .int 102, .int 32, .int 107, .int 101, .int 121, .int 32, .int x0] (.int 0) ∧ Exa Z h a85 "[B")) := by
  refine Met.of (EWl V) (by first | decide +kernel | rfl) hO (L0 := #[.val (.ref p0)]) rfl ?_
  intro p e s m below meth c T H
  show Go p e below _ (T.setTop (mkF m 0 _ []))
  refine G.aloadN H D34_0 (J := 1) rfl rfl rfl ?_
  refine G.getF H (wd51 V) Via.refl f0 D34_1 (J := 4) rfl ?_
  intro T1 H2
  have B3 := Exa.ext H2.old.2 (hv5 V)
  refine G.callVU H2 (y := ⟨"com/example/formboard/formboard/core/Board$Part", "ordinal", "()I"⟩) (m44_ordinal V h0 H2.old) (wd62 V) (wd63 V) (wd64 V) (by decide) (wd66 V) (wd65 V) (wd67 V) (wd68 V) B3 (argsL := []) (rest := []) (W := 0) rfl rfl (lenOf (pd_7) rfl) rfl rfl D34_4 (J := 7) rfl (by decide) (by decide) (by decide) (by decide) all0 ?_
  intro T4 h4_ v5 s6 H4 Q7
  obtain ⟨rfl, rfl, rfl⟩ := Q7
  show Go p e below _ (T4.setTop (mkF m 7 _ [.int 2]))
  refine G.tswIn H4 D34_7 (by decide) (o := 65) rfl (by decide) (J := 72) rfl ?_
  refine G.new H4 (wd84 V) (wd85 V) (wd86 V) D34_72 (J := 75) rfl (by decide) (by decide) ?_
  intro T8 h8_ a9 ga9 H8 E10 A11 D12
  have na9 := H4.nle ga9
  refine G.dup H8 D34_75 (J := 76) rfl rfl ?_
  have F13 : Fld Z h8_ a9 "java/lang/AbstractStringBuilder" "value" "[B" .null := D12 (Or.inl (wd99 V)) (ty := (.array .byte)) (by decide)
  have F14 : Fld Z h8_ a9 "java/lang/AbstractStringBuilder" "coder" "B" (.int 0) := D12 (Or.inl (wd101 V)) (ty := .byte) (by decide)
  refine G.callI H8 (m17_init V a9 h8_ H8.old A11 F13 na9 F14) rfl (wd87 V) (wd88 V) (wd86 V) (wd89 V) (by decide) (a := a9) (argsL := []) (rest := [.ref a9]) (W := 1) rfl rfl (lenOf (pd_4) rfl) rfl rfl D34_76 (J := 79) rfl (by decide) (by decide) (by decide) (by decide) all0 ?_
  intro T15 h15_ v16 s17 H15 Q18
  obtain ⟨a19, k20, rfl, rfl, K21, g22, U23, F24, F25, F26, F27, F28⟩ := Q18
  have na19 : n0 ≤ a19 := Nat.le_trans H8.le g22
  show Go p e below _ (T15.setTop (mkF m 79 _ [.ref a9]))
  refine G.ldcS H15 trivial (wS V) (wd235 V) (by decide) (vs := [.int 116, .int 104, .int 101, .int 32, .int 116, .int 111, .int 103, .int 103, .int 108, .int 101, .int 32, .int 111, .int 102, .int 32, .int 107, .int 101, .int 121, .int 32]) (z := 18) (by decide) (by decide) rfl (n := 72) (by decide) (by decide) (by decide) (by decide) D34_79 (J := 81) rfl ?_
  intro T29 h29_ a30 b32 k33 H29 E31 X34 F35 F36 A37 Q38
  have S39 : Str Z h29_ a30 b32 k33 [116, 104, 101, 32, 116, 111, 103, 103, 108, 101, 32, 111, 102, 32, 107, 101, 121, 32] := ⟨X34, F35, F36, A37, by decide, by decide⟩
  have F40 := (Exa.ext E31 F24)
  have F41 : Fld Z h8_ a9 "java/lang/AbstractStringBuilder" "count" "I" (.int 0) := D12 (Or.inl (wd124 V)) (ty := .int) (by decide)
  have F42 := (Fld.ext E31 (U23 "java/lang/AbstractStringBuilder" "count" "I" (.int 0) F41 (slot_ne (Or.inl (wd124 V)) (Or.inl (wd99 V)) (by decide) (t := .int) (t' := (.array .byte)) (by decide) (by decide)) (slot_ne (Or.inl (wd124 V)) (Or.inl (wd101 V)) (by decide) (t := .int) (t' := .byte) (by decide) (by decide))))
  have F43 := (Fld.ext E31 F25)
  have F44 := (Arv.ext F27 E31)
  have F45 := (Fld.ext E31 F26)
  refine G.callV H29 (m55_append V a9 a30 b32 k33 a19 k20 h29_ H29.old X34 F36 A37 F35 F42 F40 F43 F44 F45 na9) (wd103 V) (wd104 V) (nf_sel (wd106 V)) (wd106 V) (wd105 V) (wd86 V) (wd107 V) (by decide) F40 (argsL := [.ref a30]) (rest := []) (W := 0) rfl rfl (lenOf (pd_16) rfl) rfl rfl D34_81 (J := 84) rfl (by decide) (by decide) (by decide) (by decide) all0 ?_
  intro T46 h46_ v47 s48 H46 Q49
  obtain ⟨a50, k51, rfl, rfl, K52, g53, U54, F55, F56, F57, F58, F59, F60⟩ := Q49
  have na50 : n0 ≤ a50 := Nat.le_trans H29.le g53
  show Go p e below _ (T46.setTop (mkF m 84 _ [.ref a9]))
  refine G.aloadN H46 D34_84 (J := 85) rfl rfl rfl ?_
  have K61 : Keep h0 h46_ [] := (Keep.trans (Keep.ext (Keep.trans (Keep.ext (Keep.refl h0 []) E10) K21 (allS (Or.inr (Nat.le_of_eq ga9.symm)) all0)) E31) K52 (allS (Or.inr (Nat.le_of_eq ga9.symm)) all0))
  have F62 := (Fld.keep f1 K61 nin0)
  refine G.getF H46 (wd53 V) Via.refl F62 D34_85 (J := 88) rfl ?_
  intro T63 H64
  have F65 := (Exa.keep f2 K61)
  have F66 := (Fld.keep f3 K61 nin0)
  have F67 := (Arv.keep f4 K61 nin0)
  have F68 := (Fld.keep f5 K61 nin0)
  refine G.callV H64 (m99_append V a9 p1 p2 c0 x0 a50 k51 h46_ H64.old F65 F66 F67 F68 F55 F56 F57 F59 F58 na50 na9) (wd103 V) (wd104 V) (nf_sel (wd106 V)) (wd106 V) (wd105 V) (wd86 V) (wd107 V) (by decide) F56 (argsL := [.ref p1]) (rest := []) (W := 0) rfl rfl (lenOf (pd_16) rfl) rfl rfl D34_88 (J := 91) rfl (by decide) (by decide) (by decide) (by decide) (allS (mG (i := 0) rfl) all0) ?_
  intro T69 h69_ v70 s71 H69 Q72
  obtain ⟨rfl, rfl, K73, U74, F75, F76, F77, F78, F79⟩ := Q72
  show Go p e below _ (T69.setTop (mkF m 91 _ [.ref a9]))
  refine G.callV H69 (m108_toString V a9 a50 k51 x0 h69_ H69.old F77 F78 F76 F79 F75) (wd173 V) (wd174 V) (nf_sel (wd176 V)) (wd176 V) (wd175 V) (wd86 V) (wd177 V) (by decide) F77 (argsL := []) (rest := []) (W := 0) rfl rfl (lenOf (pd_8) rfl) rfl rfl D34_91 (J := 94) rfl (by decide) (by decide) (by decide) (by decide) all0 ?_
  intro T80 h80_ v81 s82 H80 Q83
  obtain ⟨a84, a85, k86, rfl, rfl, K87, g88, g89, F90, F91, F92, F93, F94⟩ := Q83
  have na84 : n0 ≤ a84 := Nat.le_trans H69.le g88
  have na85 : n0 ≤ a85 := Nat.le_trans H69.le (Nat.le_of_lt (Nat.lt_of_le_of_lt g88 g89))
  show Go p e below _ (T80.setTop (mkF m 94 _ [.ref a84]))
  have K95 : Keep h0 h29_ [] := (Keep.ext (Keep.trans (Keep.ext (Keep.refl h0 []) E10) K21 (allS (Or.inr (Nat.le_of_eq ga9.symm)) all0)) E31)
  have K96 : Keep h0 h80_ [] := (Keep.trans (Keep.trans (Keep.trans (Keep.ext (Keep.trans (Keep.ext (Keep.refl h0 []) E10) K21 (allS (Or.inr (Nat.le_of_eq ga9.symm)) all0)) E31) K52 (allS (Or.inr (Nat.le_of_eq ga9.symm)) all0)) K73 (allS (Or.inr (Nat.le_trans K95.1 g53)) (allS (Or.inr (Nat.le_of_eq ga9.symm)) all0))) K87 all0)
  have K97 : Keep h0 h69_ [] := (Keep.trans (Keep.trans (Keep.ext (Keep.trans (Keep.ext (Keep.refl h0 []) E10) K21 (allS (Or.inr (Nat.le_of_eq ga9.symm)) all0)) E31) K52 (allS (Or.inr (Nat.le_of_eq ga9.symm)) all0)) K73 (allS (Or.inr (Nat.le_trans K95.1 g53)) (allS (Or.inr (Nat.le_of_eq ga9.symm)) all0)))
  exact G.retA H80 (t := (.object "java/lang/String")) rfl rfl rfl D34_94 (so := [a84, a85]) (allS (mG (i := 0) rfl) (allS (mG (i := 1) rfl) all0)) (by decide) (by decide) ⟨a84, a85, k86, rfl, rfl, K96, (Nat.le_trans K97.1 g88), g89, F90, F91, F92, F93, F94⟩
theorem m110_expected (V : Env1 Z a0 n0 uu0 uu1 uu2 uu3 uu4) (x0 : Int32) (x1 : Int32) (h0 : Heap) (hO : Old Z n0 h0) (r0 : ¬ x0 < 0 ∧ ¬ 65535 < x0) (r1 : ¬ x0 < 0 ∧ ¬ 255 < x0) :
    Met Z a0 ELs True n0 l ⟨"com/example/formboard/formboard/core/LiveDescriptionPinLaw", "expected", "(IICC)Ljava/lang/String;"⟩ method_3_code 4 (some (.object "java/lang/String")) ⟨4, 3, 42, 66⟩ #[.int 2, .int 1, .int x0, .int x1] h0 [] (fun v h so => (∃ a2 t76 : Addr, ∃ k77 : ClassId, v = some (.ref a2) ∧ so = [a2, t76] ∧ Keep h0 h [] ∧ h0.size ≤ a2 ∧ a2 < t76 ∧ Str Z h a2 t76 k77 [116, 104, 101, 32, 116, 111, 103, 103, 108, 101, 32, 111, 102, 32, 107, 101, 121, 32, x0])) := by
  refine Met.of (EWl V) (by first | decide +kernel | rfl) hO (L0 := #[.val (.int 2), .val (.int 1), .val (.int x0), .val (.int x1)]) rfl ?_
  intro p e s m below meth c T H
  show Go p e below _ (T.setTop (mkF m 0 _ []))
  refine G.iloadN H D32_0 (J := 1) rfl rfl ?_
  refine G.ifYes H D32_1 (by decide) (by decide) (J := 7) rfl ?_
  refine G.iloadN H D32_7 (J := 8) rfl rfl ?_
  refine G.iconst H D32_8 (J := 9) rfl (v := 1) rfl ?_
  refine G.icmpYes H D32_9 (by decide) (by decide) (J := 243) rfl ?_
  refine G.iloadN H D32_243 (J := 244) rfl rfl ?_
  refine G.ifYes H D32_244 (by decide) (by decide) (J := 250) rfl ?_
  refine G.iloadN H D32_250 (J := 251) rfl rfl ?_
  refine G.iconst H D32_251 (J := 252) rfl (v := 1) rfl ?_
  refine G.icmpNo H D32_252 (J := 255) rfl (by decide) ?_
  refine G.new H (wd212 V) (wd3 V) (wd2 V) D32_255 (J := 258) rfl (by decide) (by decide) ?_
  intro T1 h1_ a2 ga2 H1 E3 A4 D5
  have na2 := H.nle ga2
  refine G.dup H1 D32_258 (J := 259) rfl rfl ?_
  refine G.bipush H1 D32_259 (J := 261) rfl (v := 19) rfl ?_
  refine G.newP H1 (aty := .char) (wd213 V) D32_261 (J := 263) rfl (by decide) (cap := 19) (by decide) (by decide) (by decide) (by decide) (vs := [.int 0, .int 0, .int 0, .int 0, .int 0, .int 0, .int 0, .int 0, .int 0, .int 0, .int 0, .int 0, .int 0, .int 0, .int 0, .int 0, .int 0, .int 0, .int 0]) rfl (ad := "[C") rfl ?_
  intro T6 h6_ a7 k10 ga7 H6 E8 A9 X11
  have na7 := H1.nle ga7
  replace A9 : Arv Z h6_ a7 k10 .char 19 [.int 0, .int 0, .int 0, .int 0, .int 0, .int 0, .int 0, .int 0, .int 0, .int 0, .int 0, .int 0, .int 0, .int 0, .int 0, .int 0, .int 0, .int 0, .int 0] (.int 0) := A9
  refine G.dup H6 D32_263 (J := 264) rfl rfl ?_
  refine G.iconst H6 D32_264 (J := 265) rfl (v := 0) rfl ?_
  refine G.bipush H6 D32_265 (J := 267) rfl (v := 116) rfl ?_
  refine G.stC H6 A9 (by decide) (i := 0) rfl lB na7 (y := 116) rfl D32_267 (J := 268) rfl ?_
  intro T12 h12_ H12 W13 A14
  replace A14 : Arv Z h12_ a7 k10 .char 19 [.int 116, .int 0, .int 0, .int 0, .int 0, .int 0, .int 0, .int 0, .int 0, .int 0, .int 0, .int 0, .int 0, .int 0, .int 0, .int 0, .int 0, .int 0, .int 0] (.int 0) := A14
  refine G.dup H12 D32_268 (J := 269) rfl rfl ?_
  refine G.iconst H12 D32_269 (J := 270) rfl (v := 1) rfl ?_
  refine G.bipush H12 D32_270 (J := 272) rfl (v := 104) rfl ?_
  refine G.stC H12 A14 (by decide) (i := 1) rfl lB na7 (y := 104) rfl D32_272 (J := 273) rfl ?_
  intro T15 h15_ H15 W16 A17
  replace A17 : Arv Z h15_ a7 k10 .char 19 [.int 116, .int 104, .int 0, .int 0, .int 0, .int 0, .int 0, .int 0, .int 0, .int 0, .int 0, .int 0, .int 0, .int 0, .int 0, .int 0, .int 0, .int 0, .int 0] (.int 0) := A17
  refine G.dup H15 D32_273 (J := 274) rfl rfl ?_
  refine G.iconst H15 D32_274 (J := 275) rfl (v := 2) rfl ?_
  refine G.bipush H15 D32_275 (J := 277) rfl (v := 101) rfl ?_
  refine G.stC H15 A17 (by decide) (i := 2) rfl lB na7 (y := 101) rfl D32_277 (J := 278) rfl ?_
  intro T18 h18_ H18 W19 A20
  replace A20 : Arv Z h18_ a7 k10 .char 19 [.int 116, .int 104, .int 101, .int 0, .int 0, .int 0, .int 0, .int 0, .int 0, .int 0, .int 0, .int 0, .int 0, .int 0, .int 0, .int 0, .int 0, .int 0, .int 0] (.int 0) := A20
  refine G.dup H18 D32_278 (J := 279) rfl rfl ?_
  refine G.iconst H18 D32_279 (J := 280) rfl (v := 3) rfl ?_
  refine G.bipush H18 D32_280 (J := 282) rfl (v := 32) rfl ?_
  refine G.stC H18 A20 (by decide) (i := 3) rfl lB na7 (y := 32) rfl D32_282 (J := 283) rfl ?_
  intro T21 h21_ H21 W22 A23
  replace A23 : Arv Z h21_ a7 k10 .char 19 [.int 116, .int 104, .int 101, .int 32, .int 0, .int 0, .int 0, .int 0, .int 0, .int 0, .int 0, .int 0, .int 0, .int 0, .int 0, .int 0, .int 0, .int 0, .int 0] (.int 0) := A23
  refine G.dup H21 D32_283 (J := 284) rfl rfl ?_
  refine G.iconst H21 D32_284 (J := 285) rfl (v := 4) rfl ?_
  refine G.bipush H21 D32_285 (J := 287) rfl (v := 116) rfl ?_
  refine G.stC H21 A23 (by decide) (i := 4) rfl lB na7 (y := 116) rfl D32_287 (J := 288) rfl ?_
  intro T24 h24_ H24 W25 A26
  replace A26 : Arv Z h24_ a7 k10 .char 19 [.int 116, .int 104, .int 101, .int 32, .int 116, .int 0, .int 0, .int 0, .int 0, .int 0, .int 0, .int 0, .int 0, .int 0, .int 0, .int 0, .int 0, .int 0, .int 0] (.int 0) := A26
  refine G.dup H24 D32_288 (J := 289) rfl rfl ?_
  refine G.iconst H24 D32_289 (J := 290) rfl (v := 5) rfl ?_
  refine G.bipush H24 D32_290 (J := 292) rfl (v := 111) rfl ?_
  refine G.stC H24 A26 (by decide) (i := 5) rfl lB na7 (y := 111) rfl D32_292 (J := 293) rfl ?_
  intro T27 h27_ H27 W28 A29
  replace A29 : Arv Z h27_ a7 k10 .char 19 [.int 116, .int 104, .int 101, .int 32, .int 116, .int 111, .int 0, .int 0, .int 0, .int 0, .int 0, .int 0, .int 0, .int 0, .int 0, .int 0, .int 0, .int 0, .int 0] (.int 0) := A29
  refine G.dup H27 D32_293 (J := 294) rfl rfl ?_
  refine G.bipush H27 D32_294 (J := 296) rfl (v := 6) rfl ?_
  refine G.bipush H27 D32_296 (J := 298) rfl (v := 103) rfl ?_
  refine G.stC H27 A29 (by decide) (i := 6) rfl lB na7 (y := 103) rfl D32_298 (J := 299) rfl ?_
  intro T30 h30_ H30 W31 A32
  replace A32 : Arv Z h30_ a7 k10 .char 19 [.int 116, .int 104, .int 101, .int 32, .int 116, .int 111, .int 103, .int 0, .int 0, .int 0, .int 0, .int 0, .int 0, .int 0, .int 0, .int 0, .int 0, .int 0, .int 0] (.int 0) := A32
  refine G.dup H30 D32_299 (J := 300) rfl rfl ?_
  refine G.bipush H30 D32_300 (J := 302) rfl (v := 7) rfl ?_
  refine G.bipush H30 D32_302 (J := 304) rfl (v := 103) rfl ?_
  refine G.stC H30 A32 (by decide) (i := 7) rfl lB na7 (y := 103) rfl D32_304 (J := 305) rfl ?_
  intro T33 h33_ H33 W34 A35
  replace A35 : Arv Z h33_ a7 k10 .char 19 [.int 116, .int 104, .int 101, .int 32, .int 116, .int 111, .int 103, .int 103, .int 0, .int 0, .int 0, .int 0, .int 0, .int 0, .int 0, .int 0, .int 0, .int 0, .int 0] (.int 0) := A35
  refine G.dup H33 D32_305 (J := 306) rfl rfl ?_
  refine G.bipush H33 D32_306 (J := 308) rfl (v := 8) rfl ?_
  refine G.bipush H33 D32_308 (J := 310) rfl (v := 108) rfl ?_
  refine G.stC H33 A35 (by decide) (i := 8) rfl lB na7 (y := 108) rfl D32_310 (J := 311) rfl ?_
  intro T36 h36_ H36 W37 A38
  replace A38 : Arv Z h36_ a7 k10 .char 19 [.int 116, .int 104, .int 101, .int 32, .int 116, .int 111, .int 103, .int 103, .int 108, .int 0, .int 0, .int 0, .int 0, .int 0, .int 0, .int 0, .int 0, .int 0, .int 0] (.int 0) := A38
  refine G.dup H36 D32_311 (J := 312) rfl rfl ?_
  refine G.bipush H36 D32_312 (J := 314) rfl (v := 9) rfl ?_
  refine G.bipush H36 D32_314 (J := 316) rfl (v := 101) rfl ?_
  refine G.stC H36 A38 (by decide) (i := 9) rfl lB na7 (y := 101) rfl D32_316 (J := 317) rfl ?_
  intro T39 h39_ H39 W40 A41
  replace A41 : Arv Z h39_ a7 k10 .char 19 [.int 116, .int 104, .int 101, .int 32, .int 116, .int 111, .int 103, .int 103, .int 108, .int 101, .int 0, .int 0, .int 0, .int 0, .int 0, .int 0, .int 0, .int 0, .int 0] (.int 0) := A41
  refine G.dup H39 D32_317 (J := 318) rfl rfl ?_
  refine G.bipush H39 D32_318 (J := 320) rfl (v := 10) rfl ?_
  refine G.bipush H39 D32_320 (J := 322) rfl (v := 32) rfl ?_
  refine G.stC H39 A41 (by decide) (i := 10) rfl lB na7 (y := 32) rfl D32_322 (J := 323) rfl ?_
  intro T42 h42_ H42 W43 A44
  replace A44 : Arv Z h42_ a7 k10 .char 19 [.int 116, .int 104, .int 101, .int 32, .int 116, .int 111, .int 103, .int 103, .int 108, .int 101, .int 32, .int 0, .int 0, .int 0, .int 0, .int 0, .int 0, .int 0, .int 0] (.int 0) := A44
  refine G.dup H42 D32_323 (J := 324) rfl rfl ?_
  refine G.bipush H42 D32_324 (J := 326) rfl (v := 11) rfl ?_
  refine G.bipush H42 D32_326 (J := 328) rfl (v := 111) rfl ?_
  refine G.stC H42 A44 (by decide) (i := 11) rfl lB na7 (y := 111) rfl D32_328 (J := 329) rfl ?_
  intro T45 h45_ H45 W46 A47
  replace A47 : Arv Z h45_ a7 k10 .char 19 [.int 116, .int 104, .int 101, .int 32, .int 116, .int 111, .int 103, .int 103, .int 108, .int 101, .int 32, .int 111, .int 0, .int 0, .int 0, .int 0, .int 0, .int 0, .int 0] (.int 0) := A47
  refine G.dup H45 D32_329 (J := 330) rfl rfl ?_
  refine G.bipush H45 D32_330 (J := 332) rfl (v := 12) rfl ?_
  refine G.bipush H45 D32_332 (J := 334) rfl (v := 102) rfl ?_
  refine G.stC H45 A47 (by decide) (i := 12) rfl lB na7 (y := 102) rfl D32_334 (J := 335) rfl ?_
  intro T48 h48_ H48 W49 A50
  replace A50 : Arv Z h48_ a7 k10 .char 19 [.int 116, .int 104, .int 101, .int 32, .int 116, .int 111, .int 103, .int 103, .int 108, .int 101, .int 32, .int 111, .int 102, .int 0, .int 0, .int 0, .int 0, .int 0, .int 0] (.int 0) := A50
  refine G.dup H48 D32_335 (J := 336) rfl rfl ?_
  refine G.bipush H48 D32_336 (J := 338) rfl (v := 13) rfl ?_
  refine G.bipush H48 D32_338 (J := 340) rfl (v := 32) rfl ?_
  refine G.stC H48 A50 (by decide) (i := 13) rfl lB na7 (y := 32) rfl D32_340 (J := 341) rfl ?_
  intro T51 h51_ H51 W52 A53
  replace A53 : Arv Z h51_ a7 k10 .char 19 [.int 116, .int 104, .int 101, .int 32, .int 116, .int 111, .int 103, .int 103, .int 108, .int 101, .int 32, .int 111, .int 102, .int 32, .int 0, .int 0, .int 0, .int 0, .int 0] (.int 0) := A53
  refine G.dup H51 D32_341 (J := 342) rfl rfl ?_
  refine G.bipush H51 D32_342 (J := 344) rfl (v := 14) rfl ?_
  refine G.bipush H51 D32_344 (J := 346) rfl (v := 107) rfl ?_
  refine G.stC H51 A53 (by decide) (i := 14) rfl lB na7 (y := 107) rfl D32_346 (J := 347) rfl ?_
  intro T54 h54_ H54 W55 A56
  replace A56 : Arv Z h54_ a7 k10 .char 19 [.int 116, .int 104, .int 101, .int 32, .int 116, .int 111, .int 103, .int 103, .int 108, .int 101, .int 32, .int 111, .int 102, .int 32, .int 107, .int 0, .int 0, .int 0, .int 0] (.int 0) := A56
  refine G.dup H54 D32_347 (J := 348) rfl rfl ?_
  refine G.bipush H54 D32_348 (J := 350) rfl (v := 15) rfl ?_
  refine G.bipush H54 D32_350 (J := 352) rfl (v := 101) rfl ?_
  refine G.stC H54 A56 (by decide) (i := 15) rfl lB na7 (y := 101) rfl D32_352 (J := 353) rfl ?_
  intro T57 h57_ H57 W58 A59
  replace A59 : Arv Z h57_ a7 k10 .char 19 [.int 116, .int 104, .int 101, .int 32, .int 116, .int 111, .int 103, .int 103, .int 108, .int 101, .int 32, .int 111, .int 102, .int 32, .int 107, .int 101, .int 0, .int 0, .int 0] (.int 0) := A59
  refine G.dup H57 D32_353 (J := 354) rfl rfl ?_
  refine G.bipush H57 D32_354 (J := 356) rfl (v := 16) rfl ?_
  refine G.bipush H57 D32_356 (J := 358) rfl (v := 121) rfl ?_
  refine G.stC H57 A59 (by decide) (i := 16) rfl lB na7 (y := 121) rfl D32_358 (J := 359) rfl ?_
  intro T60 h60_ H60 W61 A62
  replace A62 : Arv Z h60_ a7 k10 .char 19 [.int 116, .int 104, .int 101, .int 32, .int 116, .int 111, .int 103, .int 103, .int 108, .int 101, .int 32, .int 111, .int 102, .int 32, .int 107, .int 101, .int 121, .int 0, .int 0] (.int 0) := A62
  refine G.dup H60 D32_359 (J := 360) rfl rfl ?_
  refine G.bipush H60 D32_360 (J := 362) rfl (v := 17) rfl ?_
  refine G.bipush H60 D32_362 (J := 364) rfl (v := 32) rfl ?_
  refine G.stC H60 A62 (by decide) (i := 17) rfl lB na7 (y := 32) rfl D32_364 (J := 365) rfl ?_
  intro T63 h63_ H63 W64 A65
  replace A65 : Arv Z h63_ a7 k10 .char 19 [.int 116, .int 104, .int 101, .int 32, .int 116, .int 111, .int 103, .int 103, .int 108, .int 101, .int 32, .int 111, .int 102, .int 32, .int 107, .int 101, .int 121, .int 32, .int 0] (.int 0) := A65
  refine G.dup H63 D32_365 (J := 366) rfl rfl ?_
  refine G.bipush H63 D32_366 (J := 368) rfl (v := 18) rfl ?_
  refine G.iloadN H63 D32_368 (J := 369) rfl rfl ?_
  refine G.stC H63 A65 (by decide) (i := 18) rfl lB na7 (y := x0) (own_narC r0) D32_369 (J := 370) rfl ?_
  intro T66 h66_ H66 W67 A68
  replace A68 : Arv Z h66_ a7 k10 .char 19 [.int 116, .int 104, .int 101, .int 32, .int 116, .int 111, .int 103, .int 103, .int 108, .int 101, .int 32, .int 111, .int 102, .int 32, .int 107, .int 101, .int 121, .int 32, .int x0] (.int 0) := A68
  have K69 : Keep h1_ h66_ [] := (Keep.wr (Keep.wr (Keep.wr (Keep.wr (Keep.wr (Keep.wr (Keep.wr (Keep.wr (Keep.wr (Keep.wr (Keep.wr (Keep.wr (Keep.wr (Keep.wr (Keep.wr (Keep.wr (Keep.wr (Keep.wr (Keep.wr (Keep.ext (Keep.refl h1_ []) E8) W13 (Or.inr (Nat.le_of_eq ga7.symm))) W16 (Or.inr (Nat.le_of_eq ga7.symm))) W19 (Or.inr (Nat.le_of_eq ga7.symm))) W22 (Or.inr (Nat.le_of_eq ga7.symm))) W25 (Or.inr (Nat.le_of_eq ga7.symm))) W28 (Or.inr (Nat.le_of_eq ga7.symm))) W31 (Or.inr (Nat.le_of_eq ga7.symm))) W34 (Or.inr (Nat.le_of_eq ga7.symm))) W37 (Or.inr (Nat.le_of_eq ga7.symm))) W40 (Or.inr (Nat.le_of_eq ga7.symm))) W43 (Or.inr (Nat.le_of_eq ga7.symm))) W46 (Or.inr (Nat.le_of_eq ga7.symm))) W49 (Or.inr (Nat.le_of_eq ga7.symm))) W52 (Or.inr (Nat.le_of_eq ga7.symm))) W55 (Or.inr (Nat.le_of_eq ga7.symm))) W58 (Or.inr (Nat.le_of_eq ga7.symm))) W61 (Or.inr (Nat.le_of_eq ga7.symm))) W64 (Or.inr (Nat.le_of_eq ga7.symm))) W67 (Or.inr (Nat.le_of_eq ga7.symm)))
  have F70 := (Exa.keep A4 K69)
  have F71 : Fld Z h1_ a2 "java/lang/String" "value" "[B" .null := D5 (Or.inr (wd5 V)) (ty := (.array .byte)) (by decide)
  have F72 := (Fld.keep F71 K69 nin0)
  have F73 : Fld Z h1_ a2 "java/lang/String" "coder" "B" (.int 0) := D5 (Or.inr (wd6 V)) (ty := .byte) (by decide)
  have F74 := (Fld.keep F73 K69 nin0)
  refine G.newStr H66 (strw V) (wd3 V) (wd214 V) (wd215 V) (cs := [116, 104, 101, 32, 116, 111, 103, 103, 108, 101, 32, 111, 102, 32, 107, 101, 121, 32, x0]) (n := 19) na2 F70 F72 F74 A68 (hv9 V) (hv10 V) rfl rfl (by decide) (by decide) (cbS (by decide) (cbS (by decide) (cbS (by decide) (cbS (by decide) (cbS (by decide) (cbS (by decide) (cbS (by decide) (cbS (by decide) (cbS (by decide) (cbS (by decide) (cbS (by decide) (cbS (by decide) (cbS (by decide) (cbS (by decide) (cbS (by decide) (cbS (by decide) (cbS (by decide) (cbS (by decide) (cbS r1 cb0))))))))))))))))))) (Sf.mem (mG (i := 1) rfl)) (rest := [.ref a2]) (W := 1) rfl rfl D32_370 (J := 373) rfl (by decide) (by decide) (by decide) (by decide) ?_
  intro T75 h75_ t76 k77 g80 H75 K78 S79
  have nt76 : n0 ≤ t76 := Nat.le_trans H66.le g80
  have K81 : Keep h0 h1_ [] := (Keep.ext (Keep.refl h0 []) E3)
  have K82 : Keep h0 h75_ [] := (Keep.trans (Keep.wr (Keep.wr (Keep.wr (Keep.wr (Keep.wr (Keep.wr (Keep.wr (Keep.wr (Keep.wr (Keep.wr (Keep.wr (Keep.wr (Keep.wr (Keep.wr (Keep.wr (Keep.wr (Keep.wr (Keep.wr (Keep.wr (Keep.ext (Keep.ext (Keep.refl h0 []) E3) E8) W13 (Or.inr (Nat.le_trans K81.1 (Nat.le_of_eq ga7.symm)))) W16 (Or.inr (Nat.le_trans K81.1 (Nat.le_of_eq ga7.symm)))) W19 (Or.inr (Nat.le_trans K81.1 (Nat.le_of_eq ga7.symm)))) W22 (Or.inr (Nat.le_trans K81.1 (Nat.le_of_eq ga7.symm)))) W25 (Or.inr (Nat.le_trans K81.1 (Nat.le_of_eq ga7.symm)))) W28 (Or.inr (Nat.le_trans K81.1 (Nat.le_of_eq ga7.symm)))) W31 (Or.inr (Nat.le_trans K81.1 (Nat.le_of_eq ga7.symm)))) W34 (Or.inr (Nat.le_trans K81.1 (Nat.le_of_eq ga7.symm)))) W37 (Or.inr (Nat.le_trans K81.1 (Nat.le_of_eq ga7.symm)))) W40 (Or.inr (Nat.le_trans K81.1 (Nat.le_of_eq ga7.symm)))) W43 (Or.inr (Nat.le_trans K81.1 (Nat.le_of_eq ga7.symm)))) W46 (Or.inr (Nat.le_trans K81.1 (Nat.le_of_eq ga7.symm)))) W49 (Or.inr (Nat.le_trans K81.1 (Nat.le_of_eq ga7.symm)))) W52 (Or.inr (Nat.le_trans K81.1 (Nat.le_of_eq ga7.symm)))) W55 (Or.inr (Nat.le_trans K81.1 (Nat.le_of_eq ga7.symm)))) W58 (Or.inr (Nat.le_trans K81.1 (Nat.le_of_eq ga7.symm)))) W61 (Or.inr (Nat.le_trans K81.1 (Nat.le_of_eq ga7.symm)))) W64 (Or.inr (Nat.le_trans K81.1 (Nat.le_of_eq ga7.symm)))) W67 (Or.inr (Nat.le_trans K81.1 (Nat.le_of_eq ga7.symm)))) K78 (allS (Or.inr (Nat.le_of_eq ga2.symm)) all0))
  exact G.retA H75 (t := (.object "java/lang/String")) rfl rfl rfl D32_373 (so := [a2, t76]) (allS (mG (i := 2) rfl) (allS (mG (i := 0) rfl) all0)) (by decide) (by decide) ⟨a2, t76, k77, rfl, rfl, K82, (Nat.le_of_eq ga2.symm), (Nat.lt_of_lt_of_le (Nat.lt_of_lt_of_le A4.lt K69.1) g80), S79⟩
theorem cut111_96 (V : Env1 Z a0 n0 uu0 uu1 uu2 uu3 uu4) (x90096 : Int32) (x0 : Int32) (x1 : Int32) (x2 : Int32) (x3 : Int32) (p0 : Addr) (p1 : Addr) (p2 : Addr) (c0 : ClassId) (H : Hs p l e room_1 s m as' below meth c Z a0 ELs True x.cls n0 code maxLocals ret x.name T h0 4 10 []) (sp : x90096 = 0 ∨ x90096 = 1 ∨ x90096 = 2) (f1 : Exa Z h0 p0 "java/lang/String") (f2 : Fld Z h0 p0 "java/lang/String" "value" "[B" (.ref p2)) (f3 : Arv Z h0 p2 c0 .byte 1 [(.int ((x2 &&& 255).toInt8.toInt32))] (.int 0)) (f4 : Fld Z h0 p0 "java/lang/String" "coder" "B" (.int 0)) :
    Go p e below (FinP s below Z ELs True n0 room_1.cells room_1.slots (fun v h so => v = some (.int 1))) (T.setTop (mkF m 96 #[.val (.int x0), .val (.int x1), .val (.int x2), .val (.int x3), .val (.int x90096), .val (.int 1), .val (.int (x2 &&& 255)), .val (.int ((XT.ushr x2 8) &&& 255)), .val (.ref p0), .val (.ref p1), .unset, .unset, .unset, .unset] [])) := by
  rcases sp with rfl | rfl | rfl
  ·
    refine G.iload H at_96 (J := 98) rfl rfl ?_
    refine G.ifNo H at_98 (J := 101) rfl (by decide) ?_
    refine G.getS H (wd30 V) Via.refl (Sta.ext H.old.2 (hv2 V)) at_101 (J := 104) rfl ?_
    intro T1 H2
    refine G.astore H2 (L' := #[.val (.int x0), .val (.int x1), .val (.int x2), .val (.int x3), .val (.int 0), .val (.int 1), .val (.int (x2 &&& 255)), .val (.int ((XT.ushr x2 8) &&& 255)), .val (.ref p0), .val (.ref p1), .val (.ref uu1), .unset, .unset, .unset]) at_104 (J := 106) rfl rfl rfl ?_
    refine G.goto H2 at_106 (by decide) (J := 128) rfl ?_
    refine G.iload H2 at_128 (J := 130) rfl rfl ?_
    refine G.ifNo H2 at_130 (J := 133) rfl (by decide) ?_
    refine G.iloadN H2 at_133 (J := 134) rfl rfl ?_
    refine G.sipush H2 at_134 (J := 137) rfl (v := 256) rfl ?_
    refine G.iand H2 at_137 (J := 138) rfl ?_
    by_cases c3 : (x3 &&& 256) = 0
    ·
      refine G.ifYes H2 at_138 (XT.i0_eq_t c3) (by decide) (J := 145) rfl ?_
      refine G.aload H2 at_145 (J := 147) rfl rfl rfl ?_
      refine G.astore H2 (L' := #[.val (.int x0), .val (.int x1), .val (.int x2), .val (.int x3), .val (.int 0), .val (.int 1), .val (.int (x2 &&& 255)), .val (.int ((XT.ushr x2 8) &&& 255)), .val (.ref p0), .val (.ref p1), .val (.ref uu1), .val (.ref p0), .unset, .unset]) at_147 (J := 149) rfl rfl rfl ?_
      refine G.new H2 (wd33 V) (wd34 V) (wd35 V) at_149 (J := 152) rfl (by decide) (by decide) ?_
      intro T4 h4_ a5 ga5 H4 E6 A7 D8
      have na5 := H2.nle ga5
      refine G.dup H4 at_152 (J := 153) rfl rfl ?_
      refine G.aload H4 at_153 (J := 155) rfl rfl rfl ?_
      refine G.aload H4 at_155 (J := 157) rfl rfl rfl ?_
      refine G.aload H4 at_157 (J := 159) rfl rfl rfl ?_
      have F9 : Fld Z h4_ a5 "com/example/formboard/formboard/core/Board$Live" "part" "Lcom/example/formboard/formboard/core/Board$Part;" .null := D8 (Or.inr (wd52 V)) (ty := (.object "com/example/formboard/formboard/core/Board$Part")) (by decide)
      have F10 : Fld Z h4_ a5 "com/example/formboard/formboard/core/Board$Live" "key" "Ljava/lang/String;" .null := D8 (Or.inr (wd54 V)) (ty := (.object "java/lang/String")) (by decide)
      have F11 : Fld Z h4_ a5 "com/example/formboard/formboard/core/Board$Live" "form" "Ljava/lang/String;" .null := D8 (Or.inr (wd56 V)) (ty := (.object "java/lang/String")) (by decide)
      refine G.callI H4 (m8_init V a5 p0 p1 h4_ H4.old A7 F9 na5 F10 F11) rfl (wd36 V) (wd37 V) (wd35 V) (wd38 V) (by decide) (a := a5) (argsL := [.ref uu1, .ref p0, .ref p1]) (rest := [.ref a5]) (W := 1) rfl rfl (lenOf (pd_6) rfl) rfl rfl at_159 (J := 162) rfl (by decide) (by decide) (by decide) (by decide) all0 ?_
      intro T12 h12_ v13 s14 H12 Q15
      obtain ⟨rfl, rfl, K16, U17, F18, F19, F20, F21⟩ := Q15
      show Go p e below _ (T12.setTop (mkF m 162 _ [.ref a5]))
      refine G.astore H12 (L' := #[.val (.int x0), .val (.int x1), .val (.int x2), .val (.int x3), .val (.int 0), .val (.int 1), .val (.int (x2 &&& 255)), .val (.int ((XT.ushr x2 8) &&& 255)), .val (.ref p0), .val (.ref p1), .val (.ref uu1), .val (.ref p0), .val (.ref a5), .unset]) at_162 (J := 164) rfl rfl rfl ?_
      refine G.aload H12 at_164 (J := 166) rfl rfl rfl ?_
      refine G.callV H12 (m10_description V a5 h12_ H12.old F19) (wd57 V) (wd58 V) (nf_sel (wd60 V)) (wd60 V) (wd59 V) (wd35 V) (wd61 V) (by decide) F18 (argsL := []) (rest := []) (W := 0) rfl rfl (lenOf (pd_8) rfl) rfl rfl at_166 (J := 169) rfl (by decide) (by decide) (by decide) (by decide) all0 ?_
      intro T22 h22_ v23 s24 H22 Q25
      obtain ⟨a26, a27, k28, rfl, rfl, K29, F30⟩ := Q25
      show Go p e below _ (T22.setTop (mkF m 169 _ [.ref a26]))
      refine G.astore H22 (L' := #[.val (.int x0), .val (.int x1), .val (.int x2), .val (.int x3), .val (.int 0), .val (.int 1), .val (.int (x2 &&& 255)), .val (.int ((XT.ushr x2 8) &&& 255)), .val (.ref p0), .val (.ref p1), .val (.ref uu1), .val (.ref p0), .val (.ref a5), .val (.ref a26)]) at_169 (J := 171) rfl rfl rfl ?_
      refine G.aload H22 at_171 (J := 173) rfl rfl rfl ?_
      refine G.ifnullNo H22 at_173 (J := 176) rfl ?_
      refine G.aload H22 at_176 (J := 178) rfl rfl rfl ?_
      refine G.iload H22 at_178 (J := 180) rfl rfl ?_
      refine G.iload H22 at_180 (J := 182) rfl rfl ?_
      refine G.iload H22 at_182 (J := 184) rfl rfl ?_
      refine G.iload H22 at_184 (J := 186) rfl rfl ?_
      refine G.callS H22 (m73_expected V (x2 &&& 255) ((XT.ushr x2 8) &&& 255) h22_ H22.old) (wd72 V) (wd73 V) (wd74 V) (wd75 V) (by decide) (argsL := [.int 0, .int 1, (.int (x2 &&& 255)), (.int ((XT.ushr x2 8) &&& 255))]) (rest := [.ref a26]) (W := 1) rfl rfl (lenOf (pd_9) rfl) rfl rfl at_186 (J := 189) rfl (by decide) (by decide) (by decide) (by decide) all0 ?_
      intro T31 h31_ v32 s33 H31 Q34
      obtain ⟨a35, a36, k37, rfl, rfl, K38, F39⟩ := Q34
      show Go p e below _ (T31.setTop (mkF m 189 _ [.ref a35, .ref a26]))
      have F40 := (Str.keep F30 K38 nin0 nin0)
      refine G.strEq H31 (strwEq V) (wd3 V) (yc := "java/lang/String") (wd77 V) (by decide) (wd78 V) (nf_sel (wd80 V)) (wd80 V) (wd79 V) F40 F39 (hv9 V) (hv10 V) (rest := []) (W := 0) rfl rfl at_189 (J := 192) rfl (by decide) (by decide) (by decide) (by decide) ?_ ?_
      ·
        intro T41 H42 c43
        refine G.ifNo H42 at_192 (J := 195) rfl (by decide) ?_
        refine G.iconst H42 at_195 (J := 196) rfl (v := 1) rfl ?_
        refine G.goto H42 at_196 (by decide) (J := 200) rfl ?_
        exact G.retN H42 (t := .boolean) rfl (by decide) at_200 (so := []) all0 (by decide) (by decide) rfl
      ·
        intro T44 H45 c46
        exact absurd rfl c46
    ·
      refine G.ifNo H2 at_138 (J := 141) rfl (XT.i0_eq_f c3) ?_
      refine G.aconstNull H2 at_141 (J := 142) rfl ?_
      refine G.goto H2 at_142 (by decide) (J := 147) rfl ?_
      refine G.astore H2 (L' := #[.val (.int x0), .val (.int x1), .val (.int x2), .val (.int x3), .val (.int 0), .val (.int 1), .val (.int (x2 &&& 255)), .val (.int ((XT.ushr x2 8) &&& 255)), .val (.ref p0), .val (.ref p1), .val (.ref uu1), .val .null, .unset, .unset]) at_147 (J := 149) rfl rfl rfl ?_
      refine G.new H2 (wd33 V) (wd34 V) (wd35 V) at_149 (J := 152) rfl (by decide) (by decide) ?_
      intro T47 h47_ a48 ga48 H47 E49 A50 D51
      have na48 := H2.nle ga48
      refine G.dup H47 at_152 (J := 153) rfl rfl ?_
      refine G.aload H47 at_153 (J := 155) rfl rfl rfl ?_
      refine G.aload H47 at_155 (J := 157) rfl rfl rfl ?_
      refine G.aload H47 at_157 (J := 159) rfl rfl rfl ?_
      have F52 : Fld Z h47_ a48 "com/example/formboard/formboard/core/Board$Live" "part" "Lcom/example/formboard/formboard/core/Board$Part;" .null := D51 (Or.inr (wd52 V)) (ty := (.object "com/example/formboard/formboard/core/Board$Part")) (by decide)
      have F53 : Fld Z h47_ a48 "com/example/formboard/formboard/core/Board$Live" "key" "Ljava/lang/String;" .null := D51 (Or.inr (wd54 V)) (ty := (.object "java/lang/String")) (by decide)
      have F54 : Fld Z h47_ a48 "com/example/formboard/formboard/core/Board$Live" "form" "Ljava/lang/String;" .null := D51 (Or.inr (wd56 V)) (ty := (.object "java/lang/String")) (by decide)
      refine G.callI H47 (m12_init V a48 p1 h47_ H47.old A50 F52 na48 F53 F54) rfl (wd36 V) (wd37 V) (wd35 V) (wd38 V) (by decide) (a := a48) (argsL := [.ref uu1, .null, .ref p1]) (rest := [.ref a48]) (W := 1) rfl rfl (lenOf (pd_6) rfl) rfl rfl at_159 (J := 162) rfl (by decide) (by decide) (by decide) (by decide) all0 ?_
      intro T55 h55_ v56 s57 H55 Q58
      obtain ⟨rfl, rfl, K59, U60, F61, F62, F63, F64⟩ := Q58
      show Go p e below _ (T55.setTop (mkF m 162 _ [.ref a48]))
      refine G.astore H55 (L' := #[.val (.int x0), .val (.int x1), .val (.int x2), .val (.int x3), .val (.int 0), .val (.int 1), .val (.int (x2 &&& 255)), .val (.int ((XT.ushr x2 8) &&& 255)), .val (.ref p0), .val (.ref p1), .val (.ref uu1), .val .null, .val (.ref a48), .unset]) at_162 (J := 164) rfl rfl rfl ?_
      refine G.aload H55 at_164 (J := 166) rfl rfl rfl ?_
      refine G.callV H55 (m10_description V a48 h55_ H55.old F62) (wd57 V) (wd58 V) (nf_sel (wd60 V)) (wd60 V) (wd59 V) (wd35 V) (wd61 V) (by decide) F61 (argsL := []) (rest := []) (W := 0) rfl rfl (lenOf (pd_8) rfl) rfl rfl at_166 (J := 169) rfl (by decide) (by decide) (by decide) (by decide) all0 ?_
      intro T65 h65_ v66 s67 H65 Q68
      obtain ⟨a69, a70, k71, rfl, rfl, K72, F73⟩ := Q68
      show Go p e below _ (T65.setTop (mkF m 169 _ [.ref a69]))
      refine G.astore H65 (L' := #[.val (.int x0), .val (.int x1), .val (.int x2), .val (.int x3), .val (.int 0), .val (.int 1), .val (.int (x2 &&& 255)), .val (.int ((XT.ushr x2 8) &&& 255)), .val (.ref p0), .val (.ref p1), .val (.ref uu1), .val .null, .val (.ref a48), .val (.ref a69)]) at_169 (J := 171) rfl rfl rfl ?_
      refine G.aload H65 at_171 (J := 173) rfl rfl rfl ?_
      refine G.ifnullNo H65 at_173 (J := 176) rfl ?_
      refine G.aload H65 at_176 (J := 178) rfl rfl rfl ?_
      refine G.iload H65 at_178 (J := 180) rfl rfl ?_
      refine G.iload H65 at_180 (J := 182) rfl rfl ?_
      refine G.iload H65 at_182 (J := 184) rfl rfl ?_
      refine G.iload H65 at_184 (J := 186) rfl rfl ?_
      refine G.callS H65 (m73_expected V (x2 &&& 255) ((XT.ushr x2 8) &&& 255) h65_ H65.old) (wd72 V) (wd73 V) (wd74 V) (wd75 V) (by decide) (argsL := [.int 0, .int 1, (.int (x2 &&& 255)), (.int ((XT.ushr x2 8) &&& 255))]) (rest := [.ref a69]) (W := 1) rfl rfl (lenOf (pd_9) rfl) rfl rfl at_186 (J := 189) rfl (by decide) (by decide) (by decide) (by decide) all0 ?_
      intro T74 h74_ v75 s76 H74 Q77
      obtain ⟨a78, a79, k80, rfl, rfl, K81, F82⟩ := Q77
      show Go p e below _ (T74.setTop (mkF m 189 _ [.ref a78, .ref a69]))
      have F83 := (Str.keep F73 K81 nin0 nin0)
      refine G.strEq H74 (strwEq V) (wd3 V) (yc := "java/lang/String") (wd77 V) (by decide) (wd78 V) (nf_sel (wd80 V)) (wd80 V) (wd79 V) F83 F82 (hv9 V) (hv10 V) (rest := []) (W := 0) rfl rfl at_189 (J := 192) rfl (by decide) (by decide) (by decide) (by decide) ?_ ?_
      ·
        intro T84 H85 c86
        refine G.ifNo H85 at_192 (J := 195) rfl (by decide) ?_
        refine G.iconst H85 at_195 (J := 196) rfl (v := 1) rfl ?_
        refine G.goto H85 at_196 (by decide) (J := 200) rfl ?_
        exact G.retN H85 (t := .boolean) rfl (by decide) at_200 (so := []) all0 (by decide) (by decide) rfl
      ·
        intro T87 H88 c89
        exact absurd rfl c89
  ·
    refine G.iload H at_96 (J := 98) rfl rfl ?_
    refine G.ifYes H at_98 (by decide) (by decide) (J := 109) rfl ?_
    refine G.iload H at_109 (J := 111) rfl rfl ?_
    refine G.iconst H at_111 (J := 112) rfl (v := 1) rfl ?_
    refine G.icmpNo H at_112 (J := 115) rfl (by decide) ?_
    refine G.getS H (wd82 V) Via.refl (Sta.ext H.old.2 (hv0 V)) at_115 (J := 118) rfl ?_
    intro T90 H91
    refine G.astore H91 (L' := #[.val (.int x0), .val (.int x1), .val (.int x2), .val (.int x3), .val (.int 1), .val (.int 1), .val (.int (x2 &&& 255)), .val (.int ((XT.ushr x2 8) &&& 255)), .val (.ref p0), .val (.ref p1), .val (.ref uu0), .unset, .unset, .unset]) at_118 (J := 120) rfl rfl rfl ?_
    refine G.goto H91 at_120 (by decide) (J := 128) rfl ?_
    refine G.iload H91 at_128 (J := 130) rfl rfl ?_
    refine G.ifYes H91 at_130 (by decide) (by decide) (J := 145) rfl ?_
    refine G.aload H91 at_145 (J := 147) rfl rfl rfl ?_
    refine G.astore H91 (L' := #[.val (.int x0), .val (.int x1), .val (.int x2), .val (.int x3), .val (.int 1), .val (.int 1), .val (.int (x2 &&& 255)), .val (.int ((XT.ushr x2 8) &&& 255)), .val (.ref p0), .val (.ref p1), .val (.ref uu0), .val (.ref p0), .unset, .unset]) at_147 (J := 149) rfl rfl rfl ?_
    refine G.new H91 (wd33 V) (wd34 V) (wd35 V) at_149 (J := 152) rfl (by decide) (by decide) ?_
    intro T92 h92_ a93 ga93 H92 E94 A95 D96
    have na93 := H91.nle ga93
    refine G.dup H92 at_152 (J := 153) rfl rfl ?_
    refine G.aload H92 at_153 (J := 155) rfl rfl rfl ?_
    refine G.aload H92 at_155 (J := 157) rfl rfl rfl ?_
    refine G.aload H92 at_157 (J := 159) rfl rfl rfl ?_
    have F97 : Fld Z h92_ a93 "com/example/formboard/formboard/core/Board$Live" "part" "Lcom/example/formboard/formboard/core/Board$Part;" .null := D96 (Or.inr (wd52 V)) (ty := (.object "com/example/formboard/formboard/core/Board$Part")) (by decide)
    have F98 : Fld Z h92_ a93 "com/example/formboard/formboard/core/Board$Live" "key" "Ljava/lang/String;" .null := D96 (Or.inr (wd54 V)) (ty := (.object "java/lang/String")) (by decide)
    have F99 : Fld Z h92_ a93 "com/example/formboard/formboard/core/Board$Live" "form" "Ljava/lang/String;" .null := D96 (Or.inr (wd56 V)) (ty := (.object "java/lang/String")) (by decide)
    refine G.callI H92 (m14_init V a93 p0 p1 h92_ H92.old A95 F97 na93 F98 F99) rfl (wd36 V) (wd37 V) (wd35 V) (wd38 V) (by decide) (a := a93) (argsL := [.ref uu0, .ref p0, .ref p1]) (rest := [.ref a93]) (W := 1) rfl rfl (lenOf (pd_6) rfl) rfl rfl at_159 (J := 162) rfl (by decide) (by decide) (by decide) (by decide) all0 ?_
    intro T100 h100_ v101 s102 H100 Q103
    obtain ⟨rfl, rfl, K104, U105, F106, F107, F108, F109⟩ := Q103
    show Go p e below _ (T100.setTop (mkF m 162 _ [.ref a93]))
    refine G.astore H100 (L' := #[.val (.int x0), .val (.int x1), .val (.int x2), .val (.int x3), .val (.int 1), .val (.int 1), .val (.int (x2 &&& 255)), .val (.int ((XT.ushr x2 8) &&& 255)), .val (.ref p0), .val (.ref p1), .val (.ref uu0), .val (.ref p0), .val (.ref a93), .unset]) at_162 (J := 164) rfl rfl rfl ?_
    refine G.aload H100 at_164 (J := 166) rfl rfl rfl ?_
    have K110 : Keep h0 h100_ [] := (Keep.trans (Keep.ext (Keep.refl h0 []) E94) K104 (allS (Or.inr (Nat.le_of_eq ga93.symm)) all0))
    have F111 := (Exa.keep f1 K110)
    have F112 := (Fld.keep f2 K110 nin0)
    have F113 := (Arv.keep f3 K110 nin0)
    have F114 := (Fld.keep f4 K110 nin0)
    refine G.callV H100 (m93_description V a93 p0 p2 c0 ((x2 &&& 255).toInt8.toInt32) h100_ H100.old F107 F108 F111 F112 F113 F114) (wd57 V) (wd58 V) (nf_sel (wd60 V)) (wd60 V) (wd59 V) (wd35 V) (wd61 V) (by decide) F106 (argsL := []) (rest := []) (W := 0) rfl rfl (lenOf (pd_8) rfl) rfl rfl at_166 (J := 169) rfl (by decide) (by decide) (by decide) (by decide) all0 ?_
    intro T115 h115_ v116 s117 H115 Q118
    obtain ⟨a119, a120, k121, rfl, rfl, K122, g123, g124, F125, F126, F127, F128, F129⟩ := Q118
    have na119 : n0 ≤ a119 := Nat.le_trans H100.le g123
    have na120 : n0 ≤ a120 := Nat.le_trans H100.le (Nat.le_of_lt (Nat.lt_of_le_of_lt g123 g124))
    show Go p e below _ (T115.setTop (mkF m 169 _ [.ref a119]))
    refine G.astore H115 (L' := #[.val (.int x0), .val (.int x1), .val (.int x2), .val (.int x3), .val (.int 1), .val (.int 1), .val (.int (x2 &&& 255)), .val (.int ((XT.ushr x2 8) &&& 255)), .val (.ref p0), .val (.ref p1), .val (.ref uu0), .val (.ref p0), .val (.ref a93), .val (.ref a119)]) at_169 (J := 171) rfl rfl rfl ?_
    refine G.aload H115 at_171 (J := 173) rfl rfl rfl ?_
    refine G.ifnullNo H115 at_173 (J := 176) rfl ?_
    refine G.aload H115 at_176 (J := 178) rfl rfl rfl ?_
    refine G.iload H115 at_178 (J := 180) rfl rfl ?_
    refine G.iload H115 at_180 (J := 182) rfl rfl ?_
    refine G.iload H115 at_182 (J := 184) rfl rfl ?_
    refine G.iload H115 at_184 (J := 186) rfl rfl ?_
    refine G.callS H115 (m94_expected V (x2 &&& 255) ((XT.ushr x2 8) &&& 255) h115_ H115.old (own_u16 (own_and255 _)) (own_and255 _)) (wd72 V) (wd73 V) (wd74 V) (wd75 V) (by decide) (argsL := [.int 1, .int 1, (.int (x2 &&& 255)), (.int ((XT.ushr x2 8) &&& 255))]) (rest := [.ref a119]) (W := 1) rfl rfl (lenOf (pd_9) rfl) rfl rfl at_186 (J := 189) rfl (by decide) (by decide) (by decide) (by decide) all0 ?_
    intro T130 h130_ v131 s132 H130 Q133
    obtain ⟨a134, a135, k136, rfl, rfl, K137, g138, g139, F140⟩ := Q133
    have na134 : n0 ≤ a134 := Nat.le_trans H115.le g138
    have na135 : n0 ≤ a135 := Nat.le_trans H115.le (Nat.le_of_lt (Nat.lt_of_le_of_lt g138 g139))
    show Go p e below _ (T130.setTop (mkF m 189 _ [.ref a134, .ref a119]))
    have F141 := (Exa.keep F125 K137)
    have F142 := (Fld.keep F126 K137 nin0)
    have F143 := (Fld.keep F127 K137 nin0)
    have F144 := (Arv.keep F128 K137 nin0)
    have S145 : Str Z h130_ a119 a120 k121 [116, 104, 101, 32, 104, 105, 110, 116, 32, 111, 102, 32, 107, 101, 121, 32, (x2 &&& 255)] := ⟨F141, F142, F143, F144, (cbS (by decide) (cbS (by decide) (cbS (by decide) (cbS (by decide) (cbS (by decide) (cbS (by decide) (cbS (by decide) (cbS (by decide) (cbS (by decide) (cbS (by decide) (cbS (by decide) (cbS (by decide) (cbS (by decide) (cbS (by decide) (cbS (by decide) (cbS (by decide) (cbS (own_and255 _) cb0))))))))))))))))), Nat.le_of_ble_eq_true rfl⟩
    refine G.strEq H130 (strwEq V) (wd3 V) (yc := "java/lang/String") (wd77 V) (by decide) (wd78 V) (nf_sel (wd80 V)) (wd80 V) (wd79 V) S145 F140 (hv9 V) (hv10 V) (rest := []) (W := 0) rfl rfl at_189 (J := 192) rfl (by decide) (by decide) (by decide) (by decide) ?_ ?_
    ·
      intro T146 H147 c148
      refine G.ifNo H147 at_192 (J := 195) rfl (by decide) ?_
      refine G.iconst H147 at_195 (J := 196) rfl (v := 1) rfl ?_
      refine G.goto H147 at_196 (by decide) (J := 200) rfl ?_
      exact G.retN H147 (t := .boolean) rfl (by decide) at_200 (so := []) all0 (by decide) (by decide) rfl
    ·
      intro T149 H150 c151
      exact absurd rfl c151
  ·
    refine G.iload H at_96 (J := 98) rfl rfl ?_
    refine G.ifYes H at_98 (by decide) (by decide) (J := 109) rfl ?_
    refine G.iload H at_109 (J := 111) rfl rfl ?_
    refine G.iconst H at_111 (J := 112) rfl (v := 1) rfl ?_
    refine G.icmpYes H at_112 (by decide) (by decide) (J := 123) rfl ?_
    refine G.getS H (wd233 V) Via.refl (Sta.ext H.old.2 (hv4 V)) at_123 (J := 126) rfl ?_
    intro T152 H153
    refine G.astore H153 (L' := #[.val (.int x0), .val (.int x1), .val (.int x2), .val (.int x3), .val (.int 2), .val (.int 1), .val (.int (x2 &&& 255)), .val (.int ((XT.ushr x2 8) &&& 255)), .val (.ref p0), .val (.ref p1), .val (.ref uu2), .unset, .unset, .unset]) at_126 (J := 128) rfl rfl rfl ?_
    refine G.iload H153 at_128 (J := 130) rfl rfl ?_
    refine G.ifYes H153 at_130 (by decide) (by decide) (J := 145) rfl ?_
    refine G.aload H153 at_145 (J := 147) rfl rfl rfl ?_
    refine G.astore H153 (L' := #[.val (.int x0), .val (.int x1), .val (.int x2), .val (.int x3), .val (.int 2), .val (.int 1), .val (.int (x2 &&& 255)), .val (.int ((XT.ushr x2 8) &&& 255)), .val (.ref p0), .val (.ref p1), .val (.ref uu2), .val (.ref p0), .unset, .unset]) at_147 (J := 149) rfl rfl rfl ?_
    refine G.new H153 (wd33 V) (wd34 V) (wd35 V) at_149 (J := 152) rfl (by decide) (by decide) ?_
    intro T154 h154_ a155 ga155 H154 E156 A157 D158
    have na155 := H153.nle ga155
    refine G.dup H154 at_152 (J := 153) rfl rfl ?_
    refine G.aload H154 at_153 (J := 155) rfl rfl rfl ?_
    refine G.aload H154 at_155 (J := 157) rfl rfl rfl ?_
    refine G.aload H154 at_157 (J := 159) rfl rfl rfl ?_
    have F159 : Fld Z h154_ a155 "com/example/formboard/formboard/core/Board$Live" "part" "Lcom/example/formboard/formboard/core/Board$Part;" .null := D158 (Or.inr (wd52 V)) (ty := (.object "com/example/formboard/formboard/core/Board$Part")) (by decide)
    have F160 : Fld Z h154_ a155 "com/example/formboard/formboard/core/Board$Live" "key" "Ljava/lang/String;" .null := D158 (Or.inr (wd54 V)) (ty := (.object "java/lang/String")) (by decide)
    have F161 : Fld Z h154_ a155 "com/example/formboard/formboard/core/Board$Live" "form" "Ljava/lang/String;" .null := D158 (Or.inr (wd56 V)) (ty := (.object "java/lang/String")) (by decide)
    refine G.callI H154 (m43_init V a155 p0 p1 h154_ H154.old A157 F159 na155 F160 F161) rfl (wd36 V) (wd37 V) (wd35 V) (wd38 V) (by decide) (a := a155) (argsL := [.ref uu2, .ref p0, .ref p1]) (rest := [.ref a155]) (W := 1) rfl rfl (lenOf (pd_6) rfl) rfl rfl at_159 (J := 162) rfl (by decide) (by decide) (by decide) (by decide) all0 ?_
    intro T162 h162_ v163 s164 H162 Q165
    obtain ⟨rfl, rfl, K166, U167, F168, F169, F170, F171⟩ := Q165
    show Go p e below _ (T162.setTop (mkF m 162 _ [.ref a155]))
    refine G.astore H162 (L' := #[.val (.int x0), .val (.int x1), .val (.int x2), .val (.int x3), .val (.int 2), .val (.int 1), .val (.int (x2 &&& 255)), .val (.int ((XT.ushr x2 8) &&& 255)), .val (.ref p0), .val (.ref p1), .val (.ref uu2), .val (.ref p0), .val (.ref a155), .unset]) at_162 (J := 164) rfl rfl rfl ?_
    refine G.aload H162 at_164 (J := 166) rfl rfl rfl ?_
    have K172 : Keep h0 h162_ [] := (Keep.trans (Keep.ext (Keep.refl h0 []) E156) K166 (allS (Or.inr (Nat.le_of_eq ga155.symm)) all0))
    have F173 := (Exa.keep f1 K172)
    have F174 := (Fld.keep f2 K172 nin0)
    have F175 := (Arv.keep f3 K172 nin0)
    have F176 := (Fld.keep f4 K172 nin0)
    refine G.callV H162 (m109_description V a155 p0 p2 c0 ((x2 &&& 255).toInt8.toInt32) h162_ H162.old F169 F170 F173 F174 F175 F176) (wd57 V) (wd58 V) (nf_sel (wd60 V)) (wd60 V) (wd59 V) (wd35 V) (wd61 V) (by decide) F168 (argsL := []) (rest := []) (W := 0) rfl rfl (lenOf (pd_8) rfl) rfl rfl at_166 (J := 169) rfl (by decide) (by decide) (by decide) (by decide) all0 ?_
    intro T177 h177_ v178 s179 H177 Q180
    obtain ⟨a181, a182, k183, rfl, rfl, K184, g185, g186, F187, F188, F189, F190, F191⟩ := Q180
    have na181 : n0 ≤ a181 := Nat.le_trans H162.le g185
    have na182 : n0 ≤ a182 := Nat.le_trans H162.le (Nat.le_of_lt (Nat.lt_of_le_of_lt g185 g186))
    show Go p e below _ (T177.setTop (mkF m 169 _ [.ref a181]))
    refine G.astore H177 (L' := #[.val (.int x0), .val (.int x1), .val (.int x2), .val (.int x3), .val (.int 2), .val (.int 1), .val (.int (x2 &&& 255)), .val (.int ((XT.ushr x2 8) &&& 255)), .val (.ref p0), .val (.ref p1), .val (.ref uu2), .val (.ref p0), .val (.ref a155), .val (.ref a181)]) at_169 (J := 171) rfl rfl rfl ?_
    refine G.aload H177 at_171 (J := 173) rfl rfl rfl ?_
    refine G.ifnullNo H177 at_173 (J := 176) rfl ?_
    refine G.aload H177 at_176 (J := 178) rfl rfl rfl ?_
    refine G.iload H177 at_178 (J := 180) rfl rfl ?_
    refine G.iload H177 at_180 (J := 182) rfl rfl ?_
    refine G.iload H177 at_182 (J := 184) rfl rfl ?_
    refine G.iload H177 at_184 (J := 186) rfl rfl ?_
    refine G.callS H177 (m110_expected V (x2 &&& 255) ((XT.ushr x2 8) &&& 255) h177_ H177.old (own_u16 (own_and255 _)) (own_and255 _)) (wd72 V) (wd73 V) (wd74 V) (wd75 V) (by decide) (argsL := [.int 2, .int 1, (.int (x2 &&& 255)), (.int ((XT.ushr x2 8) &&& 255))]) (rest := [.ref a181]) (W := 1) rfl rfl (lenOf (pd_9) rfl) rfl rfl at_186 (J := 189) rfl (by decide) (by decide) (by decide) (by decide) all0 ?_
    intro T192 h192_ v193 s194 H192 Q195
    obtain ⟨a196, a197, k198, rfl, rfl, K199, g200, g201, F202⟩ := Q195
    have na196 : n0 ≤ a196 := Nat.le_trans H177.le g200
    have na197 : n0 ≤ a197 := Nat.le_trans H177.le (Nat.le_of_lt (Nat.lt_of_le_of_lt g200 g201))
    show Go p e below _ (T192.setTop (mkF m 189 _ [.ref a196, .ref a181]))
    have F203 := (Exa.keep F187 K199)
    have F204 := (Fld.keep F188 K199 nin0)
    have F205 := (Fld.keep F189 K199 nin0)
    have F206 := (Arv.keep F190 K199 nin0)
    have S207 : Str Z h192_ a181 a182 k183 [116, 104, 101, 32, 116, 111, 103, 103, 108, 101, 32, 111, 102, 32, 107, 101, 121, 32, (x2 &&& 255)] := ⟨F203, F204, F205, F206, (cbS (by decide) (cbS (by decide) (cbS (by decide) (cbS (by decide) (cbS (by decide) (cbS (by decide) (cbS (by decide) (cbS (by decide) (cbS (by decide) (cbS (by decide) (cbS (by decide) (cbS (by decide) (cbS (by decide) (cbS (by decide) (cbS (by decide) (cbS (by decide) (cbS (by decide) (cbS (by decide) (cbS (own_and255 _) cb0))))))))))))))))))), Nat.le_of_ble_eq_true rfl⟩
    refine G.strEq H192 (strwEq V) (wd3 V) (yc := "java/lang/String") (wd77 V) (by decide) (wd78 V) (nf_sel (wd80 V)) (wd80 V) (wd79 V) S207 F202 (hv9 V) (hv10 V) (rest := []) (W := 0) rfl rfl at_189 (J := 192) rfl (by decide) (by decide) (by decide) (by decide) ?_ ?_
    ·
      intro T208 H209 c210
      refine G.ifNo H209 at_192 (J := 195) rfl (by decide) ?_
      refine G.iconst H209 at_195 (J := 196) rfl (v := 1) rfl ?_
      refine G.goto H209 at_196 (by decide) (J := 200) rfl ?_
      exact G.retN H209 (t := .boolean) rfl (by decide) at_200 (so := []) all0 (by decide) (by decide) rfl
    ·
      intro T211 H212 c213
      exact absurd rfl c213
theorem m112_expected (V : Env1 Z a0 n0 uu0 uu1 uu2 uu3 uu4) (x0 : Int32) (x1 : Int32) (h0 : Heap) (hO : Old Z n0 h0)  :
    Met Z a0 ELs True n0 l ⟨"com/example/formboard/formboard/core/LiveDescriptionPinLaw", "expected", "(IICC)Ljava/lang/String;"⟩ method_3_code 4 (some (.object "java/lang/String")) ⟨0, 2, 40, 0⟩ #[.int 0, .int 2, .int x0, .int x1] h0 [] (fun v h so => (∃ a2 b4 : Addr, ∃ k5 : ClassId, v = some (.ref a2) ∧ so = [] ∧ Keep h0 h [] ∧ Str Z h a2 b4 k5 [116, 104, 101, 32, 116, 105, 116, 108, 101])) := by
  refine Met.of (EWl V) (by first | decide +kernel | rfl) hO (L0 := #[.val (.int 0), .val (.int 2), .val (.int x0), .val (.int x1)]) rfl ?_
  intro p e s m below meth c T H
  show Go p e below _ (T.setTop (mkF m 0 _ []))
  refine G.iloadN H D32_0 (J := 1) rfl rfl ?_
  refine G.ifNo H D32_1 (J := 4) rfl (by decide) ?_
  refine G.ldcS H trivial (wS V) (wd76 V) (by decide) (vs := [.int 116, .int 104, .int 101, .int 32, .int 116, .int 105, .int 116, .int 108, .int 101]) (z := 9) (by decide) (by decide) rfl (n := 36) (by decide) (by decide) (by decide) (by decide) D32_4 (J := 6) rfl ?_
  intro T1 h1_ a2 b4 k5 H1 E3 X6 F7 F8 A9 Q10
  have S11 : Str Z h1_ a2 b4 k5 [116, 104, 101, 32, 116, 105, 116, 108, 101] := ⟨X6, F7, F8, A9, by decide, by decide⟩
  have K12 : Keep h0 h1_ [] := (Keep.ext (Keep.refl h0 []) E3)
  exact G.retA H1 (t := (.object "java/lang/String")) rfl rfl rfl D32_6 (so := []) all0 (by decide) (by decide) ⟨a2, b4, k5, rfl, rfl, K12, S11⟩
theorem m113_length (V : Env1 Z a0 n0 uu0 uu1 uu2 uu3 uu4) (p0 : Addr) (p1 : Addr) (c0 : ClassId) (x0 : Int32) (x1 : Int32) (h0 : Heap) (hO : Old Z n0 h0) (f0 : Fld Z h0 p0 "java/lang/String" "value" "[B" (.ref p1)) (f1 : Arv Z h0 p1 c0 .byte 2 [.int x0, .int x1] (.int 0)) (f2 : Exa Z h0 p0 "java/lang/String") (f3 : Fld Z h0 p0 "java/lang/String" "coder" "B" (.int 0)) :
    Met Z a0 ELs True n0 l ⟨"java/lang/String", "length", "()I"⟩ jdk_42_method_54_code 1 (some .int) ⟨1, 0, 0, 13⟩ #[.ref p0] h0 [] (fun v h so => (v = some (.int 2) ∧ so = [] ∧ h0 = h)) := by
  refine Met.of (EWl V) (by first | decide +kernel | rfl) hO (L0 := #[.val (.ref p0)]) rfl ?_
  intro p e s m below meth c T H
  show Go p e below _ (T.setTop (mkF m 0 _ []))
  refine G.aloadN H D11_0 (J := 1) rfl rfl rfl ?_
  refine G.getF H (wd28 V) Via.refl f0 D11_1 (J := 4) rfl ?_
  intro T1 H2
  refine G.arrlen H2 f1 D11_4 (J := 5) rfl ?_
  refine G.aloadN H2 D11_5 (J := 6) rfl rfl rfl ?_
  refine G.callV H2 (m18_coder V p0 h0 H2.old f3) (wd118 V) (wd119 V) (nf_sel (wd121 V)) (wd121 V) (wd120 V) (wd2 V) (wd122 V) (by decide) f2 (argsL := []) (rest := [.int 2]) (W := 1) rfl rfl (lenOf (pd_11) rfl) rfl rfl D11_6 (J := 9) rfl (by decide) (by decide) (by decide) (by decide) all0 ?_
  intro T3 h3_ v4 s5 H3 Q6
  obtain ⟨rfl, rfl, rfl⟩ := Q6
  show Go p e below _ (T3.setTop (mkF m 9 _ [.int 0, .int 2]))
  refine G.ishr H3 D11_9 (J := 10) rfl ?_
  show Go p e below _ (T3.setTop (mkF m 10 _ [.int 2]))
  exact G.retI H3 rfl D11_10 (so := []) all0 (by decide) (by decide) ⟨rfl, rfl, rfl⟩
theorem m114_newCapacity (V : Env1 Z a0 n0 uu0 uu1 uu2 uu3 uu4) (p0 : Addr) (p1 : Addr) (c0 : ClassId) (h0 : Heap) (hO : Old Z n0 h0) (f0 : Fld Z h0 p0 "java/lang/AbstractStringBuilder" "value" "[B" (.ref p1)) (f1 : Arv Z h0 p1 c0 .byte 16 [.int 116, .int 104, .int 101, .int 32, .int 104, .int 105, .int 110, .int 116, .int 32, .int 111, .int 102, .int 32, .int 107, .int 101, .int 121, .int 32] (.int 0)) (f2 : Fld Z h0 p0 "java/lang/AbstractStringBuilder" "coder" "B" (.int 0)) :
    Met Z a0 ELs True n0 l ⟨"java/lang/AbstractStringBuilder", "newCapacity", "(I)I"⟩ jdk_68_method_10_code 6 (some .int) ⟨2, 0, 0, 29⟩ #[.ref p0, .int 18] h0 [] (fun v h so => (v = some (.int 34) ∧ so = [] ∧ h0 = h)) := by
  refine Met.of (EWl V) (by first | decide +kernel | rfl) hO (L0 := #[.val (.ref p0), .val (.int 18), .unset, .unset, .unset, .unset]) rfl ?_
  intro p e s m below meth c T H
  show Go p e below _ (T.setTop (mkF m 0 _ []))
  refine G.aloadN H D23_0 (J := 1) rfl rfl rfl ?_
  refine G.getF H (wd98 V) Via.refl f0 D23_1 (J := 4) rfl ?_
  intro T1 H2
  refine G.arrlen H2 f1 D23_4 (J := 5) rfl ?_
  refine G.istoreN H2 (L' := #[.val (.ref p0), .val (.int 18), .val (.int 16), .unset, .unset, .unset]) D23_5 (J := 6) rfl rfl ?_
  refine G.iloadN H2 D23_6 (J := 7) rfl rfl ?_
  refine G.aloadN H2 D23_7 (J := 8) rfl rfl rfl ?_
  refine G.getF H2 (wd100 V) Via.refl f2 D23_8 (J := 11) rfl ?_
  intro T3 H4
  refine G.ishl H4 D23_11 (J := 12) rfl ?_
  show Go p e below _ (T3.setTop (mkF m 12 _ [.int 18]))
  refine G.istoreN H4 (L' := #[.val (.ref p0), .val (.int 18), .val (.int 16), .val (.int 18), .unset, .unset]) D23_12 (J := 13) rfl rfl ?_
  refine G.iloadN H4 D23_13 (J := 14) rfl rfl ?_
  refine G.iloadN H4 D23_14 (J := 15) rfl rfl ?_
  refine G.isub H4 D23_15 (J := 16) rfl ?_
  show Go p e below _ (T3.setTop (mkF m 16 _ [.int 2]))
  refine G.istore H4 (L' := #[.val (.ref p0), .val (.int 18), .val (.int 16), .val (.int 18), .val (.int 2), .unset]) D23_16 (J := 18) rfl rfl ?_
  refine G.iloadN H4 D23_18 (J := 19) rfl rfl ?_
  refine G.iload H4 D23_19 (J := 21) rfl rfl ?_
  refine G.iloadN H4 D23_21 (J := 22) rfl rfl ?_
  refine G.iconst H4 D23_22 (J := 23) rfl (v := 2) rfl ?_
  refine G.aloadN H4 D23_23 (J := 24) rfl rfl rfl ?_
  refine G.getF H4 (wd100 V) Via.refl f2 D23_24 (J := 27) rfl ?_
  intro T5 H6
  refine G.ishl H6 D23_27 (J := 28) rfl ?_
  show Go p e below _ (T5.setTop (mkF m 28 _ [.int 2, .int 16, .int 2, .int 16]))
  refine G.iadd H6 D23_28 (J := 29) rfl ?_
  show Go p e below _ (T5.setTop (mkF m 29 _ [.int 18, .int 2, .int 16]))
  refine G.callS H6 (m47_newLength V h0 H6.old) (wd155 V) (wd156 V) (wd157 V) (wd158 V) (by decide) (argsL := [.int 16, .int 2, .int 18]) (rest := []) (W := 0) rfl rfl (lenOf (pd_23) rfl) rfl rfl D23_29 (J := 32) rfl (by decide) (by decide) (by decide) (by decide) all0 ?_
  intro T7 h7_ v8 s9 H7 Q10
  obtain ⟨rfl, rfl, rfl⟩ := Q10
  show Go p e below _ (T7.setTop (mkF m 32 _ [.int 34]))
  refine G.istore H7 (L' := #[.val (.ref p0), .val (.int 18), .val (.int 16), .val (.int 18), .val (.int 2), .val (.int 34)]) D23_32 (J := 34) rfl rfl ?_
  refine G.iload H7 D23_34 (J := 36) rfl rfl ?_
  refine G.ldcI H7 (wd164 V) D23_36 (J := 38) rfl ?_
  refine G.icmpYes H7 D23_38 (by decide) (by decide) (J := 51) rfl ?_
  refine G.iload H7 D23_51 (J := 53) rfl rfl ?_
  refine G.aloadN H7 D23_53 (J := 54) rfl rfl rfl ?_
  refine G.getF H7 (wd100 V) Via.refl f2 D23_54 (J := 57) rfl ?_
  intro T11 H12
  refine G.ishr H12 D23_57 (J := 58) rfl ?_
  show Go p e below _ (T11.setTop (mkF m 58 _ [.int 34]))
  exact G.retI H12 rfl D23_58 (so := []) all0 (by decide) (by decide) ⟨rfl, rfl, rfl⟩
theorem m115_ensureCapacityInternal (V : Env1 Z a0 n0 uu0 uu1 uu2 uu3 uu4) (p0 : Addr) (p1 : Addr) (c0 : ClassId) (h0 : Heap) (hO : Old Z n0 h0) (f0 : Fld Z h0 p0 "java/lang/AbstractStringBuilder" "value" "[B" (.ref p1)) (f1 : Arv Z h0 p1 c0 .byte 16 [.int 116, .int 104, .int 101, .int 32, .int 104, .int 105, .int 110, .int 116, .int 32, .int 111, .int 102, .int 32, .int 107, .int 101, .int 121, .int 32] (.int 0)) (f2 : Fld Z h0 p0 "java/lang/AbstractStringBuilder" "coder" "B" (.int 0)) (f3 : Exa Z h0 p0 "java/lang/StringBuilder") (g4 : n0 ≤ p0) :
    Met Z a0 ELs True n0 l ⟨"java/lang/AbstractStringBuilder", "ensureCapacityInternal", "(I)V"⟩ jdk_68_method_9_code 3 none ⟨3, 1, 34, 55⟩ #[.ref p0, .int 18] h0 [] (fun v h so => (∃ a17 : Addr, ∃ k18 : ClassId, v = none ∧ so = [a17] ∧ Keep h0 h [p0] ∧ h0.size ≤ a17 ∧ (∀ (O n d : String) (w : Value), Fld Z h0 p0 O n d w → RoadKit.slotOf Z O n d ≠ RoadKit.slotOf Z "java/lang/AbstractStringBuilder" "value" "[B" → Fld Z h p0 O n d w) ∧ Fld Z h p0 "java/lang/AbstractStringBuilder" "value" "[B" (.ref a17) ∧ Fld Z h p0 "java/lang/AbstractStringBuilder" "coder" "B" (.int 0) ∧ Exa Z h p0 "java/lang/StringBuilder" ∧ Arv Z h a17 k18 .byte 34 [.int 116, .int 104, .int 101, .int 32, .int 104, .int 105, .int 110, .int 116, .int 32, .int 111, .int 102, .int 32, .int 107, .int 101, .int 121, .int 32, .int 0, .int 0, .int 0, .int 0, .int 0, .int 0, .int 0, .int 0, .int 0, .int 0, .int 0, .int 0, .int 0, .int 0, .int 0, .int 0, .int 0, .int 0] (.int 0) ∧ Exa Z h a17 "[B")) := by
  refine Met.of (EWl V) (by first | decide +kernel | rfl) hO (L0 := #[.val (.ref p0), .val (.int 18), .unset]) rfl ?_
  intro p e s m below meth c T H
  show Go p e below _ (T.setTop (mkF m 0 _ []))
  refine G.aloadN H D31_0 (J := 1) rfl rfl rfl ?_
  refine G.getF H (wd98 V) Via.refl f0 D31_1 (J := 4) rfl ?_
  intro T1 H2
  refine G.arrlen H2 f1 D31_4 (J := 5) rfl ?_
  refine G.aloadN H2 D31_5 (J := 6) rfl rfl rfl ?_
  refine G.getF H2 (wd100 V) Via.refl f2 D31_6 (J := 9) rfl ?_
  intro T3 H4
  refine G.ishr H4 D31_9 (J := 10) rfl ?_
  show Go p e below _ (T3.setTop (mkF m 10 _ [.int 16]))
  refine G.istoreN H4 (L' := #[.val (.ref p0), .val (.int 18), .val (.int 16)]) D31_10 (J := 11) rfl rfl ?_
  refine G.iloadN H4 D31_11 (J := 12) rfl rfl ?_
  refine G.iloadN H4 D31_12 (J := 13) rfl rfl ?_
  refine G.isub H4 D31_13 (J := 14) rfl ?_
  show Go p e below _ (T3.setTop (mkF m 14 _ [.int 2]))
  refine G.ifNo H4 D31_14 (J := 17) rfl (by decide) ?_
  refine G.aloadN H4 D31_17 (J := 18) rfl rfl rfl ?_
  refine G.aloadN H4 D31_18 (J := 19) rfl rfl rfl ?_
  refine G.getF H4 (wd98 V) Via.refl f0 D31_19 (J := 22) rfl ?_
  intro T5 H6
  refine G.aloadN H6 D31_22 (J := 23) rfl rfl rfl ?_
  refine G.iloadN H6 D31_23 (J := 24) rfl rfl ?_
  refine G.callV H6 (m114_newCapacity V p0 p1 c0 h0 H6.old f0 f1 f2) (wd150 V) (decl_of (wd151 V) (wd154 V)) (nf_sel (wd153 V)) (wd153 V) (wd151 V) (wd94 V) (wd154 V) (by decide) f3 (argsL := [.int 18]) (rest := [.ref p1, .ref p0]) (W := 2) rfl rfl (lenOf (pd_24) rfl) rfl rfl D31_24 (J := 27) rfl (by decide) (by decide) (by decide) (by decide) all0 ?_
  intro T7 h7_ v8 s9 H7 Q10
  obtain ⟨rfl, rfl, rfl⟩ := Q10
  show Go p e below _ (T7.setTop (mkF m 27 _ [.int 34, .ref p1, .ref p0]))
  refine G.aloadN H7 D31_27 (J := 28) rfl rfl rfl ?_
  refine G.getF H7 (wd100 V) Via.refl f2 D31_28 (J := 31) rfl ?_
  intro T11 H12
  refine G.ishl H12 D31_31 (J := 32) rfl ?_
  show Go p e below _ (T11.setTop (mkF m 32 _ [.int 34, .ref p1, .ref p0]))
  refine G.callS H12 (m78_copyOf V p1 c0 h0 H12.old f1) (wd165 V) (wd166 V) (wd167 V) (wd168 V) (by decide) (argsL := [.ref p1, .int 34]) (rest := [.ref p0]) (W := 1) rfl rfl (lenOf (pd_25) rfl) rfl rfl D31_32 (J := 35) rfl (by decide) (by decide) (by decide) (by decide) all0 ?_
  intro T13 h13_ v14 s15 H13 Q16
  obtain ⟨a17, k18, rfl, rfl, K19, g20, F21, F22⟩ := Q16
  have na17 : n0 ≤ a17 := Nat.le_trans H7.le g20
  show Go p e below _ (T13.setTop (mkF m 35 _ [.ref a17, .ref p0]))
  have F23 := (Exa.keep f3 K19)
  have F24 := (Fld.keep f0 K19 nin0)
  refine G.putF H13 (wd98 V) Via.refl F24 F23 (Or.inl (wd99 V)) (wd85 V) (ty := (.array .byte)) (by decide) rfl rfl g4 (Sf.exa F23) D31_35 (J := 38) rfl ?_
  intro T25 h25_ H25 W26
  have F27 : Fld Z h25_ p0 "java/lang/AbstractStringBuilder" "value" "[B" (.ref a17) := Fld.same W26 F24
  have F28 := (Fld.other W26 (Fld.keep f2 K19 nin0) (Or.inr (slot_ne (Or.inl (wd101 V)) (Or.inl (wd99 V)) (by decide) (t := .byte) (t' := (.array .byte)) (by decide) (by decide))))
  have F29 := (Exa.wr W26 F23)
  have N30 : a17 ≠ p0 := Ne.symm (Exa.neArv (Exa.keep f3 K19) F21 (wd85 V))
  have F31 := (Arv.other F21 W26 N30)
  have F32 := (Exa.wr W26 F22)
  have K33 : Keep h0 h25_ [p0] := (Keep.wr (Keep.trans (Keep.refl h0 [p0]) K19 all0) W26 (Or.inl (mG (i := 0) rfl)))
  exact G.retV H25 rfl D31_38 (so := [a17]) (allS (mG (i := 0) rfl) all0) (by decide) (by decide) ⟨a17, k18, rfl, rfl, K33, g20, (fun O n d w F hn0 => (Fld.other W26 (Fld.keep F K19 nin0) (Or.inr hn0))), F27, F28, F29, F31, F32⟩
theorem m116_getBytes (V : Env1 Z a0 n0 uu0 uu1 uu2 uu3 uu4) (p0 : Addr) (p1 : Addr) (p2 : Addr) (c0 : ClassId) (x0 : Int32) (x1 : Int32) (c1 : ClassId) (h0 : Heap) (hO : Old Z n0 h0) (f0 : Exa Z h0 p0 "java/lang/String") (f1 : Fld Z h0 p0 "java/lang/String" "coder" "B" (.int 0)) (f2 : Fld Z h0 p0 "java/lang/String" "value" "[B" (.ref p2)) (f3 : Arv Z h0 p2 c0 .byte 2 [.int x0, .int x1] (.int 0)) (f4 : Arv Z h0 p1 c1 .byte 34 [.int 116, .int 104, .int 101, .int 32, .int 104, .int 105, .int 110, .int 116, .int 32, .int 111, .int 102, .int 32, .int 107, .int 101, .int 121, .int 32, .int 0, .int 0, .int 0, .int 0, .int 0, .int 0, .int 0, .int 0, .int 0, .int 0, .int 0, .int 0, .int 0, .int 0, .int 0, .int 0, .int 0, .int 0] (.int 0)) (g5 : n0 ≤ p1) :
    Met Z a0 ELs True n0 l ⟨"java/lang/String", "getBytes", "([BIB)V"⟩ jdk_42_method_147_code 4 none ⟨1, 0, 0, 40⟩ #[.ref p0, .ref p1, .int 16, .int 0] h0 [p1] (fun v h so => (v = none ∧ so = [] ∧ Keep h0 h [p1] ∧ Arv Z h p1 c1 .byte 34 [.int 116, .int 104, .int 101, .int 32, .int 104, .int 105, .int 110, .int 116, .int 32, .int 111, .int 102, .int 32, .int 107, .int 101, .int 121, .int 32, .int x0, .int x1, .int 0, .int 0, .int 0, .int 0, .int 0, .int 0, .int 0, .int 0, .int 0, .int 0, .int 0, .int 0, .int 0, .int 0, .int 0, .int 0] (.int 0))) := by
  refine Met.of (EWl V) (by first | decide +kernel | rfl) hO (L0 := #[.val (.ref p0), .val (.ref p1), .val (.int 16), .val (.int 0)]) rfl ?_
  intro p e s m below meth c T H
  show Go p e below _ (T.setTop (mkF m 0 _ []))
  refine G.aloadN H D6_0 (J := 1) rfl rfl rfl ?_
  refine G.callV H (m18_coder V p0 h0 H.old f1) (wd118 V) (wd119 V) (nf_sel (wd121 V)) (wd121 V) (wd120 V) (wd2 V) (wd122 V) (by decide) f0 (argsL := []) (rest := []) (W := 0) rfl rfl (lenOf (pd_11) rfl) rfl rfl D6_1 (J := 4) rfl (by decide) (by decide) (by decide) (by decide) all0 ?_
  intro T1 h1_ v2 s3 H1 Q4
  obtain ⟨rfl, rfl, rfl⟩ := Q4
  show Go p e below _ (T1.setTop (mkF m 4 _ [.int 0]))
  refine G.iloadN H1 D6_4 (J := 5) rfl rfl ?_
  refine G.icmpNo H1 D6_5 (J := 8) rfl (by decide) ?_
  refine G.aloadN H1 D6_8 (J := 9) rfl rfl rfl ?_
  refine G.getF H1 (wd28 V) Via.refl f2 D6_9 (J := 12) rfl ?_
  intro T5 H6
  refine G.iconst H6 D6_12 (J := 13) rfl (v := 0) rfl ?_
  refine G.aloadN H6 D6_13 (J := 14) rfl rfl rfl ?_
  refine G.iloadN H6 D6_14 (J := 15) rfl rfl ?_
  refine G.iloadN H6 D6_15 (J := 16) rfl rfl ?_
  refine G.ishl H6 D6_16 (J := 17) rfl ?_
  show Go p e below _ (T5.setTop (mkF m 17 _ [.int 16, .ref p1, .int 0, .ref p2]))
  refine G.aloadN H6 D6_17 (J := 18) rfl rfl rfl ?_
  refine G.getF H6 (wd28 V) Via.refl f2 D6_18 (J := 21) rfl ?_
  intro T7 H8
  refine G.arrlen H8 f3 D6_21 (J := 22) rfl ?_
  refine G.copy H8 (wd146 V) (wd149 V) (wd147 V) (wd148 V) f3 f4 (us := [.int x0, .int x1]) (Or.inl ⟨rfl, rfl⟩) (by decide) (by decide) (by decide) (by decide) (by decide) rfl lB (vr := [.int 116, .int 104, .int 101, .int 32, .int 104, .int 105, .int 110, .int 116, .int 32, .int 111, .int 102, .int 32, .int 107, .int 101, .int 121, .int 32, .int x0, .int x1, .int 0, .int 0, .int 0, .int 0, .int 0, .int 0, .int 0, .int 0, .int 0, .int 0, .int 0, .int 0, .int 0, .int 0, .int 0, .int 0]) rfl g5 (Sf.mem (mG (i := 0) rfl)) (st := []) (W := 0) rfl rfl D6_22 (J := 25) rfl (by decide) (by decide) ?_
  intro T9 h9_ H9 K10 A11
  refine G.goto H9 D6_25 (by decide) (J := 43) rfl ?_
  have K12 : Keep h0 h9_ [p1] := (Keep.trans (Keep.refl h0 [p1]) K10 (allS (Or.inl (mG (i := 0) rfl)) all0))
  exact G.retV H9 rfl D6_43 (so := []) all0 (by decide) (by decide) ⟨rfl, rfl, K12, A11⟩
theorem m117_putStringAt (V : Env1 Z a0 n0 uu0 uu1 uu2 uu3 uu4) (p0 : Addr) (p1 : Addr) (p2 : Addr) (p3 : Addr) (c0 : ClassId) (x0 : Int32) (x1 : Int32) (c1 : ClassId) (h0 : Heap) (hO : Old Z n0 h0) (f0 : Exa Z h0 p0 "java/lang/StringBuilder") (f1 : Fld Z h0 p0 "java/lang/AbstractStringBuilder" "coder" "B" (.int 0)) (f2 : Exa Z h0 p1 "java/lang/String") (f3 : Fld Z h0 p1 "java/lang/String" "coder" "B" (.int 0)) (f4 : Fld Z h0 p0 "java/lang/AbstractStringBuilder" "value" "[B" (.ref p2)) (f5 : Fld Z h0 p1 "java/lang/String" "value" "[B" (.ref p3)) (f6 : Arv Z h0 p3 c0 .byte 2 [.int x0, .int x1] (.int 0)) (f7 : Arv Z h0 p2 c1 .byte 34 [.int 116, .int 104, .int 101, .int 32, .int 104, .int 105, .int 110, .int 116, .int 32, .int 111, .int 102, .int 32, .int 107, .int 101, .int 121, .int 32, .int 0, .int 0, .int 0, .int 0, .int 0, .int 0, .int 0, .int 0, .int 0, .int 0, .int 0, .int 0, .int 0, .int 0, .int 0, .int 0, .int 0, .int 0] (.int 0)) (g8 : n0 ≤ p2) :
    Met Z a0 ELs True n0 l ⟨"java/lang/AbstractStringBuilder", "putStringAt", "(ILjava/lang/String;)V"⟩ jdk_68_method_73_code 3 none ⟨2, 0, 0, 55⟩ #[.ref p0, .int 16, .ref p1] h0 [p2] (fun v h so => (v = none ∧ so = [] ∧ Keep h0 h [p2] ∧ Arv Z h p2 c1 .byte 34 [.int 116, .int 104, .int 101, .int 32, .int 104, .int 105, .int 110, .int 116, .int 32, .int 111, .int 102, .int 32, .int 107, .int 101, .int 121, .int 32, .int x0, .int x1, .int 0, .int 0, .int 0, .int 0, .int 0, .int 0, .int 0, .int 0, .int 0, .int 0, .int 0, .int 0, .int 0, .int 0, .int 0, .int 0] (.int 0))) := by
  refine Met.of (EWl V) (by first | decide +kernel | rfl) hO (L0 := #[.val (.ref p0), .val (.int 16), .val (.ref p1)]) rfl ?_
  intro p e s m below meth c T H
  show Go p e below _ (T.setTop (mkF m 0 _ []))
  refine G.aloadN H D30_0 (J := 1) rfl rfl rfl ?_
  refine G.aloadN H D30_1 (J := 2) rfl rfl rfl ?_
  refine G.callV H (m21_inflateIfNeededFor V p0 p1 h0 H.old f1 f2 f3) (wd135 V) (decl_of (wd136 V) (wd139 V)) (nf_sel (wd138 V)) (wd138 V) (wd136 V) (wd94 V) (wd139 V) (by decide) f0 (argsL := [.ref p1]) (rest := []) (W := 0) rfl rfl (lenOf (pd_12) rfl) rfl rfl D30_2 (J := 5) rfl (by decide) (by decide) (by decide) (by decide) all0 ?_
  intro T1 h1_ v2 s3 H1 Q4
  obtain ⟨rfl, rfl, rfl⟩ := Q4
  show Go p e below _ (T1.setTop (mkF m 5 _ []))
  refine G.aloadN H1 D30_5 (J := 6) rfl rfl rfl ?_
  refine G.aloadN H1 D30_6 (J := 7) rfl rfl rfl ?_
  refine G.getF H1 (wd98 V) Via.refl f4 D30_7 (J := 10) rfl ?_
  intro T5 H6
  refine G.iloadN H6 D30_10 (J := 11) rfl rfl ?_
  refine G.aloadN H6 D30_11 (J := 12) rfl rfl rfl ?_
  refine G.getF H6 (wd100 V) Via.refl f1 D30_12 (J := 15) rfl ?_
  intro T7 H8
  refine G.callV H8 (m116_getBytes V p1 p2 p3 c0 x0 x1 c1 h0 H8.old f2 f3 f5 f6 f7 g8) (wd141 V) (wd142 V) (nf_sel (wd144 V)) (wd144 V) (wd143 V) (wd2 V) (wd145 V) (by decide) f2 (argsL := [.ref p2, .int 16, .int 0]) (rest := []) (W := 0) rfl rfl (lenOf (pd_13) rfl) rfl rfl D30_15 (J := 18) rfl (by decide) (by decide) (by decide) (by decide) (allS (mG (i := 0) rfl) all0) ?_
  intro T9 h9_ v10 s11 H9 Q12
  obtain ⟨rfl, rfl, K13, F14⟩ := Q12
  show Go p e below _ (T9.setTop (mkF m 18 _ []))
  have K15 : Keep h0 h9_ [p2] := (Keep.trans (Keep.refl h0 [p2]) K13 (allS (Or.inl (mG (i := 0) rfl)) all0))
  exact G.retV H9 rfl D30_18 (so := []) all0 (by decide) (by decide) ⟨rfl, rfl, K15, F14⟩
theorem m118_append (V : Env1 Z a0 n0 uu0 uu1 uu2 uu3 uu4) (p0 : Addr) (p1 : Addr) (p2 : Addr) (c0 : ClassId) (x0 : Int32) (x1 : Int32) (p3 : Addr) (c1 : ClassId) (h0 : Heap) (hO : Old Z n0 h0) (f0 : Exa Z h0 p1 "java/lang/String") (f1 : Fld Z h0 p1 "java/lang/String" "value" "[B" (.ref p2)) (f2 : Arv Z h0 p2 c0 .byte 2 [.int x0, .int x1] (.int 0)) (f3 : Fld Z h0 p1 "java/lang/String" "coder" "B" (.int 0)) (f4 : Fld Z h0 p0 "java/lang/AbstractStringBuilder" "count" "I" (.int 16)) (f5 : Exa Z h0 p0 "java/lang/StringBuilder") (f6 : Fld Z h0 p0 "java/lang/AbstractStringBuilder" "value" "[B" (.ref p3)) (f7 : Arv Z h0 p3 c1 .byte 16 [.int 116, .int 104, .int 101, .int 32, .int 104, .int 105, .int 110, .int 116, .int 32, .int 111, .int 102, .int 32, .int 107, .int 101, .int 121, .int 32] (.int 0)) (f8 : Fld Z h0 p0 "java/lang/AbstractStringBuilder" "coder" "B" (.int 0)) (g9 : n0 ≤ p0) :
    Met Z a0 ELs True n0 l ⟨"java/lang/AbstractStringBuilder", "append", "(Ljava/lang/String;)Ljava/lang/AbstractStringBuilder;"⟩ jdk_68_method_22_code 3 (some (.object "java/lang/AbstractStringBuilder")) ⟨4, 1, 34, 69⟩ #[.ref p0, .ref p1] h0 [] (fun v h so => (∃ a11 : Addr, ∃ k12 : ClassId, v = some (.ref p0) ∧ so = [a11] ∧ Keep h0 h [p0] ∧ h0.size ≤ a11 ∧ (∀ (O n d : String) (w : Value), Fld Z h0 p0 O n d w → RoadKit.slotOf Z O n d ≠ RoadKit.slotOf Z "java/lang/AbstractStringBuilder" "value" "[B" → RoadKit.slotOf Z O n d ≠ RoadKit.slotOf Z "java/lang/AbstractStringBuilder" "count" "I" → Fld Z h p0 O n d w) ∧ Fld Z h p0 "java/lang/AbstractStringBuilder" "count" "I" (.int 18) ∧ Exa Z h p0 "java/lang/StringBuilder" ∧ Fld Z h p0 "java/lang/AbstractStringBuilder" "value" "[B" (.ref a11) ∧ Fld Z h p0 "java/lang/AbstractStringBuilder" "coder" "B" (.int 0) ∧ Arv Z h a11 k12 .byte 34 [.int 116, .int 104, .int 101, .int 32, .int 104, .int 105, .int 110, .int 116, .int 32, .int 111, .int 102, .int 32, .int 107, .int 101, .int 121, .int 32, .int x0, .int x1, .int 0, .int 0, .int 0, .int 0, .int 0, .int 0, .int 0, .int 0, .int 0, .int 0, .int 0, .int 0, .int 0, .int 0, .int 0, .int 0] (.int 0) ∧ Exa Z h a11 "[B")) := by
  refine Met.of (EWl V) (by first | decide +kernel | rfl) hO (L0 := #[.val (.ref p0), .val (.ref p1), .unset]) rfl ?_
  intro p e s m below meth c T H
  show Go p e below _ (T.setTop (mkF m 0 _ []))
  refine G.aloadN H D24_0 (J := 1) rfl rfl rfl ?_
  refine G.ifnonnullYes H D24_1 (by decide) (J := 9) rfl ?_
  refine G.aloadN H D24_9 (J := 10) rfl rfl rfl ?_
  refine G.callV H (m113_length V p1 p2 c0 x0 x1 h0 H.old f1 f2 f0 f3) (wd113 V) (wd114 V) (nf_sel (wd116 V)) (wd116 V) (wd115 V) (wd2 V) (wd117 V) (by decide) f0 (argsL := []) (rest := []) (W := 0) rfl rfl (lenOf (pd_7) rfl) rfl rfl D24_10 (J := 13) rfl (by decide) (by decide) (by decide) (by decide) all0 ?_
  intro T1 h1_ v2 s3 H1 Q4
  obtain ⟨rfl, rfl, rfl⟩ := Q4
  show Go p e below _ (T1.setTop (mkF m 13 _ [.int 2]))
  refine G.istoreN H1 (L' := #[.val (.ref p0), .val (.ref p1), .val (.int 2)]) D24_13 (J := 14) rfl rfl ?_
  refine G.aloadN H1 D24_14 (J := 15) rfl rfl rfl ?_
  refine G.aloadN H1 D24_15 (J := 16) rfl rfl rfl ?_
  refine G.getF H1 (wd123 V) Via.refl f4 D24_16 (J := 19) rfl ?_
  intro T5 H6
  refine G.iloadN H6 D24_19 (J := 20) rfl rfl ?_
  refine G.iadd H6 D24_20 (J := 21) rfl ?_
  show Go p e below _ (T5.setTop (mkF m 21 _ [.int 18, .ref p0]))
  refine G.callV H6 (m115_ensureCapacityInternal V p0 p3 c1 h0 H6.old f6 f7 f8 f5 g9) (wd125 V) (decl_of (wd126 V) (wd129 V)) (nf_sel (wd128 V)) (wd128 V) (wd126 V) (wd94 V) (wd129 V) (by decide) f5 (argsL := [.int 18]) (rest := []) (W := 0) rfl rfl (lenOf (pd_10) rfl) rfl rfl D24_21 (J := 24) rfl (by decide) (by decide) (by decide) (by decide) all0 ?_
  intro T7 h7_ v8 s9 H7 Q10
  obtain ⟨a11, k12, rfl, rfl, K13, g14, U15, F16, F17, F18, F19, F20⟩ := Q10
  have na11 : n0 ≤ a11 := Nat.le_trans H1.le g14
  show Go p e below _ (T7.setTop (mkF m 24 _ []))
  refine G.aloadN H7 D24_24 (J := 25) rfl rfl rfl ?_
  refine G.aloadN H7 D24_25 (J := 26) rfl rfl rfl ?_
  have F21 := (U15 "java/lang/AbstractStringBuilder" "count" "I" (.int 16) f4 (slot_ne (Or.inl (wd124 V)) (Or.inl (wd99 V)) (by decide) (t := .int) (t' := (.array .byte)) (by decide) (by decide)))
  refine G.getF H7 (wd123 V) Via.refl F21 D24_26 (J := 29) rfl ?_
  intro T22 H23
  refine G.aloadN H23 D24_29 (J := 30) rfl rfl rfl ?_
  have F24 := (Exa.keep f0 K13)
  have N25 : p1 ≠ p0 := Exa.ne F24 F18 (by decide)
  have F26 := (Fld.keep f3 K13 (ninS N25 nin0))
  have F27 := (Fld.keep f1 K13 (ninS N25 nin0))
  have N28 : p2 ≠ p0 := Ne.symm (Exa.neArv f5 f2 (wd85 V))
  have F29 := (Arv.keep f2 K13 (ninS N28 nin0))
  refine G.callV H23 (m117_putStringAt V p0 p1 a11 p2 c0 x0 x1 k12 h7_ H23.old F18 F17 F24 F26 F16 F27 F29 F19 na11) (wd130 V) (decl_of (wd131 V) (wd134 V)) (nf_sel (wd133 V)) (wd133 V) (wd131 V) (wd94 V) (wd134 V) (by decide) F18 (argsL := [.int 16, .ref p1]) (rest := []) (W := 0) rfl rfl (lenOf (pd_14) rfl) rfl rfl D24_30 (J := 33) rfl (by decide) (by decide) (by decide) (by decide) (allS (mG (i := 0) rfl) all0) ?_
  intro T30 h30_ v31 s32 H30 Q33
  obtain ⟨rfl, rfl, K34, F35⟩ := Q33
  show Go p e below _ (T30.setTop (mkF m 33 _ []))
  refine G.aloadN H30 D24_33 (J := 34) rfl rfl rfl ?_
  refine G.dup H30 D24_34 (J := 35) rfl rfl ?_
  have N36 : p0 ≠ a11 := Exa.neArv (Exa.keep F18 K34) F35 (wd85 V)
  have F37 := (Fld.keep F21 K34 (ninS N36 nin0))
  refine G.getF H30 (wd123 V) Via.refl F37 D24_35 (J := 38) rfl ?_
  intro T38 H39
  refine G.iloadN H39 D24_38 (J := 39) rfl rfl ?_
  refine G.iadd H39 D24_39 (J := 40) rfl ?_
  show Go p e below _ (T38.setTop (mkF m 40 _ [.int 18, .ref p0]))
  have F40 := (Exa.keep F18 K34)
  refine G.putF H39 (wd123 V) Via.refl F37 F40 (Or.inl (wd124 V)) (wd85 V) (ty := .int) (by decide) rfl rfl g9 (Sf.exa F40) D24_40 (J := 43) rfl ?_
  intro T41 h41_ H41 W42
  have F43 : Fld Z h41_ p0 "java/lang/AbstractStringBuilder" "count" "I" (.int 18) := Fld.same W42 F37
  refine G.aloadN H41 D24_43 (J := 44) rfl rfl rfl ?_
  have F44 := (Exa.wr W42 F40)
  have F45 := (Fld.other W42 (Fld.keep F16 K34 (ninS N36 nin0)) (Or.inr (slot_ne (Or.inl (wd99 V)) (Or.inl (wd124 V)) (by decide) (t := (.array .byte)) (t' := .int) (by decide) (by decide))))
  have F46 := (Fld.other W42 (Fld.keep F17 K34 (ninS N36 nin0)) (Or.inr (slot_ne (Or.inl (wd101 V)) (Or.inl (wd124 V)) (by decide) (t := .byte) (t' := .int) (by decide) (by decide))))
  have F47 := (Arv.other F35 W42 (Ne.symm N36))
  have K48 : Keep h7_ h41_ [a11, p0] := (Keep.wr (Keep.trans (Keep.refl h7_ [a11, p0]) K34 (allS (Or.inl (mG (i := 0) rfl)) all0)) W42 (Or.inl (mG (i := 1) rfl)))
  have F49 := (Exa.keep F20 K48)
  have K50 : Keep h0 h41_ [p0] := (Keep.wr (Keep.trans (Keep.trans (Keep.refl h0 [p0]) K13 (allS (Or.inl (mG (i := 0) rfl)) all0)) K34 (allS (Or.inr g14) all0)) W42 (Or.inl (mG (i := 0) rfl)))
  exact G.retA H41 (t := (.object "java/lang/AbstractStringBuilder")) rfl rfl rfl D24_44 (so := [a11]) (allS (mG (i := 0) rfl) all0) (by decide) (by decide) ⟨a11, k12, rfl, rfl, K50, g14, (fun O n d w F hn0 hn1 => (Fld.other W42 (Fld.keep (U15 O n d w F hn0) K34 (ninS N36 nin0)) (Or.inr hn1))), F43, F44, F45, F46, F47, F49⟩
theorem m119_append (V : Env1 Z a0 n0 uu0 uu1 uu2 uu3 uu4) (p0 : Addr) (p1 : Addr) (p2 : Addr) (c0 : ClassId) (x0 : Int32) (x1 : Int32) (p3 : Addr) (c1 : ClassId) (h0 : Heap) (hO : Old Z n0 h0) (f0 : Exa Z h0 p1 "java/lang/String") (f1 : Fld Z h0 p1 "java/lang/String" "value" "[B" (.ref p2)) (f2 : Arv Z h0 p2 c0 .byte 2 [.int x0, .int x1] (.int 0)) (f3 : Fld Z h0 p1 "java/lang/String" "coder" "B" (.int 0)) (f4 : Fld Z h0 p0 "java/lang/AbstractStringBuilder" "count" "I" (.int 16)) (f5 : Exa Z h0 p0 "java/lang/StringBuilder") (f6 : Fld Z h0 p0 "java/lang/AbstractStringBuilder" "value" "[B" (.ref p3)) (f7 : Arv Z h0 p3 c1 .byte 16 [.int 116, .int 104, .int 101, .int 32, .int 104, .int 105, .int 110, .int 116, .int 32, .int 111, .int 102, .int 32, .int 107, .int 101, .int 121, .int 32] (.int 0)) (f8 : Fld Z h0 p0 "java/lang/AbstractStringBuilder" "coder" "B" (.int 0)) (g9 : n0 ≤ p0) :
    Met Z a0 ELs True n0 l ⟨"java/lang/StringBuilder", "append", "(Ljava/lang/String;)Ljava/lang/StringBuilder;"⟩ jdk_67_method_7_code 2 (some (.object "java/lang/StringBuilder")) ⟨5, 1, 34, 83⟩ #[.ref p0, .ref p1] h0 [] (fun v h so => (∃ a5 : Addr, ∃ k6 : ClassId, v = some (.ref p0) ∧ so = [a5] ∧ Keep h0 h [p0] ∧ h0.size ≤ a5 ∧ (∀ (O n d : String) (w : Value), Fld Z h0 p0 O n d w → RoadKit.slotOf Z O n d ≠ RoadKit.slotOf Z "java/lang/AbstractStringBuilder" "value" "[B" → RoadKit.slotOf Z O n d ≠ RoadKit.slotOf Z "java/lang/AbstractStringBuilder" "count" "I" → Fld Z h p0 O n d w) ∧ Fld Z h p0 "java/lang/AbstractStringBuilder" "count" "I" (.int 18) ∧ Exa Z h p0 "java/lang/StringBuilder" ∧ Fld Z h p0 "java/lang/AbstractStringBuilder" "value" "[B" (.ref a5) ∧ Fld Z h p0 "java/lang/AbstractStringBuilder" "coder" "B" (.int 0) ∧ Arv Z h a5 k6 .byte 34 [.int 116, .int 104, .int 101, .int 32, .int 104, .int 105, .int 110, .int 116, .int 32, .int 111, .int 102, .int 32, .int 107, .int 101, .int 121, .int 32, .int x0, .int x1, .int 0, .int 0, .int 0, .int 0, .int 0, .int 0, .int 0, .int 0, .int 0, .int 0, .int 0, .int 0, .int 0, .int 0, .int 0, .int 0] (.int 0) ∧ Exa Z h a5 "[B")) := by
  refine Met.of (EWl V) (by first | decide +kernel | rfl) hO (L0 := #[.val (.ref p0), .val (.ref p1)]) rfl ?_
  intro p e s m below meth c T H
  show Go p e below _ (T.setTop (mkF m 0 _ []))
  refine G.aloadN H D21_0 (J := 1) rfl rfl rfl ?_
  refine G.aloadN H D21_1 (J := 2) rfl rfl rfl ?_
  refine G.callSup H (m118_append V p0 p1 p2 c0 x0 x1 p3 c1 h0 H.old f0 f1 f2 f3 f4 f5 f6 f7 f8 g9) (wd108 V) (same_of (wd111 V) (wd128 V) rfl (by decide)) (wd109 V) (wd110 V) (by decide) (wd94 V) (wd112 V) (a := p0) (Ins.self f5) (argsL := [.ref p1]) (rest := []) (W := 0) rfl rfl (lenOf (pd_15) rfl) rfl rfl D21_2 (J := 5) rfl (by decide) (by decide) (by decide) (by decide) all0 ?_
  intro T1 h1_ v2 s3 H1 Q4
  obtain ⟨a5, k6, rfl, rfl, K7, g8, U9, F10, F11, F12, F13, F14, F15⟩ := Q4
  have na5 : n0 ≤ a5 := Nat.le_trans H.le g8
  show Go p e below _ (T1.setTop (mkF m 5 _ [.ref p0]))
  refine G.pop H1 D21_5 (J := 6) rfl rfl ?_
  refine G.aloadN H1 D21_6 (J := 7) rfl rfl rfl ?_
  have K16 : Keep h0 h1_ [p0] := (Keep.trans (Keep.refl h0 [p0]) K7 (allS (Or.inl (mG (i := 0) rfl)) all0))
  exact G.retA H1 (t := (.object "java/lang/StringBuilder")) rfl rfl rfl D21_7 (so := [a5]) (allS (mG (i := 0) rfl) all0) (by decide) (by decide) ⟨a5, k6, rfl, rfl, K16, g8, (fun O n d w F hn0 hn1 => (U9 O n d w F hn0 hn1)), F10, F11, F12, F13, F14, F15⟩
theorem m120_copyOfRangeByte (V : Env1 Z a0 n0 uu0 uu1 uu2 uu3 uu4) (p0 : Addr) (c0 : ClassId) (x0 : Int32) (x1 : Int32) (h0 : Heap) (hO : Old Z n0 h0) (f0 : Arv Z h0 p0 c0 .byte 34 [.int 116, .int 104, .int 101, .int 32, .int 104, .int 105, .int 110, .int 116, .int 32, .int 111, .int 102, .int 32, .int 107, .int 101, .int 121, .int 32, .int x0, .int x1, .int 0, .int 0, .int 0, .int 0, .int 0, .int 0, .int 0, .int 0, .int 0, .int 0, .int 0, .int 0, .int 0, .int 0, .int 0, .int 0] (.int 0)) :
    Met Z a0 ELs True n0 l ⟨"java/util/Arrays", "copyOfRangeByte", "([BII)[B"⟩ jdk_65_method_133_code 5 (some (.array .byte)) ⟨1, 1, 18, 40⟩ #[.ref p0, .int 0, .int 18] h0 [] (fun v h so => (∃ a6 : Addr, ∃ k9 : ClassId, v = some (.ref a6) ∧ so = [a6] ∧ Keep h0 h [] ∧ h0.size ≤ a6 ∧ Arv Z h a6 k9 .byte 18 [.int 116, .int 104, .int 101, .int 32, .int 104, .int 105, .int 110, .int 116, .int 32, .int 111, .int 102, .int 32, .int 107, .int 101, .int 121, .int 32, .int x0, .int x1] (.int 0) ∧ Exa Z h a6 "[B")) := by
  refine Met.of (EWl V) (by first | decide +kernel | rfl) hO (L0 := #[.val (.ref p0), .val (.int 0), .val (.int 18), .unset, .unset]) rfl ?_
  intro p e s m below meth c T H
  show Go p e below _ (T.setTop (mkF m 0 _ []))
  refine G.iloadN H D18_0 (J := 1) rfl rfl ?_
  refine G.iloadN H D18_1 (J := 2) rfl rfl ?_
  refine G.callS H (m63_checkLength V h0 H.old) (wd209 V) (wd210 V) (wd167 V) (wd211 V) (by decide) (argsL := [.int 0, .int 18]) (rest := []) (W := 0) rfl rfl (lenOf (pd_26) rfl) rfl rfl D18_2 (J := 5) rfl (by decide) (by decide) (by decide) (by decide) all0 ?_
  intro T1 h1_ v2 s3 H1 Q4
  obtain ⟨rfl, rfl, rfl⟩ := Q4
  show Go p e below _ (T1.setTop (mkF m 5 _ []))
  refine G.iloadN H1 D18_5 (J := 6) rfl rfl ?_
  refine G.iloadN H1 D18_6 (J := 7) rfl rfl ?_
  refine G.isub H1 D18_7 (J := 8) rfl ?_
  show Go p e below _ (T1.setTop (mkF m 8 _ [.int 18]))
  refine G.istoreN H1 (L' := #[.val (.ref p0), .val (.int 0), .val (.int 18), .val (.int 18), .unset]) D18_8 (J := 9) rfl rfl ?_
  refine G.iloadN H1 D18_9 (J := 10) rfl rfl ?_
  refine G.newP H1 (aty := .byte) (wd4 V) D18_10 (J := 12) rfl (by decide) (cap := 18) (by decide) (by decide) (by decide) (by decide) (vs := [.int 0, .int 0, .int 0, .int 0, .int 0, .int 0, .int 0, .int 0, .int 0, .int 0, .int 0, .int 0, .int 0, .int 0, .int 0, .int 0, .int 0, .int 0]) rfl (ad := "[B") rfl ?_
  intro T5 h5_ a6 k9 ga6 H5 E7 A8 X10
  have na6 := H1.nle ga6
  replace A8 : Arv Z h5_ a6 k9 .byte 18 [.int 0, .int 0, .int 0, .int 0, .int 0, .int 0, .int 0, .int 0, .int 0, .int 0, .int 0, .int 0, .int 0, .int 0, .int 0, .int 0, .int 0, .int 0] (.int 0) := A8
  refine G.astore H5 (L' := #[.val (.ref p0), .val (.int 0), .val (.int 18), .val (.int 18), .val (.ref a6)]) D18_12 (J := 14) rfl rfl rfl ?_
  refine G.aloadN H5 D18_14 (J := 15) rfl rfl rfl ?_
  refine G.iloadN H5 D18_15 (J := 16) rfl rfl ?_
  refine G.aload H5 D18_16 (J := 18) rfl rfl rfl ?_
  refine G.iconst H5 D18_18 (J := 19) rfl (v := 0) rfl ?_
  refine G.aloadN H5 D18_19 (J := 20) rfl rfl rfl ?_
  have F11 := (Arv.ext f0 E7)
  refine G.arrlen H5 F11 D18_20 (J := 21) rfl ?_
  refine G.iloadN H5 D18_21 (J := 22) rfl rfl ?_
  refine G.isub H5 D18_22 (J := 23) rfl ?_
  show Go p e below _ (T5.setTop (mkF m 23 _ [.int 34, .int 0, .ref a6, .int 0, .ref p0]))
  refine G.iloadN H5 D18_23 (J := 24) rfl rfl ?_
  refine G.callS H5 (m64_min V h5_ H5.old) (wd169 V) (wd170 V) (wd161 V) (wd171 V) (by decide) (argsL := [.int 34, .int 18]) (rest := [.int 0, .ref a6, .int 0, .ref p0]) (W := 4) rfl rfl (lenOf (pd_22) rfl) rfl rfl D18_24 (J := 27) rfl (by decide) (by decide) (by decide) (by decide) all0 ?_
  intro T12 h12_ v13 s14 H12 Q15
  obtain ⟨rfl, rfl, rfl⟩ := Q15
  show Go p e below _ (T12.setTop (mkF m 27 _ [.int 18, .int 0, .ref a6, .int 0, .ref p0]))
  refine G.copy H12 (wd172 V) (wd149 V) (wd147 V) (wd148 V) F11 A8 (us := [.int 116, .int 104, .int 101, .int 32, .int 104, .int 105, .int 110, .int 116, .int 32, .int 111, .int 102, .int 32, .int 107, .int 101, .int 121, .int 32, .int x0, .int x1]) (Or.inl ⟨rfl, rfl⟩) (by decide) (by decide) (by decide) (by decide) (by decide) rfl lB (vr := [.int 116, .int 104, .int 101, .int 32, .int 104, .int 105, .int 110, .int 116, .int 32, .int 111, .int 102, .int 32, .int 107, .int 101, .int 121, .int 32, .int x0, .int x1]) rfl na6 (Sf.mem (mG (i := 0) rfl)) (st := []) (W := 0) rfl rfl D18_27 (J := 30) rfl (by decide) (by decide) ?_
  intro T16 h16_ H16 K17 A18
  refine G.aload H16 D18_30 (J := 32) rfl rfl rfl ?_
  have F19 := (Exa.keep X10 K17)
  have K20 : Keep h0 h16_ [] := (Keep.trans (Keep.ext (Keep.refl h0 []) E7) K17 (allS (Or.inr (Nat.le_of_eq ga6.symm)) all0))
  exact G.retA H16 (t := (.array .byte)) rfl rfl rfl D18_32 (so := [a6]) (allS (mG (i := 0) rfl) all0) (by decide) (by decide) ⟨a6, k9, rfl, rfl, K20, (Nat.le_of_eq ga6.symm), A18, F19⟩
theorem m121_copyOfRange (V : Env1 Z a0 n0 uu0 uu1 uu2 uu3 uu4) (p0 : Addr) (c0 : ClassId) (x0 : Int32) (x1 : Int32) (h0 : Heap) (hO : Old Z n0 h0) (f0 : Arv Z h0 p0 c0 .byte 34 [.int 116, .int 104, .int 101, .int 32, .int 104, .int 105, .int 110, .int 116, .int 32, .int 111, .int 102, .int 32, .int 107, .int 101, .int 121, .int 32, .int x0, .int x1, .int 0, .int 0, .int 0, .int 0, .int 0, .int 0, .int 0, .int 0, .int 0, .int 0, .int 0, .int 0, .int 0, .int 0, .int 0, .int 0] (.int 0)) :
    Met Z a0 ELs True n0 l ⟨"java/util/Arrays", "copyOfRange", "([BII)[B"⟩ jdk_65_method_132_code 3 (some (.array .byte)) ⟨2, 1, 18, 56⟩ #[.ref p0, .int 0, .int 18] h0 [] (fun v h so => (∃ a5 : Addr, ∃ k6 : ClassId, v = some (.ref a5) ∧ so = [a5] ∧ Keep h0 h [] ∧ h0.size ≤ a5 ∧ Arv Z h a5 k6 .byte 18 [.int 116, .int 104, .int 101, .int 32, .int 104, .int 105, .int 110, .int 116, .int 32, .int 111, .int 102, .int 32, .int 107, .int 101, .int 121, .int 32, .int x0, .int x1] (.int 0) ∧ Exa Z h a5 "[B")) := by
  refine Met.of (EWl V) (by first | decide +kernel | rfl) hO (L0 := #[.val (.ref p0), .val (.int 0), .val (.int 18)]) rfl ?_
  intro p e s m below meth c T H
  show Go p e below _ (T.setTop (mkF m 0 _ []))
  refine G.iloadN H D17_0 (J := 1) rfl rfl ?_
  refine G.ifNo H D17_1 (J := 4) rfl (by decide) ?_
  refine G.iloadN H D17_4 (J := 5) rfl rfl ?_
  refine G.aloadN H D17_5 (J := 6) rfl rfl rfl ?_
  refine G.arrlen H f0 D17_6 (J := 7) rfl ?_
  refine G.icmpNo H D17_7 (J := 10) rfl (by decide) ?_
  refine G.aloadN H D17_10 (J := 11) rfl rfl rfl ?_
  refine G.iloadN H D17_11 (J := 12) rfl rfl ?_
  refine G.iloadN H D17_12 (J := 13) rfl rfl ?_
  refine G.callS H (m120_copyOfRangeByte V p0 c0 x0 x1 h0 H.old f0) (wd206 V) (wd207 V) (wd167 V) (wd208 V) (by decide) (argsL := [.ref p0, .int 0, .int 18]) (rest := []) (W := 0) rfl rfl (lenOf (pd_19) rfl) rfl rfl D17_13 (J := 16) rfl (by decide) (by decide) (by decide) (by decide) all0 ?_
  intro T1 h1_ v2 s3 H1 Q4
  obtain ⟨a5, k6, rfl, rfl, K7, g8, F9, F10⟩ := Q4
  have na5 : n0 ≤ a5 := Nat.le_trans H.le g8
  show Go p e below _ (T1.setTop (mkF m 16 _ [.ref a5]))
  have K11 : Keep h0 h1_ [] := (Keep.trans (Keep.refl h0 []) K7 all0)
  exact G.retA H1 (t := (.array .byte)) rfl rfl rfl D17_16 (so := [a5]) (allS (mG (i := 0) rfl) all0) (by decide) (by decide) ⟨a5, k6, rfl, rfl, K11, g8, F9, F10⟩
theorem m122_init (V : Env1 Z a0 n0 uu0 uu1 uu2 uu3 uu4) (p0 : Addr) (p1 : Addr) (p2 : Addr) (c0 : ClassId) (x0 : Int32) (x1 : Int32) (h0 : Heap) (hO : Old Z n0 h0) (f0 : Exa Z h0 p1 "java/lang/StringBuilder") (f1 : Fld Z h0 p1 "java/lang/AbstractStringBuilder" "value" "[B" (.ref p2)) (f2 : Fld Z h0 p1 "java/lang/AbstractStringBuilder" "count" "I" (.int 18)) (f3 : Fld Z h0 p1 "java/lang/AbstractStringBuilder" "coder" "B" (.int 0)) (f4 : Exa Z h0 p0 "java/lang/String") (f5 : Fld Z h0 p0 "java/lang/String" "coder" "B" (.int 0)) (g6 : n0 ≤ p0) (f7 : Arv Z h0 p2 c0 .byte 34 [.int 116, .int 104, .int 101, .int 32, .int 104, .int 105, .int 110, .int 116, .int 32, .int 111, .int 102, .int 32, .int 107, .int 101, .int 121, .int 32, .int x0, .int x1, .int 0, .int 0, .int 0, .int 0, .int 0, .int 0, .int 0, .int 0, .int 0, .int 0, .int 0, .int 0, .int 0, .int 0, .int 0, .int 0] (.int 0)) (f8 : Fld Z h0 p0 "java/lang/String" "value" "[B" .null) :
    Met Z a0 ELs True n0 l ⟨"java/lang/String", "<init>", "(Ljava/lang/AbstractStringBuilder;Ljava/lang/Void;)V"⟩ jdk_42_method_150_code 5 none ⟨3, 1, 18, 71⟩ #[.ref p0, .ref p1, .null] h0 [p0] (fun v h so => (∃ a24 : Addr, ∃ k25 : ClassId, v = none ∧ so = [a24] ∧ Keep h0 h [p0] ∧ h0.size ≤ a24 ∧ (∀ (O n d : String) (w : Value), Fld Z h0 p0 O n d w → RoadKit.slotOf Z O n d ≠ RoadKit.slotOf Z "java/lang/String" "coder" "B" → RoadKit.slotOf Z O n d ≠ RoadKit.slotOf Z "java/lang/String" "value" "[B" → Fld Z h p0 O n d w) ∧ Exa Z h p0 "java/lang/String" ∧ Fld Z h p0 "java/lang/String" "coder" "B" (.int 0) ∧ Fld Z h p0 "java/lang/String" "value" "[B" (.ref a24) ∧ Arv Z h a24 k25 .byte 18 [.int 116, .int 104, .int 101, .int 32, .int 104, .int 105, .int 110, .int 116, .int 32, .int 111, .int 102, .int 32, .int 107, .int 101, .int 121, .int 32, .int x0, .int x1] (.int 0) ∧ Exa Z h a24 "[B")) := by
  refine Met.of (EWl V) (by first | decide +kernel | rfl) hO (L0 := #[.val (.ref p0), .val (.ref p1), .val .null, .unset, .unset]) rfl ?_
  intro p e s m below meth c T H
  show Go p e below _ (T.setTop (mkF m 0 _ []))
  refine G.aloadN H D7_0 (J := 1) rfl rfl rfl ?_
  refine G.initO H (wd25 V) (wd26 V) (wd27 V) rfl D7_1 (J := 4) rfl (by decide) (W := 0) rfl (by decide) ?_
  intro T1 H2
  refine G.aloadN H2 D7_4 (J := 5) rfl rfl rfl ?_
  refine G.callV H2 (m32_getValue V p1 p2 h0 H2.old f1) (wd185 V) (wd186 V) (nf_sel (wd188 V)) (wd188 V) (wd187 V) (wd94 V) (wd189 V) (by decide) f0 (argsL := []) (rest := []) (W := 0) rfl rfl (lenOf (pd_17) rfl) rfl rfl D7_5 (J := 8) rfl (by decide) (by decide) (by decide) (by decide) all0 ?_
  intro T3 h3_ v4 s5 H3 Q6
  obtain ⟨rfl, rfl, rfl⟩ := Q6
  show Go p e below _ (T3.setTop (mkF m 8 _ [.ref p2]))
  refine G.astoreN H3 (L' := #[.val (.ref p0), .val (.ref p1), .val .null, .val (.ref p2), .unset]) D7_8 (J := 9) rfl rfl rfl ?_
  refine G.aloadN H3 D7_9 (J := 10) rfl rfl rfl ?_
  refine G.callV H3 (m62_length V p1 h0 H3.old f2 f0) (wd190 V) (wd191 V) (nf_sib (wd128 V) rfl) (wd193 V) (wd194 V) (wd86 V) (wd195 V) (by decide) f0 (argsL := []) (rest := []) (W := 0) rfl rfl (lenOf (pd_7) rfl) rfl rfl D7_10 (J := 13) rfl (by decide) (by decide) (by decide) (by decide) all0 ?_
  intro T7 h7_ v8 s9 H7 Q10
  obtain ⟨rfl, rfl, rfl⟩ := Q10
  show Go p e below _ (T7.setTop (mkF m 13 _ [.int 18]))
  refine G.istore H7 (L' := #[.val (.ref p0), .val (.ref p1), .val .null, .val (.ref p2), .val (.int 18)]) D7_13 (J := 15) rfl rfl ?_
  refine G.aloadN H7 D7_15 (J := 16) rfl rfl rfl ?_
  refine G.callV H7 (m35_isLatin1 V p1 h0 H7.old f3) (wd198 V) (wd199 V) (nf_sel (wd201 V)) (wd201 V) (wd200 V) (wd94 V) (wd202 V) (by decide) f0 (argsL := []) (rest := []) (W := 0) rfl rfl (lenOf (pd_18) rfl) rfl rfl D7_16 (J := 19) rfl (by decide) (by decide) (by decide) (by decide) all0 ?_
  intro T11 h11_ v12 s13 H11 Q14
  obtain ⟨rfl, rfl, rfl⟩ := Q14
  show Go p e below _ (T11.setTop (mkF m 19 _ [.int 1]))
  refine G.ifNo H11 D7_19 (J := 22) rfl (by decide) ?_
  refine G.aloadN H11 D7_22 (J := 23) rfl rfl rfl ?_
  refine G.iconst H11 D7_23 (J := 24) rfl (v := 0) rfl ?_
  refine G.putF H11 (wd29 V) Via.refl f5 f4 (Or.inr ⟨(wd6 V), rfl, rfl⟩) (wd3 V) (ty := .byte) (by decide) rfl rfl g6 (Sf.mem (mG (i := 0) rfl)) D7_24 (J := 27) rfl ?_
  intro T15 h15_ H15 W16
  have F17 : Fld Z h15_ p0 "java/lang/String" "coder" "B" (.int 0) := Fld.same W16 f5
  refine G.aloadN H15 D7_27 (J := 28) rfl rfl rfl ?_
  refine G.aloadN H15 D7_28 (J := 29) rfl rfl rfl ?_
  refine G.iconst H15 D7_29 (J := 30) rfl (v := 0) rfl ?_
  refine G.iload H15 D7_30 (J := 32) rfl rfl ?_
  have N18 : p2 ≠ p0 := Ne.symm (Exa.neArv f4 f7 (wd3 V))
  have F19 := (Arv.other f7 W16 N18)
  refine G.callS H15 (m121_copyOfRange V p2 c0 x0 x1 h15_ H15.old F19) (wd203 V) (wd204 V) (wd167 V) (wd205 V) (by decide) (argsL := [.ref p2, .int 0, .int 18]) (rest := [.ref p0]) (W := 1) rfl rfl (lenOf (pd_19) rfl) rfl rfl D7_32 (J := 35) rfl (by decide) (by decide) (by decide) (by decide) all0 ?_
  intro T20 h20_ v21 s22 H20 Q23
  obtain ⟨a24, k25, rfl, rfl, K26, g27, F28, F29⟩ := Q23
  have na24 : n0 ≤ a24 := Nat.le_trans H15.le g27
  show Go p e below _ (T20.setTop (mkF m 35 _ [.ref a24, .ref p0]))
  have K30 : Keep h0 h20_ [p0] := (Keep.trans (Keep.wr (Keep.refl h0 [p0]) W16 (Or.inl (mG (i := 0) rfl))) K26 all0)
  have F31 := (Exa.keep f4 K30)
  have F32 := (Fld.keep (Fld.other W16 f8 (Or.inr (slot_ne (Or.inr (wd5 V)) (Or.inr (wd6 V)) (by decide) (t := (.array .byte)) (t' := .byte) (by decide) (by decide)))) K26 nin0)
  refine G.putF H20 (wd28 V) Via.refl F32 F31 (Or.inr ⟨(wd5 V), rfl, rfl⟩) (wd3 V) (ty := (.array .byte)) (by decide) rfl rfl g6 (Sf.mem (mG (i := 1) rfl)) D7_35 (J := 38) rfl ?_
  intro T33 h33_ H33 W34
  have F35 : Fld Z h33_ p0 "java/lang/String" "value" "[B" (.ref a24) := Fld.same W34 F32
  refine G.goto H33 D7_38 (by decide) (J := 97) rfl ?_
  have F36 := (Exa.wr W34 F31)
  have F37 := (Fld.other W34 (Fld.keep F17 K26 nin0) (Or.inr (slot_ne (Or.inr (wd6 V)) (Or.inr (wd5 V)) (by decide) (t := .byte) (t' := (.array .byte)) (by decide) (by decide))))
  have N38 : a24 ≠ p0 := Ne.symm (Exa.neArv (Exa.keep (Exa.wr W16 f4) K26) F28 (wd3 V))
  have F39 := (Arv.other F28 W34 N38)
  have F40 := (Exa.wr W34 F29)
  have K41 : Keep h0 h33_ [p0] := (Keep.wr (Keep.trans (Keep.wr (Keep.refl h0 [p0]) W16 (Or.inl (mG (i := 0) rfl))) K26 all0) W34 (Or.inl (mG (i := 0) rfl)))
  have K42 : Keep h0 h15_ [p0] := (Keep.wr (Keep.refl h0 [p0]) W16 (Or.inl (mG (i := 0) rfl)))
  exact G.retV H33 rfl D7_97 (so := [a24]) (allS (mG (i := 0) rfl) all0) (by decide) (by decide) ⟨a24, k25, rfl, rfl, K41, (Nat.le_trans K42.1 g27), (fun O n d w F hn0 hn1 => (Fld.other W34 (Fld.keep (Fld.other W16 F (Or.inr hn0)) K26 nin0) (Or.inr hn1))), F36, F37, F35, F39, F40⟩
theorem m123_init (V : Env1 Z a0 n0 uu0 uu1 uu2 uu3 uu4) (p0 : Addr) (p1 : Addr) (p2 : Addr) (c0 : ClassId) (x0 : Int32) (x1 : Int32) (h0 : Heap) (hO : Old Z n0 h0) (f0 : Exa Z h0 p1 "java/lang/StringBuilder") (f1 : Fld Z h0 p1 "java/lang/AbstractStringBuilder" "value" "[B" (.ref p2)) (f2 : Fld Z h0 p1 "java/lang/AbstractStringBuilder" "count" "I" (.int 18)) (f3 : Fld Z h0 p1 "java/lang/AbstractStringBuilder" "coder" "B" (.int 0)) (f4 : Exa Z h0 p0 "java/lang/String") (f5 : Fld Z h0 p0 "java/lang/String" "coder" "B" (.int 0)) (g6 : n0 ≤ p0) (f7 : Arv Z h0 p2 c0 .byte 34 [.int 116, .int 104, .int 101, .int 32, .int 104, .int 105, .int 110, .int 116, .int 32, .int 111, .int 102, .int 32, .int 107, .int 101, .int 121, .int 32, .int x0, .int x1, .int 0, .int 0, .int 0, .int 0, .int 0, .int 0, .int 0, .int 0, .int 0, .int 0, .int 0, .int 0, .int 0, .int 0, .int 0, .int 0] (.int 0)) (f8 : Fld Z h0 p0 "java/lang/String" "value" "[B" .null) :
    Met Z a0 ELs True n0 l ⟨"java/lang/String", "<init>", "(Ljava/lang/StringBuilder;)V"⟩ jdk_42_method_53_code 2 none ⟨4, 1, 18, 87⟩ #[.ref p0, .ref p1] h0 [p0] (fun v h so => (∃ a5 : Addr, ∃ k6 : ClassId, v = none ∧ so = [a5] ∧ Keep h0 h [p0] ∧ h0.size ≤ a5 ∧ (∀ (O n d : String) (w : Value), Fld Z h0 p0 O n d w → RoadKit.slotOf Z O n d ≠ RoadKit.slotOf Z "java/lang/String" "coder" "B" → RoadKit.slotOf Z O n d ≠ RoadKit.slotOf Z "java/lang/String" "value" "[B" → Fld Z h p0 O n d w) ∧ Exa Z h p0 "java/lang/String" ∧ Fld Z h p0 "java/lang/String" "coder" "B" (.int 0) ∧ Fld Z h p0 "java/lang/String" "value" "[B" (.ref a5) ∧ Arv Z h a5 k6 .byte 18 [.int 116, .int 104, .int 101, .int 32, .int 104, .int 105, .int 110, .int 116, .int 32, .int 111, .int 102, .int 32, .int 107, .int 101, .int 121, .int 32, .int x0, .int x1] (.int 0) ∧ Exa Z h a5 "[B")) := by
  refine Met.of (EWl V) (by first | decide +kernel | rfl) hO (L0 := #[.val (.ref p0), .val (.ref p1)]) rfl ?_
  intro p e s m below meth c T H
  show Go p e below _ (T.setTop (mkF m 0 _ []))
  refine G.aloadN H D10_0 (J := 1) rfl rfl rfl ?_
  refine G.aloadN H D10_1 (J := 2) rfl rfl rfl ?_
  refine G.aconstNull H D10_2 (J := 3) rfl ?_
  refine G.callI H (m122_init V p0 p1 p2 c0 x0 x1 h0 H.old f0 f1 f2 f3 f4 f5 g6 f7 f8) rfl (wd182 V) (wd183 V) (wd2 V) (wd184 V) (by decide) (a := p0) (argsL := [.ref p1, .null]) (rest := []) (W := 0) rfl rfl (lenOf (pd_20) rfl) rfl rfl D10_3 (J := 6) rfl (by decide) (by decide) (by decide) (by decide) (allS (mG (i := 0) rfl) all0) ?_
  intro T1 h1_ v2 s3 H1 Q4
  obtain ⟨a5, k6, rfl, rfl, K7, g8, U9, F10, F11, F12, F13, F14⟩ := Q4
  have na5 : n0 ≤ a5 := Nat.le_trans H.le g8
  show Go p e below _ (T1.setTop (mkF m 6 _ []))
  have K15 : Keep h0 h1_ [p0] := (Keep.trans (Keep.refl h0 [p0]) K7 (allS (Or.inl (mG (i := 0) rfl)) all0))
  exact G.retV H1 rfl D10_6 (so := [a5]) (allS (mG (i := 0) rfl) all0) (by decide) (by decide) ⟨a5, k6, rfl, rfl, K15, g8, (fun O n d w F hn0 hn1 => (U9 O n d w F hn0 hn1)), F10, F11, F12, F13, F14⟩
theorem m124_toString (V : Env1 Z a0 n0 uu0 uu1 uu2 uu3 uu4) (p0 : Addr) (p1 : Addr) (c0 : ClassId) (x0 : Int32) (x1 : Int32) (h0 : Heap) (hO : Old Z n0 h0) (f0 : Exa Z h0 p0 "java/lang/StringBuilder") (f1 : Fld Z h0 p0 "java/lang/AbstractStringBuilder" "value" "[B" (.ref p1)) (f2 : Fld Z h0 p0 "java/lang/AbstractStringBuilder" "count" "I" (.int 18)) (f3 : Fld Z h0 p0 "java/lang/AbstractStringBuilder" "coder" "B" (.int 0)) (f4 : Arv Z h0 p1 c0 .byte 34 [.int 116, .int 104, .int 101, .int 32, .int 104, .int 105, .int 110, .int 116, .int 32, .int 111, .int 102, .int 32, .int 107, .int 101, .int 121, .int 32, .int x0, .int x1, .int 0, .int 0, .int 0, .int 0, .int 0, .int 0, .int 0, .int 0, .int 0, .int 0, .int 0, .int 0, .int 0, .int 0, .int 0, .int 0] (.int 0)) :
    Met Z a0 ELs True n0 l ⟨"java/lang/StringBuilder", "toString", "()Ljava/lang/String;"⟩ jdk_67_method_42_code 1 (some (.object "java/lang/String")) ⟨5, 2, 22, 101⟩ #[.ref p0] h0 [] (fun v h so => (∃ a2 a17 : Addr, ∃ k18 : ClassId, v = some (.ref a2) ∧ so = [a2, a17] ∧ Keep h0 h [] ∧ h0.size ≤ a2 ∧ a2 < a17 ∧ Exa Z h a2 "java/lang/String" ∧ Fld Z h a2 "java/lang/String" "coder" "B" (.int 0) ∧ Fld Z h a2 "java/lang/String" "value" "[B" (.ref a17) ∧ Arv Z h a17 k18 .byte 18 [.int 116, .int 104, .int 101, .int 32, .int 104, .int 105, .int 110, .int 116, .int 32, .int 111, .int 102, .int 32, .int 107, .int 101, .int 121, .int 32, .int x0, .int x1] (.int 0) ∧ Exa Z h a17 "[B")) := by
  refine Met.of (EWl V) (by first | decide +kernel | rfl) hO (L0 := #[.val (.ref p0)]) rfl ?_
  intro p e s m below meth c T H
  show Go p e below _ (T.setTop (mkF m 0 _ []))
  refine G.new H (wd178 V) (wd3 V) (wd2 V) D20_0 (J := 3) rfl (by decide) (by decide) ?_
  intro T1 h1_ a2 ga2 H1 E3 A4 D5
  have na2 := H.nle ga2
  refine G.dup H1 D20_3 (J := 4) rfl rfl ?_
  refine G.aloadN H1 D20_4 (J := 5) rfl rfl rfl ?_
  have F6 := (Exa.ext E3 f0)
  have F7 := (Fld.ext E3 f1)
  have F8 := (Fld.ext E3 f2)
  have F9 := (Fld.ext E3 f3)
  have F10 : Fld Z h1_ a2 "java/lang/String" "coder" "B" (.int 0) := D5 (Or.inr (wd6 V)) (ty := .byte) (by decide)
  have F11 := (Arv.ext f4 E3)
  have F12 : Fld Z h1_ a2 "java/lang/String" "value" "[B" .null := D5 (Or.inr (wd5 V)) (ty := (.array .byte)) (by decide)
  refine G.callI H1 (m123_init V a2 p0 p1 c0 x0 x1 h1_ H1.old F6 F7 F8 F9 A4 F10 na2 F11 F12) rfl (wd179 V) (wd180 V) (wd2 V) (wd181 V) (by decide) (a := a2) (argsL := [.ref p0]) (rest := [.ref a2]) (W := 1) rfl rfl (lenOf (pd_21) rfl) rfl rfl D20_5 (J := 8) rfl (by decide) (by decide) (by decide) (by decide) (allS (mG (i := 0) rfl) all0) ?_
  intro T13 h13_ v14 s15 H13 Q16
  obtain ⟨a17, k18, rfl, rfl, K19, g20, U21, F22, F23, F24, F25, F26⟩ := Q16
  have na17 : n0 ≤ a17 := Nat.le_trans H1.le g20
  show Go p e below _ (T13.setTop (mkF m 8 _ [.ref a2]))
  have K27 : Keep h0 h13_ [] := (Keep.trans (Keep.ext (Keep.refl h0 []) E3) K19 (allS (Or.inr (Nat.le_of_eq ga2.symm)) all0))
  exact G.retA H13 (t := (.object "java/lang/String")) rfl rfl rfl D20_8 (so := [a2, a17]) (allS (mG (i := 1) rfl) (allS (mG (i := 0) rfl) all0)) (by decide) (by decide) ⟨a2, a17, k18, rfl, rfl, K27, (Nat.le_of_eq ga2.symm), (Nat.lt_of_lt_of_le A4.lt g20), F22, F23, F24, F25, F26⟩
theorem m125_description (V : Env1 Z a0 n0 uu0 uu1 uu2 uu3 uu4) (p0 : Addr) (p1 : Addr) (p2 : Addr) (c0 : ClassId) (x0 : Int32) (x1 : Int32) (h0 : Heap) (hO : Old Z n0 h0) (f0 : Fld Z h0 p0 "com/example/formboard/formboard/core/Board$Live" "part" "Lcom/example/formboard/formboard/core/Board$Part;" (.ref uu0)) (f1 : Fld Z h0 p0 "com/example/formboard/formboard/core/Board$Live" "key" "Ljava/lang/String;" (.ref p1)) (f2 : Exa Z h0 p1 "java/lang/String") (f3 : Fld Z h0 p1 "java/lang/String" "value" "[B" (.ref p2)) (f4 : Arv Z h0 p2 c0 .byte 2 [.int x0, .int x1] (.int 0)) (f5 : Fld Z h0 p1 "java/lang/String" "coder" "B" (.int 0)) :
    Met Z a0 ELs True n0 l ⟨"com/example/formboard/formboard/core/Board$Live", "description", "()Ljava/lang/String;"⟩ prog_16_method_2_code 1 (some (.object "java/lang/String")) ⟨6, 7, 144, 113⟩ #[.ref p0] h0 [] (fun v h so => (∃ a85 a86 : Addr, ∃ k87 : ClassId, v = some (.ref a85) ∧ so = [a85, a86] ∧ Keep h0 h [] ∧ h0.size ≤ a85 ∧ a85 < a86 ∧ Exa Z h a85 "java/lang/String" ∧ Fld Z h a85 "java/lang/String" "coder" "B" (.int 0) ∧ Fld Z h a85 "java/lang/String" "value" "[B" (.ref a86) ∧ Arv Z h a86 k87 .byte 18 [.int 116, .int 104, .int 101, .int 32, .int 104, .int 105, .int 110, .int 116, .int 32, .int 111, .int 102, .int 32, .int 107, .int 101, .int 121, .int 32, .int x0, .int x1] (.int 0) ∧ Exa Z h a86 "[B")) := by
  refine Met.of (EWl V) (by first | decide +kernel | rfl) hO (L0 := #[.val (.ref p0)]) rfl ?_
  intro p e s m below meth c T H
  show Go p e below _ (T.setTop (mkF m 0 _ []))
  refine G.aloadN H D34_0 (J := 1) rfl rfl rfl ?_
  refine G.getF H (wd51 V) Via.refl f0 D34_1 (J := 4) rfl ?_
  intro T1 H2
  have B3 := Exa.ext H2.old.2 (hv1 V)
  refine G.callVU H2 (y := ⟨"com/example/formboard/formboard/core/Board$Part", "ordinal", "()I"⟩) (m15_ordinal V h0 H2.old) (wd62 V) (wd63 V) (wd64 V) (by decide) (wd66 V) (wd65 V) (wd67 V) (wd68 V) B3 (argsL := []) (rest := []) (W := 0) rfl rfl (lenOf (pd_7) rfl) rfl rfl D34_4 (J := 7) rfl (by decide) (by decide) (by decide) (by decide) all0 ?_
  intro T4 h4_ v5 s6 H4 Q7
  obtain ⟨rfl, rfl, rfl⟩ := Q7
  show Go p e below _ (T4.setTop (mkF m 7 _ [.int 1]))
  refine G.tswIn H4 D34_7 (by decide) (o := 40) rfl (by decide) (J := 47) rfl ?_
  refine G.new H4 (wd84 V) (wd85 V) (wd86 V) D34_47 (J := 50) rfl (by decide) (by decide) ?_
  intro T8 h8_ a9 ga9 H8 E10 A11 D12
  have na9 := H4.nle ga9
  refine G.dup H8 D34_50 (J := 51) rfl rfl ?_
  have F13 : Fld Z h8_ a9 "java/lang/AbstractStringBuilder" "value" "[B" .null := D12 (Or.inl (wd99 V)) (ty := (.array .byte)) (by decide)
  have F14 : Fld Z h8_ a9 "java/lang/AbstractStringBuilder" "coder" "B" (.int 0) := D12 (Or.inl (wd101 V)) (ty := .byte) (by decide)
  refine G.callI H8 (m17_init V a9 h8_ H8.old A11 F13 na9 F14) rfl (wd87 V) (wd88 V) (wd86 V) (wd89 V) (by decide) (a := a9) (argsL := []) (rest := [.ref a9]) (W := 1) rfl rfl (lenOf (pd_4) rfl) rfl rfl D34_51 (J := 54) rfl (by decide) (by decide) (by decide) (by decide) all0 ?_
  intro T15 h15_ v16 s17 H15 Q18
  obtain ⟨a19, k20, rfl, rfl, K21, g22, U23, F24, F25, F26, F27, F28⟩ := Q18
  have na19 : n0 ≤ a19 := Nat.le_trans H8.le g22
  show Go p e below _ (T15.setTop (mkF m 54 _ [.ref a9]))
  refine G.ldcS H15 trivial (wS V) (wd102 V) (by decide) (vs := [.int 116, .int 104, .int 101, .int 32, .int 104, .int 105, .int 110, .int 116, .int 32, .int 111, .int 102, .int 32, .int 107, .int 101, .int 121, .int 32]) (z := 16) (by decide) (by decide) rfl (n := 64) (by decide) (by decide) (by decide) (by decide) D34_54 (J := 56) rfl ?_
  intro T29 h29_ a30 b32 k33 H29 E31 X34 F35 F36 A37 Q38
  have S39 : Str Z h29_ a30 b32 k33 [116, 104, 101, 32, 104, 105, 110, 116, 32, 111, 102, 32, 107, 101, 121, 32] := ⟨X34, F35, F36, A37, by decide, by decide⟩
  have F40 := (Exa.ext E31 F24)
  have F41 : Fld Z h8_ a9 "java/lang/AbstractStringBuilder" "count" "I" (.int 0) := D12 (Or.inl (wd124 V)) (ty := .int) (by decide)
  have F42 := (Fld.ext E31 (U23 "java/lang/AbstractStringBuilder" "count" "I" (.int 0) F41 (slot_ne (Or.inl (wd124 V)) (Or.inl (wd99 V)) (by decide) (t := .int) (t' := (.array .byte)) (by decide) (by decide)) (slot_ne (Or.inl (wd124 V)) (Or.inl (wd101 V)) (by decide) (t := .int) (t' := .byte) (by decide) (by decide))))
  have F43 := (Fld.ext E31 F25)
  have F44 := (Arv.ext F27 E31)
  have F45 := (Fld.ext E31 F26)
  refine G.callV H29 (m25_append V a9 a30 b32 k33 a19 k20 h29_ H29.old X34 F36 A37 F35 F42 F40 F43 F44 F45 na19 na9) (wd103 V) (wd104 V) (nf_sel (wd106 V)) (wd106 V) (wd105 V) (wd86 V) (wd107 V) (by decide) F40 (argsL := [.ref a30]) (rest := []) (W := 0) rfl rfl (lenOf (pd_16) rfl) rfl rfl D34_56 (J := 59) rfl (by decide) (by decide) (by decide) (by decide) (allS (mG (i := 0) rfl) all0) ?_
  intro T46 h46_ v47 s48 H46 Q49
  obtain ⟨rfl, rfl, K50, U51, F52, F53, F54, F55, F56⟩ := Q49
  show Go p e below _ (T46.setTop (mkF m 59 _ [.ref a9]))
  refine G.aloadN H46 D34_59 (J := 60) rfl rfl rfl ?_
  have K57 : Keep h0 h8_ [] := (Keep.ext (Keep.refl h0 []) E10)
  have K58 : Keep h0 h46_ [] := (Keep.trans (Keep.ext (Keep.trans (Keep.ext (Keep.refl h0 []) E10) K21 (allS (Or.inr (Nat.le_of_eq ga9.symm)) all0)) E31) K50 (allS (Or.inr (Nat.le_trans K57.1 g22)) (allS (Or.inr (Nat.le_of_eq ga9.symm)) all0)))
  have F59 := (Fld.keep f1 K58 nin0)
  refine G.getF H46 (wd53 V) Via.refl F59 D34_60 (J := 63) rfl ?_
  intro T60 H61
  have F62 := (Exa.keep f2 K58)
  have F63 := (Fld.keep f3 K58 nin0)
  have F64 := (Arv.keep f4 K58 nin0)
  have F65 := (Fld.keep f5 K58 nin0)
  refine G.callV H61 (m119_append V a9 p1 p2 c0 x0 x1 a19 k20 h46_ H61.old F62 F63 F64 F65 F53 F54 F55 F52 F56 na9) (wd103 V) (wd104 V) (nf_sel (wd106 V)) (wd106 V) (wd105 V) (wd86 V) (wd107 V) (by decide) F54 (argsL := [.ref p1]) (rest := []) (W := 0) rfl rfl (lenOf (pd_16) rfl) rfl rfl D34_63 (J := 66) rfl (by decide) (by decide) (by decide) (by decide) all0 ?_
  intro T66 h66_ v67 s68 H66 Q69
  obtain ⟨a70, k71, rfl, rfl, K72, g73, U74, F75, F76, F77, F78, F79, F80⟩ := Q69
  have na70 : n0 ≤ a70 := Nat.le_trans H46.le g73
  show Go p e below _ (T66.setTop (mkF m 66 _ [.ref a9]))
  refine G.callV H66 (m124_toString V a9 a70 k71 x0 x1 h66_ H66.old F76 F77 F75 F78 F79) (wd173 V) (wd174 V) (nf_sel (wd176 V)) (wd176 V) (wd175 V) (wd86 V) (wd177 V) (by decide) F76 (argsL := []) (rest := []) (W := 0) rfl rfl (lenOf (pd_8) rfl) rfl rfl D34_66 (J := 69) rfl (by decide) (by decide) (by decide) (by decide) all0 ?_
  intro T81 h81_ v82 s83 H81 Q84
  obtain ⟨a85, a86, k87, rfl, rfl, K88, g89, g90, F91, F92, F93, F94, F95⟩ := Q84
  have na85 : n0 ≤ a85 := Nat.le_trans H66.le g89
  have na86 : n0 ≤ a86 := Nat.le_trans H66.le (Nat.le_of_lt (Nat.lt_of_le_of_lt g89 g90))
  show Go p e below _ (T81.setTop (mkF m 69 _ [.ref a85]))
  refine G.goto H81 D34_69 (by decide) (J := 94) rfl ?_
  have K96 : Keep h0 h81_ [] := (Keep.trans (Keep.trans (Keep.trans (Keep.ext (Keep.trans (Keep.ext (Keep.refl h0 []) E10) K21 (allS (Or.inr (Nat.le_of_eq ga9.symm)) all0)) E31) K50 (allS (Or.inr (Nat.le_trans K57.1 g22)) (allS (Or.inr (Nat.le_of_eq ga9.symm)) all0))) K72 (allS (Or.inr (Nat.le_of_eq ga9.symm)) all0)) K88 all0)
  have K97 : Keep h0 h66_ [] := (Keep.trans (Keep.trans (Keep.ext (Keep.trans (Keep.ext (Keep.refl h0 []) E10) K21 (allS (Or.inr (Nat.le_of_eq ga9.symm)) all0)) E31) K50 (allS (Or.inr (Nat.le_trans K57.1 g22)) (allS (Or.inr (Nat.le_of_eq ga9.symm)) all0))) K72 (allS (Or.inr (Nat.le_of_eq ga9.symm)) all0))
  exact G.retA H81 (t := (.object "java/lang/String")) rfl rfl rfl D34_94 (so := [a85, a86]) (allS (mG (i := 0) rfl) (allS (mG (i := 1) rfl) all0)) (by decide) (by decide) ⟨a85, a86, k87, rfl, rfl, K96, (Nat.le_trans K97.1 g89), g90, F91, F92, F93, F94, F95⟩
theorem m126_expected (V : Env1 Z a0 n0 uu0 uu1 uu2 uu3 uu4) (x0 : Int32) (x1 : Int32) (h0 : Heap) (hO : Old Z n0 h0) (r0 : ¬ x0 < 0 ∧ ¬ 65535 < x0) (r1 : ¬ x1 < 0 ∧ ¬ 65535 < x1) (r2 : ¬ x1 < 0 ∧ ¬ 255 < x1) (r3 : ¬ x0 < 0 ∧ ¬ 255 < x0) :
    Met Z a0 ELs True n0 l ⟨"com/example/formboard/formboard/core/LiveDescriptionPinLaw", "expected", "(IICC)Ljava/lang/String;"⟩ method_3_code 4 (some (.object "java/lang/String")) ⟨4, 3, 40, 66⟩ #[.int 1, .int 2, .int x0, .int x1] h0 [] (fun v h so => (∃ a2 t73 : Addr, ∃ k74 : ClassId, v = some (.ref a2) ∧ so = [a2, t73] ∧ Keep h0 h [] ∧ h0.size ≤ a2 ∧ a2 < t73 ∧ Str Z h a2 t73 k74 [116, 104, 101, 32, 104, 105, 110, 116, 32, 111, 102, 32, 107, 101, 121, 32, x0, x1])) := by
  refine Met.of (EWl V) (by first | decide +kernel | rfl) hO (L0 := #[.val (.int 1), .val (.int 2), .val (.int x0), .val (.int x1)]) rfl ?_
  intro p e s m below meth c T H
  show Go p e below _ (T.setTop (mkF m 0 _ []))
  refine G.iloadN H D32_0 (J := 1) rfl rfl ?_
  refine G.ifYes H D32_1 (by decide) (by decide) (J := 7) rfl ?_
  refine G.iloadN H D32_7 (J := 8) rfl rfl ?_
  refine G.iconst H D32_8 (J := 9) rfl (v := 1) rfl ?_
  refine G.icmpNo H D32_9 (J := 12) rfl (by decide) ?_
  refine G.iloadN H D32_12 (J := 13) rfl rfl ?_
  refine G.ifYes H D32_13 (by decide) (by decide) (J := 19) rfl ?_
  refine G.iloadN H D32_19 (J := 20) rfl rfl ?_
  refine G.iconst H D32_20 (J := 21) rfl (v := 1) rfl ?_
  refine G.icmpYes H D32_21 (by decide) (by decide) (J := 131) rfl ?_
  refine G.new H (wd212 V) (wd3 V) (wd2 V) D32_131 (J := 134) rfl (by decide) (by decide) ?_
  intro T1 h1_ a2 ga2 H1 E3 A4 D5
  have na2 := H.nle ga2
  refine G.dup H1 D32_134 (J := 135) rfl rfl ?_
  refine G.bipush H1 D32_135 (J := 137) rfl (v := 18) rfl ?_
  refine G.newP H1 (aty := .char) (wd213 V) D32_137 (J := 139) rfl (by decide) (cap := 18) (by decide) (by decide) (by decide) (by decide) (vs := [.int 0, .int 0, .int 0, .int 0, .int 0, .int 0, .int 0, .int 0, .int 0, .int 0, .int 0, .int 0, .int 0, .int 0, .int 0, .int 0, .int 0, .int 0]) rfl (ad := "[C") rfl ?_
  intro T6 h6_ a7 k10 ga7 H6 E8 A9 X11
  have na7 := H1.nle ga7
  replace A9 : Arv Z h6_ a7 k10 .char 18 [.int 0, .int 0, .int 0, .int 0, .int 0, .int 0, .int 0, .int 0, .int 0, .int 0, .int 0, .int 0, .int 0, .int 0, .int 0, .int 0, .int 0, .int 0] (.int 0) := A9
  refine G.dup H6 D32_139 (J := 140) rfl rfl ?_
  refine G.iconst H6 D32_140 (J := 141) rfl (v := 0) rfl ?_
  refine G.bipush H6 D32_141 (J := 143) rfl (v := 116) rfl ?_
  refine G.stC H6 A9 (by decide) (i := 0) rfl lB na7 (y := 116) rfl D32_143 (J := 144) rfl ?_
  intro T12 h12_ H12 W13 A14
  replace A14 : Arv Z h12_ a7 k10 .char 18 [.int 116, .int 0, .int 0, .int 0, .int 0, .int 0, .int 0, .int 0, .int 0, .int 0, .int 0, .int 0, .int 0, .int 0, .int 0, .int 0, .int 0, .int 0] (.int 0) := A14
  refine G.dup H12 D32_144 (J := 145) rfl rfl ?_
  refine G.iconst H12 D32_145 (J := 146) rfl (v := 1) rfl ?_
  refine G.bipush H12 D32_146 (J := 148) rfl (v := 104) rfl ?_
  refine G.stC H12 A14 (by decide) (i := 1) rfl lB na7 (y := 104) rfl D32_148 (J := 149) rfl ?_
  intro T15 h15_ H15 W16 A17
  replace A17 : Arv Z h15_ a7 k10 .char 18 [.int 116, .int 104, .int 0, .int 0, .int 0, .int 0, .int 0, .int 0, .int 0, .int 0, .int 0, .int 0, .int 0, .int 0, .int 0, .int 0, .int 0, .int 0] (.int 0) := A17
  refine G.dup H15 D32_149 (J := 150) rfl rfl ?_
  refine G.iconst H15 D32_150 (J := 151) rfl (v := 2) rfl ?_
  refine G.bipush H15 D32_151 (J := 153) rfl (v := 101) rfl ?_
  refine G.stC H15 A17 (by decide) (i := 2) rfl lB na7 (y := 101) rfl D32_153 (J := 154) rfl ?_
  intro T18 h18_ H18 W19 A20
  replace A20 : Arv Z h18_ a7 k10 .char 18 [.int 116, .int 104, .int 101, .int 0, .int 0, .int 0, .int 0, .int 0, .int 0, .int 0, .int 0, .int 0, .int 0, .int 0, .int 0, .int 0, .int 0, .int 0] (.int 0) := A20
  refine G.dup H18 D32_154 (J := 155) rfl rfl ?_
  refine G.iconst H18 D32_155 (J := 156) rfl (v := 3) rfl ?_
  refine G.bipush H18 D32_156 (J := 158) rfl (v := 32) rfl ?_
  refine G.stC H18 A20 (by decide) (i := 3) rfl lB na7 (y := 32) rfl D32_158 (J := 159) rfl ?_
  intro T21 h21_ H21 W22 A23
  replace A23 : Arv Z h21_ a7 k10 .char 18 [.int 116, .int 104, .int 101, .int 32, .int 0, .int 0, .int 0, .int 0, .int 0, .int 0, .int 0, .int 0, .int 0, .int 0, .int 0, .int 0, .int 0, .int 0] (.int 0) := A23
  refine G.dup H21 D32_159 (J := 160) rfl rfl ?_
  refine G.iconst H21 D32_160 (J := 161) rfl (v := 4) rfl ?_
  refine G.bipush H21 D32_161 (J := 163) rfl (v := 104) rfl ?_
  refine G.stC H21 A23 (by decide) (i := 4) rfl lB na7 (y := 104) rfl D32_163 (J := 164) rfl ?_
  intro T24 h24_ H24 W25 A26
  replace A26 : Arv Z h24_ a7 k10 .char 18 [.int 116, .int 104, .int 101, .int 32, .int 104, .int 0, .int 0, .int 0, .int 0, .int 0, .int 0, .int 0, .int 0, .int 0, .int 0, .int 0, .int 0, .int 0] (.int 0) := A26
  refine G.dup H24 D32_164 (J := 165) rfl rfl ?_
  refine G.iconst H24 D32_165 (J := 166) rfl (v := 5) rfl ?_
  refine G.bipush H24 D32_166 (J := 168) rfl (v := 105) rfl ?_
  refine G.stC H24 A26 (by decide) (i := 5) rfl lB na7 (y := 105) rfl D32_168 (J := 169) rfl ?_
  intro T27 h27_ H27 W28 A29
  replace A29 : Arv Z h27_ a7 k10 .char 18 [.int 116, .int 104, .int 101, .int 32, .int 104, .int 105, .int 0, .int 0, .int 0, .int 0, .int 0, .int 0, .int 0, .int 0, .int 0, .int 0, .int 0, .int 0] (.int 0) := A29
  refine G.dup H27 D32_169 (J := 170) rfl rfl ?_
  refine G.bipush H27 D32_170 (J := 172) rfl (v := 6) rfl ?_
  refine G.bipush H27 D32_172 (J := 174) rfl (v := 110) rfl ?_
  refine G.stC H27 A29 (by decide) (i := 6) rfl lB na7 (y := 110) rfl D32_174 (J := 175) rfl ?_
  intro T30 h30_ H30 W31 A32
  replace A32 : Arv Z h30_ a7 k10 .char 18 [.int 116, .int 104, .int 101, .int 32, .int 104, .int 105, .int 110, .int 0, .int 0, .int 0, .int 0, .int 0, .int 0, .int 0, .int 0, .int 0, .int 0, .int 0] (.int 0) := A32
  refine G.dup H30 D32_175 (J := 176) rfl rfl ?_
  refine G.bipush H30 D32_176 (J := 178) rfl (v := 7) rfl ?_
  refine G.bipush H30 D32_178 (J := 180) rfl (v := 116) rfl ?_
  refine G.stC H30 A32 (by decide) (i := 7) rfl lB na7 (y := 116) rfl D32_180 (J := 181) rfl ?_
  intro T33 h33_ H33 W34 A35
  replace A35 : Arv Z h33_ a7 k10 .char 18 [.int 116, .int 104, .int 101, .int 32, .int 104, .int 105, .int 110, .int 116, .int 0, .int 0, .int 0, .int 0, .int 0, .int 0, .int 0, .int 0, .int 0, .int 0] (.int 0) := A35
  refine G.dup H33 D32_181 (J := 182) rfl rfl ?_
  refine G.bipush H33 D32_182 (J := 184) rfl (v := 8) rfl ?_
  refine G.bipush H33 D32_184 (J := 186) rfl (v := 32) rfl ?_
  refine G.stC H33 A35 (by decide) (i := 8) rfl lB na7 (y := 32) rfl D32_186 (J := 187) rfl ?_
  intro T36 h36_ H36 W37 A38
  replace A38 : Arv Z h36_ a7 k10 .char 18 [.int 116, .int 104, .int 101, .int 32, .int 104, .int 105, .int 110, .int 116, .int 32, .int 0, .int 0, .int 0, .int 0, .int 0, .int 0, .int 0, .int 0, .int 0] (.int 0) := A38
  refine G.dup H36 D32_187 (J := 188) rfl rfl ?_
  refine G.bipush H36 D32_188 (J := 190) rfl (v := 9) rfl ?_
  refine G.bipush H36 D32_190 (J := 192) rfl (v := 111) rfl ?_
  refine G.stC H36 A38 (by decide) (i := 9) rfl lB na7 (y := 111) rfl D32_192 (J := 193) rfl ?_
  intro T39 h39_ H39 W40 A41
  replace A41 : Arv Z h39_ a7 k10 .char 18 [.int 116, .int 104, .int 101, .int 32, .int 104, .int 105, .int 110, .int 116, .int 32, .int 111, .int 0, .int 0, .int 0, .int 0, .int 0, .int 0, .int 0, .int 0] (.int 0) := A41
  refine G.dup H39 D32_193 (J := 194) rfl rfl ?_
  refine G.bipush H39 D32_194 (J := 196) rfl (v := 10) rfl ?_
  refine G.bipush H39 D32_196 (J := 198) rfl (v := 102) rfl ?_
  refine G.stC H39 A41 (by decide) (i := 10) rfl lB na7 (y := 102) rfl D32_198 (J := 199) rfl ?_
  intro T42 h42_ H42 W43 A44
  replace A44 : Arv Z h42_ a7 k10 .char 18 [.int 116, .int 104, .int 101, .int 32, .int 104, .int 105, .int 110, .int 116, .int 32, .int 111, .int 102, .int 0, .int 0, .int 0, .int 0, .int 0, .int 0, .int 0] (.int 0) := A44
  refine G.dup H42 D32_199 (J := 200) rfl rfl ?_
  refine G.bipush H42 D32_200 (J := 202) rfl (v := 11) rfl ?_
  refine G.bipush H42 D32_202 (J := 204) rfl (v := 32) rfl ?_
  refine G.stC H42 A44 (by decide) (i := 11) rfl lB na7 (y := 32) rfl D32_204 (J := 205) rfl ?_
  intro T45 h45_ H45 W46 A47
  replace A47 : Arv Z h45_ a7 k10 .char 18 [.int 116, .int 104, .int 101, .int 32, .int 104, .int 105, .int 110, .int 116, .int 32, .int 111, .int 102, .int 32, .int 0, .int 0, .int 0, .int 0, .int 0, .int 0] (.int 0) := A47
  refine G.dup H45 D32_205 (J := 206) rfl rfl ?_
  refine G.bipush H45 D32_206 (J := 208) rfl (v := 12) rfl ?_
  refine G.bipush H45 D32_208 (J := 210) rfl (v := 107) rfl ?_
  refine G.stC H45 A47 (by decide) (i := 12) rfl lB na7 (y := 107) rfl D32_210 (J := 211) rfl ?_
  intro T48 h48_ H48 W49 A50
  replace A50 : Arv Z h48_ a7 k10 .char 18 [.int 116, .int 104, .int 101, .int 32, .int 104, .int 105, .int 110, .int 116, .int 32, .int 111, .int 102, .int 32, .int 107, .int 0, .int 0, .int 0, .int 0, .int 0] (.int 0) := A50
  refine G.dup H48 D32_211 (J := 212) rfl rfl ?_
  refine G.bipush H48 D32_212 (J := 214) rfl (v := 13) rfl ?_
  refine G.bipush H48 D32_214 (J := 216) rfl (v := 101) rfl ?_
  refine G.stC H48 A50 (by decide) (i := 13) rfl lB na7 (y := 101) rfl D32_216 (J := 217) rfl ?_
  intro T51 h51_ H51 W52 A53
  replace A53 : Arv Z h51_ a7 k10 .char 18 [.int 116, .int 104, .int 101, .int 32, .int 104, .int 105, .int 110, .int 116, .int 32, .int 111, .int 102, .int 32, .int 107, .int 101, .int 0, .int 0, .int 0, .int 0] (.int 0) := A53
  refine G.dup H51 D32_217 (J := 218) rfl rfl ?_
  refine G.bipush H51 D32_218 (J := 220) rfl (v := 14) rfl ?_
  refine G.bipush H51 D32_220 (J := 222) rfl (v := 121) rfl ?_
  refine G.stC H51 A53 (by decide) (i := 14) rfl lB na7 (y := 121) rfl D32_222 (J := 223) rfl ?_
  intro T54 h54_ H54 W55 A56
  replace A56 : Arv Z h54_ a7 k10 .char 18 [.int 116, .int 104, .int 101, .int 32, .int 104, .int 105, .int 110, .int 116, .int 32, .int 111, .int 102, .int 32, .int 107, .int 101, .int 121, .int 0, .int 0, .int 0] (.int 0) := A56
  refine G.dup H54 D32_223 (J := 224) rfl rfl ?_
  refine G.bipush H54 D32_224 (J := 226) rfl (v := 15) rfl ?_
  refine G.bipush H54 D32_226 (J := 228) rfl (v := 32) rfl ?_
  refine G.stC H54 A56 (by decide) (i := 15) rfl lB na7 (y := 32) rfl D32_228 (J := 229) rfl ?_
  intro T57 h57_ H57 W58 A59
  replace A59 : Arv Z h57_ a7 k10 .char 18 [.int 116, .int 104, .int 101, .int 32, .int 104, .int 105, .int 110, .int 116, .int 32, .int 111, .int 102, .int 32, .int 107, .int 101, .int 121, .int 32, .int 0, .int 0] (.int 0) := A59
  refine G.dup H57 D32_229 (J := 230) rfl rfl ?_
  refine G.bipush H57 D32_230 (J := 232) rfl (v := 16) rfl ?_
  refine G.iloadN H57 D32_232 (J := 233) rfl rfl ?_
  refine G.stC H57 A59 (by decide) (i := 16) rfl lB na7 (y := x0) (own_narC r0) D32_233 (J := 234) rfl ?_
  intro T60 h60_ H60 W61 A62
  replace A62 : Arv Z h60_ a7 k10 .char 18 [.int 116, .int 104, .int 101, .int 32, .int 104, .int 105, .int 110, .int 116, .int 32, .int 111, .int 102, .int 32, .int 107, .int 101, .int 121, .int 32, .int x0, .int 0] (.int 0) := A62
  refine G.dup H60 D32_234 (J := 235) rfl rfl ?_
  refine G.bipush H60 D32_235 (J := 237) rfl (v := 17) rfl ?_
  refine G.iloadN H60 D32_237 (J := 238) rfl rfl ?_
  refine G.stC H60 A62 (by decide) (i := 17) rfl lB na7 (y := x1) (own_narC r1) D32_238 (J := 239) rfl ?_
  intro T63 h63_ H63 W64 A65
  replace A65 : Arv Z h63_ a7 k10 .char 18 [.int 116, .int 104, .int 101, .int 32, .int 104, .int 105, .int 110, .int 116, .int 32, .int 111, .int 102, .int 32, .int 107, .int 101, .int 121, .int 32, .int x0, .int x1] (.int 0) := A65
  have K66 : Keep h1_ h63_ [] := (Keep.wr (Keep.wr (Keep.wr (Keep.wr (Keep.wr (Keep.wr (Keep.wr (Keep.wr (Keep.wr (Keep.wr (Keep.wr (Keep.wr (Keep.wr (Keep.wr (Keep.wr (Keep.wr (Keep.wr (Keep.wr (Keep.ext (Keep.refl h1_ []) E8) W13 (Or.inr (Nat.le_of_eq ga7.symm))) W16 (Or.inr (Nat.le_of_eq ga7.symm))) W19 (Or.inr (Nat.le_of_eq ga7.symm))) W22 (Or.inr (Nat.le_of_eq ga7.symm))) W25 (Or.inr (Nat.le_of_eq ga7.symm))) W28 (Or.inr (Nat.le_of_eq ga7.symm))) W31 (Or.inr (Nat.le_of_eq ga7.symm))) W34 (Or.inr (Nat.le_of_eq ga7.symm))) W37 (Or.inr (Nat.le_of_eq ga7.symm))) W40 (Or.inr (Nat.le_of_eq ga7.symm))) W43 (Or.inr (Nat.le_of_eq ga7.symm))) W46 (Or.inr (Nat.le_of_eq ga7.symm))) W49 (Or.inr (Nat.le_of_eq ga7.symm))) W52 (Or.inr (Nat.le_of_eq ga7.symm))) W55 (Or.inr (Nat.le_of_eq ga7.symm))) W58 (Or.inr (Nat.le_of_eq ga7.symm))) W61 (Or.inr (Nat.le_of_eq ga7.symm))) W64 (Or.inr (Nat.le_of_eq ga7.symm)))
  have F67 := (Exa.keep A4 K66)
  have F68 : Fld Z h1_ a2 "java/lang/String" "value" "[B" .null := D5 (Or.inr (wd5 V)) (ty := (.array .byte)) (by decide)
  have F69 := (Fld.keep F68 K66 nin0)
  have F70 : Fld Z h1_ a2 "java/lang/String" "coder" "B" (.int 0) := D5 (Or.inr (wd6 V)) (ty := .byte) (by decide)
  have F71 := (Fld.keep F70 K66 nin0)
  refine G.newStr H63 (strw V) (wd3 V) (wd214 V) (wd215 V) (cs := [116, 104, 101, 32, 104, 105, 110, 116, 32, 111, 102, 32, 107, 101, 121, 32, x0, x1]) (n := 18) na2 F67 F69 F71 A65 (hv9 V) (hv10 V) rfl rfl (by decide) (by decide) (cbS (by decide) (cbS (by decide) (cbS (by decide) (cbS (by decide) (cbS (by decide) (cbS (by decide) (cbS (by decide) (cbS (by decide) (cbS (by decide) (cbS (by decide) (cbS (by decide) (cbS (by decide) (cbS (by decide) (cbS (by decide) (cbS (by decide) (cbS (by decide) (cbS r3 (cbS r2 cb0)))))))))))))))))) (Sf.mem (mG (i := 1) rfl)) (rest := [.ref a2]) (W := 1) rfl rfl D32_239 (J := 242) rfl (by decide) (by decide) (by decide) (by decide) ?_
  intro T72 h72_ t73 k74 g77 H72 K75 S76
  have nt73 : n0 ≤ t73 := Nat.le_trans H63.le g77
  have K78 : Keep h0 h1_ [] := (Keep.ext (Keep.refl h0 []) E3)
  have K79 : Keep h0 h72_ [] := (Keep.trans (Keep.wr (Keep.wr (Keep.wr (Keep.wr (Keep.wr (Keep.wr (Keep.wr (Keep.wr (Keep.wr (Keep.wr (Keep.wr (Keep.wr (Keep.wr (Keep.wr (Keep.wr (Keep.wr (Keep.wr (Keep.wr (Keep.ext (Keep.ext (Keep.refl h0 []) E3) E8) W13 (Or.inr (Nat.le_trans K78.1 (Nat.le_of_eq ga7.symm)))) W16 (Or.inr (Nat.le_trans K78.1 (Nat.le_of_eq ga7.symm)))) W19 (Or.inr (Nat.le_trans K78.1 (Nat.le_of_eq ga7.symm)))) W22 (Or.inr (Nat.le_trans K78.1 (Nat.le_of_eq ga7.symm)))) W25 (Or.inr (Nat.le_trans K78.1 (Nat.le_of_eq ga7.symm)))) W28 (Or.inr (Nat.le_trans K78.1 (Nat.le_of_eq ga7.symm)))) W31 (Or.inr (Nat.le_trans K78.1 (Nat.le_of_eq ga7.symm)))) W34 (Or.inr (Nat.le_trans K78.1 (Nat.le_of_eq ga7.symm)))) W37 (Or.inr (Nat.le_trans K78.1 (Nat.le_of_eq ga7.symm)))) W40 (Or.inr (Nat.le_trans K78.1 (Nat.le_of_eq ga7.symm)))) W43 (Or.inr (Nat.le_trans K78.1 (Nat.le_of_eq ga7.symm)))) W46 (Or.inr (Nat.le_trans K78.1 (Nat.le_of_eq ga7.symm)))) W49 (Or.inr (Nat.le_trans K78.1 (Nat.le_of_eq ga7.symm)))) W52 (Or.inr (Nat.le_trans K78.1 (Nat.le_of_eq ga7.symm)))) W55 (Or.inr (Nat.le_trans K78.1 (Nat.le_of_eq ga7.symm)))) W58 (Or.inr (Nat.le_trans K78.1 (Nat.le_of_eq ga7.symm)))) W61 (Or.inr (Nat.le_trans K78.1 (Nat.le_of_eq ga7.symm)))) W64 (Or.inr (Nat.le_trans K78.1 (Nat.le_of_eq ga7.symm)))) K75 (allS (Or.inr (Nat.le_of_eq ga2.symm)) all0))
  exact G.retA H72 (t := (.object "java/lang/String")) rfl rfl rfl D32_242 (so := [a2, t73]) (allS (mG (i := 2) rfl) (allS (mG (i := 0) rfl) all0)) (by decide) (by decide) ⟨a2, t73, k74, rfl, rfl, K79, (Nat.le_of_eq ga2.symm), (Nat.lt_of_lt_of_le (Nat.lt_of_lt_of_le A4.lt K66.1) g77), S76⟩
theorem m127_ensureCapacityInternal (V : Env1 Z a0 n0 uu0 uu1 uu2 uu3 uu4) (p0 : Addr) (p1 : Addr) (c0 : ClassId) (h0 : Heap) (hO : Old Z n0 h0) (f0 : Fld Z h0 p0 "java/lang/AbstractStringBuilder" "value" "[B" (.ref p1)) (f1 : Arv Z h0 p1 c0 .byte 34 [.int 116, .int 104, .int 101, .int 32, .int 116, .int 111, .int 103, .int 103, .int 108, .int 101, .int 32, .int 111, .int 102, .int 32, .int 107, .int 101, .int 121, .int 32, .int 0, .int 0, .int 0, .int 0, .int 0, .int 0, .int 0, .int 0, .int 0, .int 0, .int 0, .int 0, .int 0, .int 0, .int 0, .int 0] (.int 0)) (f2 : Fld Z h0 p0 "java/lang/AbstractStringBuilder" "coder" "B" (.int 0)) :
    Met Z a0 ELs True n0 l ⟨"java/lang/AbstractStringBuilder", "ensureCapacityInternal", "(I)V"⟩ jdk_68_method_9_code 3 none ⟨0, 0, 0, 0⟩ #[.ref p0, .int 20] h0 [] (fun v h so => (v = none ∧ so = [] ∧ h0 = h)) := by
  refine Met.of (EWl V) (by first | decide +kernel | rfl) hO (L0 := #[.val (.ref p0), .val (.int 20), .unset]) rfl ?_
  intro p e s m below meth c T H
  show Go p e below _ (T.setTop (mkF m 0 _ []))
  refine G.aloadN H D31_0 (J := 1) rfl rfl rfl ?_
  refine G.getF H (wd98 V) Via.refl f0 D31_1 (J := 4) rfl ?_
  intro T1 H2
  refine G.arrlen H2 f1 D31_4 (J := 5) rfl ?_
  refine G.aloadN H2 D31_5 (J := 6) rfl rfl rfl ?_
  refine G.getF H2 (wd100 V) Via.refl f2 D31_6 (J := 9) rfl ?_
  intro T3 H4
  refine G.ishr H4 D31_9 (J := 10) rfl ?_
  show Go p e below _ (T3.setTop (mkF m 10 _ [.int 34]))
  refine G.istoreN H4 (L' := #[.val (.ref p0), .val (.int 20), .val (.int 34)]) D31_10 (J := 11) rfl rfl ?_
  refine G.iloadN H4 D31_11 (J := 12) rfl rfl ?_
  refine G.iloadN H4 D31_12 (J := 13) rfl rfl ?_
  refine G.isub H4 D31_13 (J := 14) rfl ?_
  show Go p e below _ (T3.setTop (mkF m 14 _ [(.int (-14 : Int32))]))
  refine G.ifYes H4 D31_14 (by decide) (by decide) (J := 38) rfl ?_
  exact G.retV H4 rfl D31_38 (so := []) all0 (by decide) (by decide) ⟨rfl, rfl, rfl⟩
theorem m128_getBytes (V : Env1 Z a0 n0 uu0 uu1 uu2 uu3 uu4) (p0 : Addr) (p1 : Addr) (p2 : Addr) (c0 : ClassId) (x0 : Int32) (x1 : Int32) (c1 : ClassId) (h0 : Heap) (hO : Old Z n0 h0) (f0 : Exa Z h0 p0 "java/lang/String") (f1 : Fld Z h0 p0 "java/lang/String" "coder" "B" (.int 0)) (f2 : Fld Z h0 p0 "java/lang/String" "value" "[B" (.ref p2)) (f3 : Arv Z h0 p2 c0 .byte 2 [.int x0, .int x1] (.int 0)) (f4 : Arv Z h0 p1 c1 .byte 34 [.int 116, .int 104, .int 101, .int 32, .int 116, .int 111, .int 103, .int 103, .int 108, .int 101, .int 32, .int 111, .int 102, .int 32, .int 107, .int 101, .int 121, .int 32, .int 0, .int 0, .int 0, .int 0, .int 0, .int 0, .int 0, .int 0, .int 0, .int 0, .int 0, .int 0, .int 0, .int 0, .int 0, .int 0] (.int 0)) (g5 : n0 ≤ p1) :
    Met Z a0 ELs True n0 l ⟨"java/lang/String", "getBytes", "([BIB)V"⟩ jdk_42_method_147_code 4 none ⟨1, 0, 0, 40⟩ #[.ref p0, .ref p1, .int 18, .int 0] h0 [p1] (fun v h so => (v = none ∧ so = [] ∧ Keep h0 h [p1] ∧ Arv Z h p1 c1 .byte 34 [.int 116, .int 104, .int 101, .int 32, .int 116, .int 111, .int 103, .int 103, .int 108, .int 101, .int 32, .int 111, .int 102, .int 32, .int 107, .int 101, .int 121, .int 32, .int x0, .int x1, .int 0, .int 0, .int 0, .int 0, .int 0, .int 0, .int 0, .int 0, .int 0, .int 0, .int 0, .int 0, .int 0, .int 0] (.int 0))) := by
  refine Met.of (EWl V) (by first | decide +kernel | rfl) hO (L0 := #[.val (.ref p0), .val (.ref p1), .val (.int 18), .val (.int 0)]) rfl ?_
  intro p e s m below meth c T H
  show Go p e below _ (T.setTop (mkF m 0 _ []))
  refine G.aloadN H D6_0 (J := 1) rfl rfl rfl ?_
  refine G.callV H (m18_coder V p0 h0 H.old f1) (wd118 V) (wd119 V) (nf_sel (wd121 V)) (wd121 V) (wd120 V) (wd2 V) (wd122 V) (by decide) f0 (argsL := []) (rest := []) (W := 0) rfl rfl (lenOf (pd_11) rfl) rfl rfl D6_1 (J := 4) rfl (by decide) (by decide) (by decide) (by decide) all0 ?_
  intro T1 h1_ v2 s3 H1 Q4
  obtain ⟨rfl, rfl, rfl⟩ := Q4
  show Go p e below _ (T1.setTop (mkF m 4 _ [.int 0]))
  refine G.iloadN H1 D6_4 (J := 5) rfl rfl ?_
  refine G.icmpNo H1 D6_5 (J := 8) rfl (by decide) ?_
  refine G.aloadN H1 D6_8 (J := 9) rfl rfl rfl ?_
  refine G.getF H1 (wd28 V) Via.refl f2 D6_9 (J := 12) rfl ?_
  intro T5 H6
  refine G.iconst H6 D6_12 (J := 13) rfl (v := 0) rfl ?_
  refine G.aloadN H6 D6_13 (J := 14) rfl rfl rfl ?_
  refine G.iloadN H6 D6_14 (J := 15) rfl rfl ?_
  refine G.iloadN H6 D6_15 (J := 16) rfl rfl ?_
  refine G.ishl H6 D6_16 (J := 17) rfl ?_
  show Go p e below _ (T5.setTop (mkF m 17 _ [.int 18, .ref p1, .int 0, .ref p2]))
  refine G.aloadN H6 D6_17 (J := 18) rfl rfl rfl ?_
  refine G.getF H6 (wd28 V) Via.refl f2 D6_18 (J := 21) rfl ?_
  intro T7 H8
  refine G.arrlen H8 f3 D6_21 (J := 22) rfl ?_
  refine G.copy H8 (wd146 V) (wd149 V) (wd147 V) (wd148 V) f3 f4 (us := [.int x0, .int x1]) (Or.inl ⟨rfl, rfl⟩) (by decide) (by decide) (by decide) (by decide) (by decide) rfl lB (vr := [.int 116, .int 104, .int 101, .int 32, .int 116, .int 111, .int 103, .int 103, .int 108, .int 101, .int 32, .int 111, .int 102, .int 32, .int 107, .int 101, .int 121, .int 32, .int x0, .int x1, .int 0, .int 0, .int 0, .int 0, .int 0, .int 0, .int 0, .int 0, .int 0, .int 0, .int 0, .int 0, .int 0, .int 0]) rfl g5 (Sf.mem (mG (i := 0) rfl)) (st := []) (W := 0) rfl rfl D6_22 (J := 25) rfl (by decide) (by decide) ?_
  intro T9 h9_ H9 K10 A11
  refine G.goto H9 D6_25 (by decide) (J := 43) rfl ?_
  have K12 : Keep h0 h9_ [p1] := (Keep.trans (Keep.refl h0 [p1]) K10 (allS (Or.inl (mG (i := 0) rfl)) all0))
  exact G.retV H9 rfl D6_43 (so := []) all0 (by decide) (by decide) ⟨rfl, rfl, K12, A11⟩
theorem m129_putStringAt (V : Env1 Z a0 n0 uu0 uu1 uu2 uu3 uu4) (p0 : Addr) (p1 : Addr) (p2 : Addr) (p3 : Addr) (c0 : ClassId) (x0 : Int32) (x1 : Int32) (c1 : ClassId) (h0 : Heap) (hO : Old Z n0 h0) (f0 : Exa Z h0 p0 "java/lang/StringBuilder") (f1 : Fld Z h0 p0 "java/lang/AbstractStringBuilder" "coder" "B" (.int 0)) (f2 : Exa Z h0 p1 "java/lang/String") (f3 : Fld Z h0 p1 "java/lang/String" "coder" "B" (.int 0)) (f4 : Fld Z h0 p0 "java/lang/AbstractStringBuilder" "value" "[B" (.ref p2)) (f5 : Fld Z h0 p1 "java/lang/String" "value" "[B" (.ref p3)) (f6 : Arv Z h0 p3 c0 .byte 2 [.int x0, .int x1] (.int 0)) (f7 : Arv Z h0 p2 c1 .byte 34 [.int 116, .int 104, .int 101, .int 32, .int 116, .int 111, .int 103, .int 103, .int 108, .int 101, .int 32, .int 111, .int 102, .int 32, .int 107, .int 101, .int 121, .int 32, .int 0, .int 0, .int 0, .int 0, .int 0, .int 0, .int 0, .int 0, .int 0, .int 0, .int 0, .int 0, .int 0, .int 0, .int 0, .int 0] (.int 0)) (g8 : n0 ≤ p2) :
    Met Z a0 ELs True n0 l ⟨"java/lang/AbstractStringBuilder", "putStringAt", "(ILjava/lang/String;)V"⟩ jdk_68_method_73_code 3 none ⟨2, 0, 0, 55⟩ #[.ref p0, .int 18, .ref p1] h0 [p2] (fun v h so => (v = none ∧ so = [] ∧ Keep h0 h [p2] ∧ Arv Z h p2 c1 .byte 34 [.int 116, .int 104, .int 101, .int 32, .int 116, .int 111, .int 103, .int 103, .int 108, .int 101, .int 32, .int 111, .int 102, .int 32, .int 107, .int 101, .int 121, .int 32, .int x0, .int x1, .int 0, .int 0, .int 0, .int 0, .int 0, .int 0, .int 0, .int 0, .int 0, .int 0, .int 0, .int 0, .int 0, .int 0] (.int 0))) := by
  refine Met.of (EWl V) (by first | decide +kernel | rfl) hO (L0 := #[.val (.ref p0), .val (.int 18), .val (.ref p1)]) rfl ?_
  intro p e s m below meth c T H
  show Go p e below _ (T.setTop (mkF m 0 _ []))
  refine G.aloadN H D30_0 (J := 1) rfl rfl rfl ?_
  refine G.aloadN H D30_1 (J := 2) rfl rfl rfl ?_
  refine G.callV H (m21_inflateIfNeededFor V p0 p1 h0 H.old f1 f2 f3) (wd135 V) (decl_of (wd136 V) (wd139 V)) (nf_sel (wd138 V)) (wd138 V) (wd136 V) (wd94 V) (wd139 V) (by decide) f0 (argsL := [.ref p1]) (rest := []) (W := 0) rfl rfl (lenOf (pd_12) rfl) rfl rfl D30_2 (J := 5) rfl (by decide) (by decide) (by decide) (by decide) all0 ?_
  intro T1 h1_ v2 s3 H1 Q4
  obtain ⟨rfl, rfl, rfl⟩ := Q4
  show Go p e below _ (T1.setTop (mkF m 5 _ []))
  refine G.aloadN H1 D30_5 (J := 6) rfl rfl rfl ?_
  refine G.aloadN H1 D30_6 (J := 7) rfl rfl rfl ?_
  refine G.getF H1 (wd98 V) Via.refl f4 D30_7 (J := 10) rfl ?_
  intro T5 H6
  refine G.iloadN H6 D30_10 (J := 11) rfl rfl ?_
  refine G.aloadN H6 D30_11 (J := 12) rfl rfl rfl ?_
  refine G.getF H6 (wd100 V) Via.refl f1 D30_12 (J := 15) rfl ?_
  intro T7 H8
  refine G.callV H8 (m128_getBytes V p1 p2 p3 c0 x0 x1 c1 h0 H8.old f2 f3 f5 f6 f7 g8) (wd141 V) (wd142 V) (nf_sel (wd144 V)) (wd144 V) (wd143 V) (wd2 V) (wd145 V) (by decide) f2 (argsL := [.ref p2, .int 18, .int 0]) (rest := []) (W := 0) rfl rfl (lenOf (pd_13) rfl) rfl rfl D30_15 (J := 18) rfl (by decide) (by decide) (by decide) (by decide) (allS (mG (i := 0) rfl) all0) ?_
  intro T9 h9_ v10 s11 H9 Q12
  obtain ⟨rfl, rfl, K13, F14⟩ := Q12
  show Go p e below _ (T9.setTop (mkF m 18 _ []))
  have K15 : Keep h0 h9_ [p2] := (Keep.trans (Keep.refl h0 [p2]) K13 (allS (Or.inl (mG (i := 0) rfl)) all0))
  exact G.retV H9 rfl D30_18 (so := []) all0 (by decide) (by decide) ⟨rfl, rfl, K15, F14⟩
theorem m130_append (V : Env1 Z a0 n0 uu0 uu1 uu2 uu3 uu4) (p0 : Addr) (p1 : Addr) (p2 : Addr) (c0 : ClassId) (x0 : Int32) (x1 : Int32) (p3 : Addr) (c1 : ClassId) (h0 : Heap) (hO : Old Z n0 h0) (f0 : Exa Z h0 p1 "java/lang/String") (f1 : Fld Z h0 p1 "java/lang/String" "value" "[B" (.ref p2)) (f2 : Arv Z h0 p2 c0 .byte 2 [.int x0, .int x1] (.int 0)) (f3 : Fld Z h0 p1 "java/lang/String" "coder" "B" (.int 0)) (f4 : Fld Z h0 p0 "java/lang/AbstractStringBuilder" "count" "I" (.int 18)) (f5 : Exa Z h0 p0 "java/lang/StringBuilder") (f6 : Fld Z h0 p0 "java/lang/AbstractStringBuilder" "value" "[B" (.ref p3)) (f7 : Arv Z h0 p3 c1 .byte 34 [.int 116, .int 104, .int 101, .int 32, .int 116, .int 111, .int 103, .int 103, .int 108, .int 101, .int 32, .int 111, .int 102, .int 32, .int 107, .int 101, .int 121, .int 32, .int 0, .int 0, .int 0, .int 0, .int 0, .int 0, .int 0, .int 0, .int 0, .int 0, .int 0, .int 0, .int 0, .int 0, .int 0, .int 0] (.int 0)) (f8 : Fld Z h0 p0 "java/lang/AbstractStringBuilder" "coder" "B" (.int 0)) (g9 : n0 ≤ p3) (g10 : n0 ≤ p0) :
    Met Z a0 ELs True n0 l ⟨"java/lang/AbstractStringBuilder", "append", "(Ljava/lang/String;)Ljava/lang/AbstractStringBuilder;"⟩ jdk_68_method_22_code 3 (some (.object "java/lang/AbstractStringBuilder")) ⟨3, 0, 0, 69⟩ #[.ref p0, .ref p1] h0 [p3] (fun v h so => (v = some (.ref p0) ∧ so = [] ∧ Keep h0 h [p3, p0] ∧ (∀ (O n d : String) (w : Value), Fld Z h0 p0 O n d w → RoadKit.slotOf Z O n d ≠ RoadKit.slotOf Z "java/lang/AbstractStringBuilder" "count" "I" → Fld Z h p0 O n d w) ∧ Arv Z h p3 c1 .byte 34 [.int 116, .int 104, .int 101, .int 32, .int 116, .int 111, .int 103, .int 103, .int 108, .int 101, .int 32, .int 111, .int 102, .int 32, .int 107, .int 101, .int 121, .int 32, .int x0, .int x1, .int 0, .int 0, .int 0, .int 0, .int 0, .int 0, .int 0, .int 0, .int 0, .int 0, .int 0, .int 0, .int 0, .int 0] (.int 0) ∧ Fld Z h p0 "java/lang/AbstractStringBuilder" "count" "I" (.int 20) ∧ Exa Z h p0 "java/lang/StringBuilder" ∧ Fld Z h p0 "java/lang/AbstractStringBuilder" "value" "[B" (.ref p3) ∧ Fld Z h p0 "java/lang/AbstractStringBuilder" "coder" "B" (.int 0))) := by
  refine Met.of (EWl V) (by first | decide +kernel | rfl) hO (L0 := #[.val (.ref p0), .val (.ref p1), .unset]) rfl ?_
  intro p e s m below meth c T H
  show Go p e below _ (T.setTop (mkF m 0 _ []))
  refine G.aloadN H D24_0 (J := 1) rfl rfl rfl ?_
  refine G.ifnonnullYes H D24_1 (by decide) (J := 9) rfl ?_
  refine G.aloadN H D24_9 (J := 10) rfl rfl rfl ?_
  refine G.callV H (m113_length V p1 p2 c0 x0 x1 h0 H.old f1 f2 f0 f3) (wd113 V) (wd114 V) (nf_sel (wd116 V)) (wd116 V) (wd115 V) (wd2 V) (wd117 V) (by decide) f0 (argsL := []) (rest := []) (W := 0) rfl rfl (lenOf (pd_7) rfl) rfl rfl D24_10 (J := 13) rfl (by decide) (by decide) (by decide) (by decide) all0 ?_
  intro T1 h1_ v2 s3 H1 Q4
  obtain ⟨rfl, rfl, rfl⟩ := Q4
  show Go p e below _ (T1.setTop (mkF m 13 _ [.int 2]))
  refine G.istoreN H1 (L' := #[.val (.ref p0), .val (.ref p1), .val (.int 2)]) D24_13 (J := 14) rfl rfl ?_
  refine G.aloadN H1 D24_14 (J := 15) rfl rfl rfl ?_
  refine G.aloadN H1 D24_15 (J := 16) rfl rfl rfl ?_
  refine G.getF H1 (wd123 V) Via.refl f4 D24_16 (J := 19) rfl ?_
  intro T5 H6
  refine G.iloadN H6 D24_19 (J := 20) rfl rfl ?_
  refine G.iadd H6 D24_20 (J := 21) rfl ?_
  show Go p e below _ (T5.setTop (mkF m 21 _ [.int 20, .ref p0]))
  refine G.callV H6 (m127_ensureCapacityInternal V p0 p3 c1 h0 H6.old f6 f7 f8) (wd125 V) (decl_of (wd126 V) (wd129 V)) (nf_sel (wd128 V)) (wd128 V) (wd126 V) (wd94 V) (wd129 V) (by decide) f5 (argsL := [.int 20]) (rest := []) (W := 0) rfl rfl (lenOf (pd_10) rfl) rfl rfl D24_21 (J := 24) rfl (by decide) (by decide) (by decide) (by decide) all0 ?_
  intro T7 h7_ v8 s9 H7 Q10
  obtain ⟨rfl, rfl, rfl⟩ := Q10
  show Go p e below _ (T7.setTop (mkF m 24 _ []))
  refine G.aloadN H7 D24_24 (J := 25) rfl rfl rfl ?_
  refine G.aloadN H7 D24_25 (J := 26) rfl rfl rfl ?_
  refine G.getF H7 (wd123 V) Via.refl f4 D24_26 (J := 29) rfl ?_
  intro T11 H12
  refine G.aloadN H12 D24_29 (J := 30) rfl rfl rfl ?_
  refine G.callV H12 (m129_putStringAt V p0 p1 p3 p2 c0 x0 x1 c1 h0 H12.old f5 f8 f0 f3 f6 f1 f2 f7 g9) (wd130 V) (decl_of (wd131 V) (wd134 V)) (nf_sel (wd133 V)) (wd133 V) (wd131 V) (wd94 V) (wd134 V) (by decide) f5 (argsL := [.int 18, .ref p1]) (rest := []) (W := 0) rfl rfl (lenOf (pd_14) rfl) rfl rfl D24_30 (J := 33) rfl (by decide) (by decide) (by decide) (by decide) (allS (mG (i := 0) rfl) all0) ?_
  intro T13 h13_ v14 s15 H13 Q16
  obtain ⟨rfl, rfl, K17, F18⟩ := Q16
  show Go p e below _ (T13.setTop (mkF m 33 _ []))
  refine G.aloadN H13 D24_33 (J := 34) rfl rfl rfl ?_
  refine G.dup H13 D24_34 (J := 35) rfl rfl ?_
  have N19 : p0 ≠ p3 := Exa.neArv (Exa.keep f5 K17) F18 (wd85 V)
  have F20 := (Fld.keep f4 K17 (ninS N19 nin0))
  refine G.getF H13 (wd123 V) Via.refl F20 D24_35 (J := 38) rfl ?_
  intro T21 H22
  refine G.iloadN H22 D24_38 (J := 39) rfl rfl ?_
  refine G.iadd H22 D24_39 (J := 40) rfl ?_
  show Go p e below _ (T21.setTop (mkF m 40 _ [.int 20, .ref p0]))
  have F23 := (Exa.keep f5 K17)
  refine G.putF H22 (wd123 V) Via.refl F20 F23 (Or.inl (wd124 V)) (wd85 V) (ty := .int) (by decide) rfl rfl g10 (Sf.exa F23) D24_40 (J := 43) rfl ?_
  intro T24 h24_ H24 W25
  have F26 : Fld Z h24_ p0 "java/lang/AbstractStringBuilder" "count" "I" (.int 20) := Fld.same W25 F20
  refine G.aloadN H24 D24_43 (J := 44) rfl rfl rfl ?_
  have F27 := (Arv.other F18 W25 (Ne.symm N19))
  have F28 := (Exa.wr W25 F23)
  have F29 := (Fld.other W25 (Fld.keep f6 K17 (ninS N19 nin0)) (Or.inr (slot_ne (Or.inl (wd99 V)) (Or.inl (wd124 V)) (by decide) (t := (.array .byte)) (t' := .int) (by decide) (by decide))))
  have F30 := (Fld.other W25 (Fld.keep f8 K17 (ninS N19 nin0)) (Or.inr (slot_ne (Or.inl (wd101 V)) (Or.inl (wd124 V)) (by decide) (t := .byte) (t' := .int) (by decide) (by decide))))
  have K31 : Keep h0 h24_ [p3, p0] := (Keep.wr (Keep.trans (Keep.refl h0 [p3, p0]) K17 (allS (Or.inl (mG (i := 0) rfl)) all0)) W25 (Or.inl (mG (i := 1) rfl)))
  exact G.retA H24 (t := (.object "java/lang/AbstractStringBuilder")) rfl rfl rfl D24_44 (so := []) all0 (by decide) (by decide) ⟨rfl, rfl, K31, (fun O n d w F hn0 => (Fld.other W25 (Fld.keep F K17 (ninS N19 nin0)) (Or.inr hn0))), F27, F26, F28, F29, F30⟩
theorem m131_append (V : Env1 Z a0 n0 uu0 uu1 uu2 uu3 uu4) (p0 : Addr) (p1 : Addr) (p2 : Addr) (c0 : ClassId) (x0 : Int32) (x1 : Int32) (p3 : Addr) (c1 : ClassId) (h0 : Heap) (hO : Old Z n0 h0) (f0 : Exa Z h0 p1 "java/lang/String") (f1 : Fld Z h0 p1 "java/lang/String" "value" "[B" (.ref p2)) (f2 : Arv Z h0 p2 c0 .byte 2 [.int x0, .int x1] (.int 0)) (f3 : Fld Z h0 p1 "java/lang/String" "coder" "B" (.int 0)) (f4 : Fld Z h0 p0 "java/lang/AbstractStringBuilder" "count" "I" (.int 18)) (f5 : Exa Z h0 p0 "java/lang/StringBuilder") (f6 : Fld Z h0 p0 "java/lang/AbstractStringBuilder" "value" "[B" (.ref p3)) (f7 : Arv Z h0 p3 c1 .byte 34 [.int 116, .int 104, .int 101, .int 32, .int 116, .int 111, .int 103, .int 103, .int 108, .int 101, .int 32, .int 111, .int 102, .int 32, .int 107, .int 101, .int 121, .int 32, .int 0, .int 0, .int 0, .int 0, .int 0, .int 0, .int 0, .int 0, .int 0, .int 0, .int 0, .int 0, .int 0, .int 0, .int 0, .int 0] (.int 0)) (f8 : Fld Z h0 p0 "java/lang/AbstractStringBuilder" "coder" "B" (.int 0)) (g9 : n0 ≤ p3) (g10 : n0 ≤ p0) :
    Met Z a0 ELs True n0 l ⟨"java/lang/StringBuilder", "append", "(Ljava/lang/String;)Ljava/lang/StringBuilder;"⟩ jdk_67_method_7_code 2 (some (.object "java/lang/StringBuilder")) ⟨4, 0, 0, 83⟩ #[.ref p0, .ref p1] h0 [p3] (fun v h so => (v = some (.ref p0) ∧ so = [] ∧ Keep h0 h [p3, p0] ∧ (∀ (O n d : String) (w : Value), Fld Z h0 p0 O n d w → RoadKit.slotOf Z O n d ≠ RoadKit.slotOf Z "java/lang/AbstractStringBuilder" "count" "I" → Fld Z h p0 O n d w) ∧ Arv Z h p3 c1 .byte 34 [.int 116, .int 104, .int 101, .int 32, .int 116, .int 111, .int 103, .int 103, .int 108, .int 101, .int 32, .int 111, .int 102, .int 32, .int 107, .int 101, .int 121, .int 32, .int x0, .int x1, .int 0, .int 0, .int 0, .int 0, .int 0, .int 0, .int 0, .int 0, .int 0, .int 0, .int 0, .int 0, .int 0, .int 0] (.int 0) ∧ Fld Z h p0 "java/lang/AbstractStringBuilder" "count" "I" (.int 20) ∧ Exa Z h p0 "java/lang/StringBuilder" ∧ Fld Z h p0 "java/lang/AbstractStringBuilder" "value" "[B" (.ref p3) ∧ Fld Z h p0 "java/lang/AbstractStringBuilder" "coder" "B" (.int 0))) := by
  refine Met.of (EWl V) (by first | decide +kernel | rfl) hO (L0 := #[.val (.ref p0), .val (.ref p1)]) rfl ?_
  intro p e s m below meth c T H
  show Go p e below _ (T.setTop (mkF m 0 _ []))
  refine G.aloadN H D21_0 (J := 1) rfl rfl rfl ?_
  refine G.aloadN H D21_1 (J := 2) rfl rfl rfl ?_
  refine G.callSup H (m130_append V p0 p1 p2 c0 x0 x1 p3 c1 h0 H.old f0 f1 f2 f3 f4 f5 f6 f7 f8 g9 g10) (wd108 V) (same_of (wd111 V) (wd128 V) rfl (by decide)) (wd109 V) (wd110 V) (by decide) (wd94 V) (wd112 V) (a := p0) (Ins.self f5) (argsL := [.ref p1]) (rest := []) (W := 0) rfl rfl (lenOf (pd_15) rfl) rfl rfl D21_2 (J := 5) rfl (by decide) (by decide) (by decide) (by decide) (allS (mG (i := 0) rfl) all0) ?_
  intro T1 h1_ v2 s3 H1 Q4
  obtain ⟨rfl, rfl, K5, U6, F7, F8, F9, F10, F11⟩ := Q4
  show Go p e below _ (T1.setTop (mkF m 5 _ [.ref p0]))
  refine G.pop H1 D21_5 (J := 6) rfl rfl ?_
  refine G.aloadN H1 D21_6 (J := 7) rfl rfl rfl ?_
  have K12 : Keep h0 h1_ [p3, p0] := (Keep.trans (Keep.refl h0 [p3, p0]) K5 (allS (Or.inl (mG (i := 0) rfl)) (allS (Or.inl (mG (i := 1) rfl)) all0)))
  exact G.retA H1 (t := (.object "java/lang/StringBuilder")) rfl rfl rfl D21_7 (so := []) all0 (by decide) (by decide) ⟨rfl, rfl, K12, (fun O n d w F hn0 => (U6 O n d w F hn0)), F7, F8, F9, F10, F11⟩
theorem m132_length (V : Env1 Z a0 n0 uu0 uu1 uu2 uu3 uu4) (p0 : Addr) (h0 : Heap) (hO : Old Z n0 h0) (f0 : Fld Z h0 p0 "java/lang/AbstractStringBuilder" "count" "I" (.int 20)) :
    Met Z a0 ELs True n0 l ⟨"java/lang/AbstractStringBuilder", "length", "()I"⟩ jdk_68_method_6_code 1 (some .int) ⟨0, 0, 0, 0⟩ #[.ref p0] h0 [] (fun v h so => (v = some (.int 20) ∧ so = [] ∧ h0 = h)) := by
  refine Met.of (EWl V) (by first | decide +kernel | rfl) hO (L0 := #[.val (.ref p0)]) rfl ?_
  intro p e s m below meth c T H
  show Go p e below _ (T.setTop (mkF m 0 _ []))
  refine G.aloadN H D28_0 (J := 1) rfl rfl rfl ?_
  refine G.getF H (wd123 V) Via.refl f0 D28_1 (J := 4) rfl ?_
  intro T1 H2
  exact G.retI H2 rfl D28_4 (so := []) all0 (by decide) (by decide) ⟨rfl, rfl, rfl⟩
theorem m133_length (V : Env1 Z a0 n0 uu0 uu1 uu2 uu3 uu4) (p0 : Addr) (h0 : Heap) (hO : Old Z n0 h0) (f0 : Fld Z h0 p0 "java/lang/AbstractStringBuilder" "count" "I" (.int 20)) (f1 : Exa Z h0 p0 "java/lang/StringBuilder") :
    Met Z a0 ELs True n0 l ⟨"java/lang/StringBuilder", "length", "()I"⟩ jdk_67_method_93_code 1 (some .int) ⟨1, 0, 0, 12⟩ #[.ref p0] h0 [] (fun v h so => (v = some (.int 20) ∧ so = [] ∧ h0 = h)) := by
  refine Met.of (EWl V) (by first | decide +kernel | rfl) hO (L0 := #[.val (.ref p0)]) rfl ?_
  intro p e s m below meth c T H
  show Go p e below _ (T.setTop (mkF m 0 _ []))
  refine G.aloadN H D22_0 (J := 1) rfl rfl rfl ?_
  refine G.callSup H (m132_length V p0 h0 H.old f0) (wd196 V) (same_of (wd191 V) (wd128 V) rfl (by decide)) (wd192 V) (wd110 V) (by decide) (wd94 V) (wd197 V) (a := p0) (Ins.self f1) (argsL := []) (rest := []) (W := 0) rfl rfl (lenOf (pd_7) rfl) rfl rfl D22_1 (J := 4) rfl (by decide) (by decide) (by decide) (by decide) all0 ?_
  intro T1 h1_ v2 s3 H1 Q4
  obtain ⟨rfl, rfl, rfl⟩ := Q4
  show Go p e below _ (T1.setTop (mkF m 4 _ [.int 20]))
  exact G.retI H1 rfl D22_4 (so := []) all0 (by decide) (by decide) ⟨rfl, rfl, rfl⟩
theorem m134_checkLength (V : Env1 Z a0 n0 uu0 uu1 uu2 uu3 uu4)  (h0 : Heap) (hO : Old Z n0 h0)  :
    Met Z a0 ELs True n0 l ⟨"java/util/Arrays", "checkLength", "(II)V"⟩ jdk_65_method_131_code 2 none ⟨0, 0, 0, 0⟩ #[.int 0, .int 20] h0 [] (fun v h so => (v = none ∧ so = [] ∧ h0 = h)) := by
  refine Met.of (EWl V) (by first | decide +kernel | rfl) hO (L0 := #[.val (.int 0), .val (.int 20)]) rfl ?_
  intro p e s m below meth c T H
  show Go p e below _ (T.setTop (mkF m 0 _ []))
  refine G.iloadN H D16_0 (J := 1) rfl rfl ?_
  refine G.iloadN H D16_1 (J := 2) rfl rfl ?_
  refine G.icmpYes H D16_2 (by decide) (by decide) (J := 37) rfl ?_
  exact G.retV H rfl D16_37 (so := []) all0 (by decide) (by decide) ⟨rfl, rfl, rfl⟩
theorem m135_min (V : Env1 Z a0 n0 uu0 uu1 uu2 uu3 uu4)  (h0 : Heap) (hO : Old Z n0 h0)  :
    Met Z a0 ELs True n0 l ⟨"java/lang/Math", "min", "(II)I"⟩ jdk_29_method_69_code 2 (some .int) ⟨0, 0, 0, 0⟩ #[.int 34, .int 20] h0 [] (fun v h so => (v = some (.int 20) ∧ so = [] ∧ h0 = h)) := by
  refine Met.of (EWl V) (by first | decide +kernel | rfl) hO (L0 := #[.val (.int 34), .val (.int 20)]) rfl ?_
  intro p e s m below meth c T H
  show Go p e below _ (T.setTop (mkF m 0 _ []))
  refine G.iloadN H D1_0 (J := 1) rfl rfl ?_
  refine G.iloadN H D1_1 (J := 2) rfl rfl ?_
  refine G.icmpYes H D1_2 (by decide) (by decide) (J := 9) rfl ?_
  refine G.iloadN H D1_9 (J := 10) rfl rfl ?_
  exact G.retI H rfl D1_10 (so := []) all0 (by decide) (by decide) ⟨rfl, rfl, rfl⟩
theorem m136_copyOfRangeByte (V : Env1 Z a0 n0 uu0 uu1 uu2 uu3 uu4) (p0 : Addr) (c0 : ClassId) (x0 : Int32) (x1 : Int32) (h0 : Heap) (hO : Old Z n0 h0) (f0 : Arv Z h0 p0 c0 .byte 34 [.int 116, .int 104, .int 101, .int 32, .int 116, .int 111, .int 103, .int 103, .int 108, .int 101, .int 32, .int 111, .int 102, .int 32, .int 107, .int 101, .int 121, .int 32, .int x0, .int x1, .int 0, .int 0, .int 0, .int 0, .int 0, .int 0, .int 0, .int 0, .int 0, .int 0, .int 0, .int 0, .int 0, .int 0] (.int 0)) :
    Met Z a0 ELs True n0 l ⟨"java/util/Arrays", "copyOfRangeByte", "([BII)[B"⟩ jdk_65_method_133_code 5 (some (.array .byte)) ⟨1, 1, 20, 40⟩ #[.ref p0, .int 0, .int 20] h0 [] (fun v h so => (∃ a6 : Addr, ∃ k9 : ClassId, v = some (.ref a6) ∧ so = [a6] ∧ Keep h0 h [] ∧ h0.size ≤ a6 ∧ Arv Z h a6 k9 .byte 20 [.int 116, .int 104, .int 101, .int 32, .int 116, .int 111, .int 103, .int 103, .int 108, .int 101, .int 32, .int 111, .int 102, .int 32, .int 107, .int 101, .int 121, .int 32, .int x0, .int x1] (.int 0) ∧ Exa Z h a6 "[B")) := by
  refine Met.of (EWl V) (by first | decide +kernel | rfl) hO (L0 := #[.val (.ref p0), .val (.int 0), .val (.int 20), .unset, .unset]) rfl ?_
  intro p e s m below meth c T H
  show Go p e below _ (T.setTop (mkF m 0 _ []))
  refine G.iloadN H D18_0 (J := 1) rfl rfl ?_
  refine G.iloadN H D18_1 (J := 2) rfl rfl ?_
  refine G.callS H (m134_checkLength V h0 H.old) (wd209 V) (wd210 V) (wd167 V) (wd211 V) (by decide) (argsL := [.int 0, .int 20]) (rest := []) (W := 0) rfl rfl (lenOf (pd_26) rfl) rfl rfl D18_2 (J := 5) rfl (by decide) (by decide) (by decide) (by decide) all0 ?_
  intro T1 h1_ v2 s3 H1 Q4
  obtain ⟨rfl, rfl, rfl⟩ := Q4
  show Go p e below _ (T1.setTop (mkF m 5 _ []))
  refine G.iloadN H1 D18_5 (J := 6) rfl rfl ?_
  refine G.iloadN H1 D18_6 (J := 7) rfl rfl ?_
  refine G.isub H1 D18_7 (J := 8) rfl ?_
  show Go p e below _ (T1.setTop (mkF m 8 _ [.int 20]))
  refine G.istoreN H1 (L' := #[.val (.ref p0), .val (.int 0), .val (.int 20), .val (.int 20), .unset]) D18_8 (J := 9) rfl rfl ?_
  refine G.iloadN H1 D18_9 (J := 10) rfl rfl ?_
  refine G.newP H1 (aty := .byte) (wd4 V) D18_10 (J := 12) rfl (by decide) (cap := 20) (by decide) (by decide) (by decide) (by decide) (vs := [.int 0, .int 0, .int 0, .int 0, .int 0, .int 0, .int 0, .int 0, .int 0, .int 0, .int 0, .int 0, .int 0, .int 0, .int 0, .int 0, .int 0, .int 0, .int 0, .int 0]) rfl (ad := "[B") rfl ?_
  intro T5 h5_ a6 k9 ga6 H5 E7 A8 X10
  have na6 := H1.nle ga6
  replace A8 : Arv Z h5_ a6 k9 .byte 20 [.int 0, .int 0, .int 0, .int 0, .int 0, .int 0, .int 0, .int 0, .int 0, .int 0, .int 0, .int 0, .int 0, .int 0, .int 0, .int 0, .int 0, .int 0, .int 0, .int 0] (.int 0) := A8
  refine G.astore H5 (L' := #[.val (.ref p0), .val (.int 0), .val (.int 20), .val (.int 20), .val (.ref a6)]) D18_12 (J := 14) rfl rfl rfl ?_
  refine G.aloadN H5 D18_14 (J := 15) rfl rfl rfl ?_
  refine G.iloadN H5 D18_15 (J := 16) rfl rfl ?_
  refine G.aload H5 D18_16 (J := 18) rfl rfl rfl ?_
  refine G.iconst H5 D18_18 (J := 19) rfl (v := 0) rfl ?_
  refine G.aloadN H5 D18_19 (J := 20) rfl rfl rfl ?_
  have F11 := (Arv.ext f0 E7)
  refine G.arrlen H5 F11 D18_20 (J := 21) rfl ?_
  refine G.iloadN H5 D18_21 (J := 22) rfl rfl ?_
  refine G.isub H5 D18_22 (J := 23) rfl ?_
  show Go p e below _ (T5.setTop (mkF m 23 _ [.int 34, .int 0, .ref a6, .int 0, .ref p0]))
  refine G.iloadN H5 D18_23 (J := 24) rfl rfl ?_
  refine G.callS H5 (m135_min V h5_ H5.old) (wd169 V) (wd170 V) (wd161 V) (wd171 V) (by decide) (argsL := [.int 34, .int 20]) (rest := [.int 0, .ref a6, .int 0, .ref p0]) (W := 4) rfl rfl (lenOf (pd_22) rfl) rfl rfl D18_24 (J := 27) rfl (by decide) (by decide) (by decide) (by decide) all0 ?_
  intro T12 h12_ v13 s14 H12 Q15
  obtain ⟨rfl, rfl, rfl⟩ := Q15
  show Go p e below _ (T12.setTop (mkF m 27 _ [.int 20, .int 0, .ref a6, .int 0, .ref p0]))
  refine G.copy H12 (wd172 V) (wd149 V) (wd147 V) (wd148 V) F11 A8 (us := [.int 116, .int 104, .int 101, .int 32, .int 116, .int 111, .int 103, .int 103, .int 108, .int 101, .int 32, .int 111, .int 102, .int 32, .int 107, .int 101, .int 121, .int 32, .int x0, .int x1]) (Or.inl ⟨rfl, rfl⟩) (by decide) (by decide) (by decide) (by decide) (by decide) rfl lB (vr := [.int 116, .int 104, .int 101, .int 32, .int 116, .int 111, .int 103, .int 103, .int 108, .int 101, .int 32, .int 111, .int 102, .int 32, .int 107, .int 101, .int 121, .int 32, .int x0, .int x1]) rfl na6 (Sf.mem (mG (i := 0) rfl)) (st := []) (W := 0) rfl rfl D18_27 (J := 30) rfl (by decide) (by decide) ?_
  intro T16 h16_ H16 K17 A18
  refine G.aload H16 D18_30 (J := 32) rfl rfl rfl ?_
  have F19 := (Exa.keep X10 K17)
  have K20 : Keep h0 h16_ [] := (Keep.trans (Keep.ext (Keep.refl h0 []) E7) K17 (allS (Or.inr (Nat.le_of_eq ga6.symm)) all0))
  exact G.retA H16 (t := (.array .byte)) rfl rfl rfl D18_32 (so := [a6]) (allS (mG (i := 0) rfl) all0) (by decide) (by decide) ⟨a6, k9, rfl, rfl, K20, (Nat.le_of_eq ga6.symm), A18, F19⟩
theorem m137_copyOfRange (V : Env1 Z a0 n0 uu0 uu1 uu2 uu3 uu4) (p0 : Addr) (c0 : ClassId) (x0 : Int32) (x1 : Int32) (h0 : Heap) (hO : Old Z n0 h0) (f0 : Arv Z h0 p0 c0 .byte 34 [.int 116, .int 104, .int 101, .int 32, .int 116, .int 111, .int 103, .int 103, .int 108, .int 101, .int 32, .int 111, .int 102, .int 32, .int 107, .int 101, .int 121, .int 32, .int x0, .int x1, .int 0, .int 0, .int 0, .int 0, .int 0, .int 0, .int 0, .int 0, .int 0, .int 0, .int 0, .int 0, .int 0, .int 0] (.int 0)) :
    Met Z a0 ELs True n0 l ⟨"java/util/Arrays", "copyOfRange", "([BII)[B"⟩ jdk_65_method_132_code 3 (some (.array .byte)) ⟨2, 1, 20, 56⟩ #[.ref p0, .int 0, .int 20] h0 [] (fun v h so => (∃ a5 : Addr, ∃ k6 : ClassId, v = some (.ref a5) ∧ so = [a5] ∧ Keep h0 h [] ∧ h0.size ≤ a5 ∧ Arv Z h a5 k6 .byte 20 [.int 116, .int 104, .int 101, .int 32, .int 116, .int 111, .int 103, .int 103, .int 108, .int 101, .int 32, .int 111, .int 102, .int 32, .int 107, .int 101, .int 121, .int 32, .int x0, .int x1] (.int 0) ∧ Exa Z h a5 "[B")) := by
  refine Met.of (EWl V) (by first | decide +kernel | rfl) hO (L0 := #[.val (.ref p0), .val (.int 0), .val (.int 20)]) rfl ?_
  intro p e s m below meth c T H
  show Go p e below _ (T.setTop (mkF m 0 _ []))
  refine G.iloadN H D17_0 (J := 1) rfl rfl ?_
  refine G.ifNo H D17_1 (J := 4) rfl (by decide) ?_
  refine G.iloadN H D17_4 (J := 5) rfl rfl ?_
  refine G.aloadN H D17_5 (J := 6) rfl rfl rfl ?_
  refine G.arrlen H f0 D17_6 (J := 7) rfl ?_
  refine G.icmpNo H D17_7 (J := 10) rfl (by decide) ?_
  refine G.aloadN H D17_10 (J := 11) rfl rfl rfl ?_
  refine G.iloadN H D17_11 (J := 12) rfl rfl ?_
  refine G.iloadN H D17_12 (J := 13) rfl rfl ?_
  refine G.callS H (m136_copyOfRangeByte V p0 c0 x0 x1 h0 H.old f0) (wd206 V) (wd207 V) (wd167 V) (wd208 V) (by decide) (argsL := [.ref p0, .int 0, .int 20]) (rest := []) (W := 0) rfl rfl (lenOf (pd_19) rfl) rfl rfl D17_13 (J := 16) rfl (by decide) (by decide) (by decide) (by decide) all0 ?_
  intro T1 h1_ v2 s3 H1 Q4
  obtain ⟨a5, k6, rfl, rfl, K7, g8, F9, F10⟩ := Q4
  have na5 : n0 ≤ a5 := Nat.le_trans H.le g8
  show Go p e below _ (T1.setTop (mkF m 16 _ [.ref a5]))
  have K11 : Keep h0 h1_ [] := (Keep.trans (Keep.refl h0 []) K7 all0)
  exact G.retA H1 (t := (.array .byte)) rfl rfl rfl D17_16 (so := [a5]) (allS (mG (i := 0) rfl) all0) (by decide) (by decide) ⟨a5, k6, rfl, rfl, K11, g8, F9, F10⟩
theorem m138_init (V : Env1 Z a0 n0 uu0 uu1 uu2 uu3 uu4) (p0 : Addr) (p1 : Addr) (p2 : Addr) (c0 : ClassId) (x0 : Int32) (x1 : Int32) (h0 : Heap) (hO : Old Z n0 h0) (f0 : Exa Z h0 p1 "java/lang/StringBuilder") (f1 : Fld Z h0 p1 "java/lang/AbstractStringBuilder" "value" "[B" (.ref p2)) (f2 : Fld Z h0 p1 "java/lang/AbstractStringBuilder" "count" "I" (.int 20)) (f3 : Fld Z h0 p1 "java/lang/AbstractStringBuilder" "coder" "B" (.int 0)) (f4 : Exa Z h0 p0 "java/lang/String") (f5 : Fld Z h0 p0 "java/lang/String" "coder" "B" (.int 0)) (g6 : n0 ≤ p0) (f7 : Arv Z h0 p2 c0 .byte 34 [.int 116, .int 104, .int 101, .int 32, .int 116, .int 111, .int 103, .int 103, .int 108, .int 101, .int 32, .int 111, .int 102, .int 32, .int 107, .int 101, .int 121, .int 32, .int x0, .int x1, .int 0, .int 0, .int 0, .int 0, .int 0, .int 0, .int 0, .int 0, .int 0, .int 0, .int 0, .int 0, .int 0, .int 0] (.int 0)) (f8 : Fld Z h0 p0 "java/lang/String" "value" "[B" .null) :
    Met Z a0 ELs True n0 l ⟨"java/lang/String", "<init>", "(Ljava/lang/AbstractStringBuilder;Ljava/lang/Void;)V"⟩ jdk_42_method_150_code 5 none ⟨3, 1, 20, 71⟩ #[.ref p0, .ref p1, .null] h0 [p0] (fun v h so => (∃ a24 : Addr, ∃ k25 : ClassId, v = none ∧ so = [a24] ∧ Keep h0 h [p0] ∧ h0.size ≤ a24 ∧ (∀ (O n d : String) (w : Value), Fld Z h0 p0 O n d w → RoadKit.slotOf Z O n d ≠ RoadKit.slotOf Z "java/lang/String" "coder" "B" → RoadKit.slotOf Z O n d ≠ RoadKit.slotOf Z "java/lang/String" "value" "[B" → Fld Z h p0 O n d w) ∧ Exa Z h p0 "java/lang/String" ∧ Fld Z h p0 "java/lang/String" "coder" "B" (.int 0) ∧ Fld Z h p0 "java/lang/String" "value" "[B" (.ref a24) ∧ Arv Z h a24 k25 .byte 20 [.int 116, .int 104, .int 101, .int 32, .int 116, .int 111, .int 103, .int 103, .int 108, .int 101, .int 32, .int 111, .int 102, .int 32, .int 107, .int 101, .int 121, .int 32, .int x0, .int x1] (.int 0) ∧ Exa Z h a24 "[B")) := by
  refine Met.of (EWl V) (by first | decide +kernel | rfl) hO (L0 := #[.val (.ref p0), .val (.ref p1), .val .null, .unset, .unset]) rfl ?_
  intro p e s m below meth c T H
  show Go p e below _ (T.setTop (mkF m 0 _ []))
  refine G.aloadN H D7_0 (J := 1) rfl rfl rfl ?_
  refine G.initO H (wd25 V) (wd26 V) (wd27 V) rfl D7_1 (J := 4) rfl (by decide) (W := 0) rfl (by decide) ?_
  intro T1 H2
  refine G.aloadN H2 D7_4 (J := 5) rfl rfl rfl ?_
  refine G.callV H2 (m32_getValue V p1 p2 h0 H2.old f1) (wd185 V) (wd186 V) (nf_sel (wd188 V)) (wd188 V) (wd187 V) (wd94 V) (wd189 V) (by decide) f0 (argsL := []) (rest := []) (W := 0) rfl rfl (lenOf (pd_17) rfl) rfl rfl D7_5 (J := 8) rfl (by decide) (by decide) (by decide) (by decide) all0 ?_
  intro T3 h3_ v4 s5 H3 Q6
  obtain ⟨rfl, rfl, rfl⟩ := Q6
  show Go p e below _ (T3.setTop (mkF m 8 _ [.ref p2]))
  refine G.astoreN H3 (L' := #[.val (.ref p0), .val (.ref p1), .val .null, .val (.ref p2), .unset]) D7_8 (J := 9) rfl rfl rfl ?_
  refine G.aloadN H3 D7_9 (J := 10) rfl rfl rfl ?_
  refine G.callV H3 (m133_length V p1 h0 H3.old f2 f0) (wd190 V) (wd191 V) (nf_sib (wd128 V) rfl) (wd193 V) (wd194 V) (wd86 V) (wd195 V) (by decide) f0 (argsL := []) (rest := []) (W := 0) rfl rfl (lenOf (pd_7) rfl) rfl rfl D7_10 (J := 13) rfl (by decide) (by decide) (by decide) (by decide) all0 ?_
  intro T7 h7_ v8 s9 H7 Q10
  obtain ⟨rfl, rfl, rfl⟩ := Q10
  show Go p e below _ (T7.setTop (mkF m 13 _ [.int 20]))
  refine G.istore H7 (L' := #[.val (.ref p0), .val (.ref p1), .val .null, .val (.ref p2), .val (.int 20)]) D7_13 (J := 15) rfl rfl ?_
  refine G.aloadN H7 D7_15 (J := 16) rfl rfl rfl ?_
  refine G.callV H7 (m35_isLatin1 V p1 h0 H7.old f3) (wd198 V) (wd199 V) (nf_sel (wd201 V)) (wd201 V) (wd200 V) (wd94 V) (wd202 V) (by decide) f0 (argsL := []) (rest := []) (W := 0) rfl rfl (lenOf (pd_18) rfl) rfl rfl D7_16 (J := 19) rfl (by decide) (by decide) (by decide) (by decide) all0 ?_
  intro T11 h11_ v12 s13 H11 Q14
  obtain ⟨rfl, rfl, rfl⟩ := Q14
  show Go p e below _ (T11.setTop (mkF m 19 _ [.int 1]))
  refine G.ifNo H11 D7_19 (J := 22) rfl (by decide) ?_
  refine G.aloadN H11 D7_22 (J := 23) rfl rfl rfl ?_
  refine G.iconst H11 D7_23 (J := 24) rfl (v := 0) rfl ?_
  refine G.putF H11 (wd29 V) Via.refl f5 f4 (Or.inr ⟨(wd6 V), rfl, rfl⟩) (wd3 V) (ty := .byte) (by decide) rfl rfl g6 (Sf.mem (mG (i := 0) rfl)) D7_24 (J := 27) rfl ?_
  intro T15 h15_ H15 W16
  have F17 : Fld Z h15_ p0 "java/lang/String" "coder" "B" (.int 0) := Fld.same W16 f5
  refine G.aloadN H15 D7_27 (J := 28) rfl rfl rfl ?_
  refine G.aloadN H15 D7_28 (J := 29) rfl rfl rfl ?_
  refine G.iconst H15 D7_29 (J := 30) rfl (v := 0) rfl ?_
  refine G.iload H15 D7_30 (J := 32) rfl rfl ?_
  have N18 : p2 ≠ p0 := Ne.symm (Exa.neArv f4 f7 (wd3 V))
  have F19 := (Arv.other f7 W16 N18)
  refine G.callS H15 (m137_copyOfRange V p2 c0 x0 x1 h15_ H15.old F19) (wd203 V) (wd204 V) (wd167 V) (wd205 V) (by decide) (argsL := [.ref p2, .int 0, .int 20]) (rest := [.ref p0]) (W := 1) rfl rfl (lenOf (pd_19) rfl) rfl rfl D7_32 (J := 35) rfl (by decide) (by decide) (by decide) (by decide) all0 ?_
  intro T20 h20_ v21 s22 H20 Q23
  obtain ⟨a24, k25, rfl, rfl, K26, g27, F28, F29⟩ := Q23
  have na24 : n0 ≤ a24 := Nat.le_trans H15.le g27
  show Go p e below _ (T20.setTop (mkF m 35 _ [.ref a24, .ref p0]))
  have K30 : Keep h0 h20_ [p0] := (Keep.trans (Keep.wr (Keep.refl h0 [p0]) W16 (Or.inl (mG (i := 0) rfl))) K26 all0)
  have F31 := (Exa.keep f4 K30)
  have F32 := (Fld.keep (Fld.other W16 f8 (Or.inr (slot_ne (Or.inr (wd5 V)) (Or.inr (wd6 V)) (by decide) (t := (.array .byte)) (t' := .byte) (by decide) (by decide)))) K26 nin0)
  refine G.putF H20 (wd28 V) Via.refl F32 F31 (Or.inr ⟨(wd5 V), rfl, rfl⟩) (wd3 V) (ty := (.array .byte)) (by decide) rfl rfl g6 (Sf.mem (mG (i := 1) rfl)) D7_35 (J := 38) rfl ?_
  intro T33 h33_ H33 W34
  have F35 : Fld Z h33_ p0 "java/lang/String" "value" "[B" (.ref a24) := Fld.same W34 F32
  refine G.goto H33 D7_38 (by decide) (J := 97) rfl ?_
  have F36 := (Exa.wr W34 F31)
  have F37 := (Fld.other W34 (Fld.keep F17 K26 nin0) (Or.inr (slot_ne (Or.inr (wd6 V)) (Or.inr (wd5 V)) (by decide) (t := .byte) (t' := (.array .byte)) (by decide) (by decide))))
  have N38 : a24 ≠ p0 := Ne.symm (Exa.neArv (Exa.keep (Exa.wr W16 f4) K26) F28 (wd3 V))
  have F39 := (Arv.other F28 W34 N38)
  have F40 := (Exa.wr W34 F29)
  have K41 : Keep h0 h33_ [p0] := (Keep.wr (Keep.trans (Keep.wr (Keep.refl h0 [p0]) W16 (Or.inl (mG (i := 0) rfl))) K26 all0) W34 (Or.inl (mG (i := 0) rfl)))
  have K42 : Keep h0 h15_ [p0] := (Keep.wr (Keep.refl h0 [p0]) W16 (Or.inl (mG (i := 0) rfl)))
  exact G.retV H33 rfl D7_97 (so := [a24]) (allS (mG (i := 0) rfl) all0) (by decide) (by decide) ⟨a24, k25, rfl, rfl, K41, (Nat.le_trans K42.1 g27), (fun O n d w F hn0 hn1 => (Fld.other W34 (Fld.keep (Fld.other W16 F (Or.inr hn0)) K26 nin0) (Or.inr hn1))), F36, F37, F35, F39, F40⟩
theorem m139_init (V : Env1 Z a0 n0 uu0 uu1 uu2 uu3 uu4) (p0 : Addr) (p1 : Addr) (p2 : Addr) (c0 : ClassId) (x0 : Int32) (x1 : Int32) (h0 : Heap) (hO : Old Z n0 h0) (f0 : Exa Z h0 p1 "java/lang/StringBuilder") (f1 : Fld Z h0 p1 "java/lang/AbstractStringBuilder" "value" "[B" (.ref p2)) (f2 : Fld Z h0 p1 "java/lang/AbstractStringBuilder" "count" "I" (.int 20)) (f3 : Fld Z h0 p1 "java/lang/AbstractStringBuilder" "coder" "B" (.int 0)) (f4 : Exa Z h0 p0 "java/lang/String") (f5 : Fld Z h0 p0 "java/lang/String" "coder" "B" (.int 0)) (g6 : n0 ≤ p0) (f7 : Arv Z h0 p2 c0 .byte 34 [.int 116, .int 104, .int 101, .int 32, .int 116, .int 111, .int 103, .int 103, .int 108, .int 101, .int 32, .int 111, .int 102, .int 32, .int 107, .int 101, .int 121, .int 32, .int x0, .int x1, .int 0, .int 0, .int 0, .int 0, .int 0, .int 0, .int 0, .int 0, .int 0, .int 0, .int 0, .int 0, .int 0, .int 0] (.int 0)) (f8 : Fld Z h0 p0 "java/lang/String" "value" "[B" .null) :
    Met Z a0 ELs True n0 l ⟨"java/lang/String", "<init>", "(Ljava/lang/StringBuilder;)V"⟩ jdk_42_method_53_code 2 none ⟨4, 1, 20, 87⟩ #[.ref p0, .ref p1] h0 [p0] (fun v h so => (∃ a5 : Addr, ∃ k6 : ClassId, v = none ∧ so = [a5] ∧ Keep h0 h [p0] ∧ h0.size ≤ a5 ∧ (∀ (O n d : String) (w : Value), Fld Z h0 p0 O n d w → RoadKit.slotOf Z O n d ≠ RoadKit.slotOf Z "java/lang/String" "coder" "B" → RoadKit.slotOf Z O n d ≠ RoadKit.slotOf Z "java/lang/String" "value" "[B" → Fld Z h p0 O n d w) ∧ Exa Z h p0 "java/lang/String" ∧ Fld Z h p0 "java/lang/String" "coder" "B" (.int 0) ∧ Fld Z h p0 "java/lang/String" "value" "[B" (.ref a5) ∧ Arv Z h a5 k6 .byte 20 [.int 116, .int 104, .int 101, .int 32, .int 116, .int 111, .int 103, .int 103, .int 108, .int 101, .int 32, .int 111, .int 102, .int 32, .int 107, .int 101, .int 121, .int 32, .int x0, .int x1] (.int 0) ∧ Exa Z h a5 "[B")) := by
  refine Met.of (EWl V) (by first | decide +kernel | rfl) hO (L0 := #[.val (.ref p0), .val (.ref p1)]) rfl ?_
  intro p e s m below meth c T H
  show Go p e below _ (T.setTop (mkF m 0 _ []))
  refine G.aloadN H D10_0 (J := 1) rfl rfl rfl ?_
  refine G.aloadN H D10_1 (J := 2) rfl rfl rfl ?_
  refine G.aconstNull H D10_2 (J := 3) rfl ?_
  refine G.callI H (m138_init V p0 p1 p2 c0 x0 x1 h0 H.old f0 f1 f2 f3 f4 f5 g6 f7 f8) rfl (wd182 V) (wd183 V) (wd2 V) (wd184 V) (by decide) (a := p0) (argsL := [.ref p1, .null]) (rest := []) (W := 0) rfl rfl (lenOf (pd_20) rfl) rfl rfl D10_3 (J := 6) rfl (by decide) (by decide) (by decide) (by decide) (allS (mG (i := 0) rfl) all0) ?_
  intro T1 h1_ v2 s3 H1 Q4
  obtain ⟨a5, k6, rfl, rfl, K7, g8, U9, F10, F11, F12, F13, F14⟩ := Q4
  have na5 : n0 ≤ a5 := Nat.le_trans H.le g8
  show Go p e below _ (T1.setTop (mkF m 6 _ []))
  have K15 : Keep h0 h1_ [p0] := (Keep.trans (Keep.refl h0 [p0]) K7 (allS (Or.inl (mG (i := 0) rfl)) all0))
  exact G.retV H1 rfl D10_6 (so := [a5]) (allS (mG (i := 0) rfl) all0) (by decide) (by decide) ⟨a5, k6, rfl, rfl, K15, g8, (fun O n d w F hn0 hn1 => (U9 O n d w F hn0 hn1)), F10, F11, F12, F13, F14⟩
theorem m140_toString (V : Env1 Z a0 n0 uu0 uu1 uu2 uu3 uu4) (p0 : Addr) (p1 : Addr) (c0 : ClassId) (x0 : Int32) (x1 : Int32) (h0 : Heap) (hO : Old Z n0 h0) (f0 : Exa Z h0 p0 "java/lang/StringBuilder") (f1 : Fld Z h0 p0 "java/lang/AbstractStringBuilder" "value" "[B" (.ref p1)) (f2 : Fld Z h0 p0 "java/lang/AbstractStringBuilder" "count" "I" (.int 20)) (f3 : Fld Z h0 p0 "java/lang/AbstractStringBuilder" "coder" "B" (.int 0)) (f4 : Arv Z h0 p1 c0 .byte 34 [.int 116, .int 104, .int 101, .int 32, .int 116, .int 111, .int 103, .int 103, .int 108, .int 101, .int 32, .int 111, .int 102, .int 32, .int 107, .int 101, .int 121, .int 32, .int x0, .int x1, .int 0, .int 0, .int 0, .int 0, .int 0, .int 0, .int 0, .int 0, .int 0, .int 0, .int 0, .int 0, .int 0, .int 0] (.int 0)) :
    Met Z a0 ELs True n0 l ⟨"java/lang/StringBuilder", "toString", "()Ljava/lang/String;"⟩ jdk_67_method_42_code 1 (some (.object "java/lang/String")) ⟨5, 2, 24, 101⟩ #[.ref p0] h0 [] (fun v h so => (∃ a2 a17 : Addr, ∃ k18 : ClassId, v = some (.ref a2) ∧ so = [a2, a17] ∧ Keep h0 h [] ∧ h0.size ≤ a2 ∧ a2 < a17 ∧ Exa Z h a2 "java/lang/String" ∧ Fld Z h a2 "java/lang/String" "coder" "B" (.int 0) ∧ Fld Z h a2 "java/lang/String" "value" "[B" (.ref a17) ∧ Arv Z h a17 k18 .byte 20 [.int 116, .int 104, .int 101, .int 32, .int 116, .int 111, .int 103, .int 103, .int 108, .int 101, .int 32, .int 111, .int 102, .int 32, .int 107, .int 101, .int 121, .int 32, .int x0, .int x1] (.int 0) ∧ Exa Z h a17 "[B")) := by
  refine Met.of (EWl V) (by first | decide +kernel | rfl) hO (L0 := #[.val (.ref p0)]) rfl ?_
  intro p e s m below meth c T H
  show Go p e below _ (T.setTop (mkF m 0 _ []))
  refine G.new H (wd178 V) (wd3 V) (wd2 V) D20_0 (J := 3) rfl (by decide) (by decide) ?_
  intro T1 h1_ a2 ga2 H1 E3 A4 D5
  have na2 := H.nle ga2
  refine G.dup H1 D20_3 (J := 4) rfl rfl ?_
  refine G.aloadN H1 D20_4 (J := 5) rfl rfl rfl ?_
  have F6 := (Exa.ext E3 f0)
  have F7 := (Fld.ext E3 f1)
  have F8 := (Fld.ext E3 f2)
  have F9 := (Fld.ext E3 f3)
  have F10 : Fld Z h1_ a2 "java/lang/String" "coder" "B" (.int 0) := D5 (Or.inr (wd6 V)) (ty := .byte) (by decide)
  have F11 := (Arv.ext f4 E3)
  have F12 : Fld Z h1_ a2 "java/lang/String" "value" "[B" .null := D5 (Or.inr (wd5 V)) (ty := (.array .byte)) (by decide)
  refine G.callI H1 (m139_init V a2 p0 p1 c0 x0 x1 h1_ H1.old F6 F7 F8 F9 A4 F10 na2 F11 F12) rfl (wd179 V) (wd180 V) (wd2 V) (wd181 V) (by decide) (a := a2) (argsL := [.ref p0]) (rest := [.ref a2]) (W := 1) rfl rfl (lenOf (pd_21) rfl) rfl rfl D20_5 (J := 8) rfl (by decide) (by decide) (by decide) (by decide) (allS (mG (i := 0) rfl) all0) ?_
  intro T13 h13_ v14 s15 H13 Q16
  obtain ⟨a17, k18, rfl, rfl, K19, g20, U21, F22, F23, F24, F25, F26⟩ := Q16
  have na17 : n0 ≤ a17 := Nat.le_trans H1.le g20
  show Go p e below _ (T13.setTop (mkF m 8 _ [.ref a2]))
  have K27 : Keep h0 h13_ [] := (Keep.trans (Keep.ext (Keep.refl h0 []) E3) K19 (allS (Or.inr (Nat.le_of_eq ga2.symm)) all0))
  exact G.retA H13 (t := (.object "java/lang/String")) rfl rfl rfl D20_8 (so := [a2, a17]) (allS (mG (i := 1) rfl) (allS (mG (i := 0) rfl) all0)) (by decide) (by decide) ⟨a2, a17, k18, rfl, rfl, K27, (Nat.le_of_eq ga2.symm), (Nat.lt_of_lt_of_le A4.lt g20), F22, F23, F24, F25, F26⟩
theorem m141_description (V : Env1 Z a0 n0 uu0 uu1 uu2 uu3 uu4) (p0 : Addr) (p1 : Addr) (p2 : Addr) (c0 : ClassId) (x0 : Int32) (x1 : Int32) (h0 : Heap) (hO : Old Z n0 h0) (f0 : Fld Z h0 p0 "com/example/formboard/formboard/core/Board$Live" "part" "Lcom/example/formboard/formboard/core/Board$Part;" (.ref uu2)) (f1 : Fld Z h0 p0 "com/example/formboard/formboard/core/Board$Live" "key" "Ljava/lang/String;" (.ref p1)) (f2 : Exa Z h0 p1 "java/lang/String") (f3 : Fld Z h0 p1 "java/lang/String" "value" "[B" (.ref p2)) (f4 : Arv Z h0 p2 c0 .byte 2 [.int x0, .int x1] (.int 0)) (f5 : Fld Z h0 p1 "java/lang/String" "coder" "B" (.int 0)) :
    Met Z a0 ELs True n0 l ⟨"com/example/formboard/formboard/core/Board$Live", "description", "()Ljava/lang/String;"⟩ prog_16_method_2_code 1 (some (.object "java/lang/String")) ⟨6, 7, 154, 113⟩ #[.ref p0] h0 [] (fun v h so => (∃ a84 a85 : Addr, ∃ k86 : ClassId, v = some (.ref a84) ∧ so = [a84, a85] ∧ Keep h0 h [] ∧ h0.size ≤ a84 ∧ a84 < a85 ∧ Exa Z h a84 "java/lang/String" ∧ Fld Z h a84 "java/lang/String" "coder" "B" (.int 0) ∧ Fld Z h a84 "java/lang/String" "value" "[B" (.ref a85) ∧ Arv Z h a85 k86 .byte 20 [.int 116, .int 104, .int 101, .int 32, .int 116, .int 111, .int 103, .int 103, .int 108, .int 101, .int 32, .int 111, .int 102, .int 32, .int 107, .int 101, .int 121, .int 32, .int x0, .int x1] (.int 0) ∧ Exa Z h a85 "[B")) := by
  refine Met.of (EWl V) (by first | decide +kernel | rfl) hO (L0 := #[.val (.ref p0)]) rfl ?_
  intro p e s m below meth c T H
  show Go p e below _ (T.setTop (mkF m 0 _ []))
  refine G.aloadN H D34_0 (J := 1) rfl rfl rfl ?_
  refine G.getF H (wd51 V) Via.refl f0 D34_1 (J := 4) rfl ?_
  intro T1 H2
  have B3 := Exa.ext H2.old.2 (hv5 V)
  refine G.callVU H2 (y := ⟨"com/example/formboard/formboard/core/Board$Part", "ordinal", "()I"⟩) (m44_ordinal V h0 H2.old) (wd62 V) (wd63 V) (wd64 V) (by decide) (wd66 V) (wd65 V) (wd67 V) (wd68 V) B3 (argsL := []) (rest := []) (W := 0) rfl rfl (lenOf (pd_7) rfl) rfl rfl D34_4 (J := 7) rfl (by decide) (by decide) (by decide) (by decide) all0 ?_
  intro T4 h4_ v5 s6 H4 Q7
  obtain ⟨rfl, rfl, rfl⟩ := Q7
  show Go p e below _ (T4.setTop (mkF m 7 _ [.int 2]))
  refine G.tswIn H4 D34_7 (by decide) (o := 65) rfl (by decide) (J := 72) rfl ?_
  refine G.new H4 (wd84 V) (wd85 V) (wd86 V) D34_72 (J := 75) rfl (by decide) (by decide) ?_
  intro T8 h8_ a9 ga9 H8 E10 A11 D12
  have na9 := H4.nle ga9
  refine G.dup H8 D34_75 (J := 76) rfl rfl ?_
  have F13 : Fld Z h8_ a9 "java/lang/AbstractStringBuilder" "value" "[B" .null := D12 (Or.inl (wd99 V)) (ty := (.array .byte)) (by decide)
  have F14 : Fld Z h8_ a9 "java/lang/AbstractStringBuilder" "coder" "B" (.int 0) := D12 (Or.inl (wd101 V)) (ty := .byte) (by decide)
  refine G.callI H8 (m17_init V a9 h8_ H8.old A11 F13 na9 F14) rfl (wd87 V) (wd88 V) (wd86 V) (wd89 V) (by decide) (a := a9) (argsL := []) (rest := [.ref a9]) (W := 1) rfl rfl (lenOf (pd_4) rfl) rfl rfl D34_76 (J := 79) rfl (by decide) (by decide) (by decide) (by decide) all0 ?_
  intro T15 h15_ v16 s17 H15 Q18
  obtain ⟨a19, k20, rfl, rfl, K21, g22, U23, F24, F25, F26, F27, F28⟩ := Q18
  have na19 : n0 ≤ a19 := Nat.le_trans H8.le g22
  show Go p e below _ (T15.setTop (mkF m 79 _ [.ref a9]))
  refine G.ldcS H15 trivial (wS V) (wd235 V) (by decide) (vs := [.int 116, .int 104, .int 101, .int 32, .int 116, .int 111, .int 103, .int 103, .int 108, .int 101, .int 32, .int 111, .int 102, .int 32, .int 107, .int 101, .int 121, .int 32]) (z := 18) (by decide) (by decide) rfl (n := 72) (by decide) (by decide) (by decide) (by decide) D34_79 (J := 81) rfl ?_
  intro T29 h29_ a30 b32 k33 H29 E31 X34 F35 F36 A37 Q38
  have S39 : Str Z h29_ a30 b32 k33 [116, 104, 101, 32, 116, 111, 103, 103, 108, 101, 32, 111, 102, 32, 107, 101, 121, 32] := ⟨X34, F35, F36, A37, by decide, by decide⟩
  have F40 := (Exa.ext E31 F24)
  have F41 : Fld Z h8_ a9 "java/lang/AbstractStringBuilder" "count" "I" (.int 0) := D12 (Or.inl (wd124 V)) (ty := .int) (by decide)
  have F42 := (Fld.ext E31 (U23 "java/lang/AbstractStringBuilder" "count" "I" (.int 0) F41 (slot_ne (Or.inl (wd124 V)) (Or.inl (wd99 V)) (by decide) (t := .int) (t' := (.array .byte)) (by decide) (by decide)) (slot_ne (Or.inl (wd124 V)) (Or.inl (wd101 V)) (by decide) (t := .int) (t' := .byte) (by decide) (by decide))))
  have F43 := (Fld.ext E31 F25)
  have F44 := (Arv.ext F27 E31)
  have F45 := (Fld.ext E31 F26)
  refine G.callV H29 (m55_append V a9 a30 b32 k33 a19 k20 h29_ H29.old X34 F36 A37 F35 F42 F40 F43 F44 F45 na9) (wd103 V) (wd104 V) (nf_sel (wd106 V)) (wd106 V) (wd105 V) (wd86 V) (wd107 V) (by decide) F40 (argsL := [.ref a30]) (rest := []) (W := 0) rfl rfl (lenOf (pd_16) rfl) rfl rfl D34_81 (J := 84) rfl (by decide) (by decide) (by decide) (by decide) all0 ?_
  intro T46 h46_ v47 s48 H46 Q49
  obtain ⟨a50, k51, rfl, rfl, K52, g53, U54, F55, F56, F57, F58, F59, F60⟩ := Q49
  have na50 : n0 ≤ a50 := Nat.le_trans H29.le g53
  show Go p e below _ (T46.setTop (mkF m 84 _ [.ref a9]))
  refine G.aloadN H46 D34_84 (J := 85) rfl rfl rfl ?_
  have K61 : Keep h0 h46_ [] := (Keep.trans (Keep.ext (Keep.trans (Keep.ext (Keep.refl h0 []) E10) K21 (allS (Or.inr (Nat.le_of_eq ga9.symm)) all0)) E31) K52 (allS (Or.inr (Nat.le_of_eq ga9.symm)) all0))
  have F62 := (Fld.keep f1 K61 nin0)
  refine G.getF H46 (wd53 V) Via.refl F62 D34_85 (J := 88) rfl ?_
  intro T63 H64
  have F65 := (Exa.keep f2 K61)
  have F66 := (Fld.keep f3 K61 nin0)
  have F67 := (Arv.keep f4 K61 nin0)
  have F68 := (Fld.keep f5 K61 nin0)
  refine G.callV H64 (m131_append V a9 p1 p2 c0 x0 x1 a50 k51 h46_ H64.old F65 F66 F67 F68 F55 F56 F57 F59 F58 na50 na9) (wd103 V) (wd104 V) (nf_sel (wd106 V)) (wd106 V) (wd105 V) (wd86 V) (wd107 V) (by decide) F56 (argsL := [.ref p1]) (rest := []) (W := 0) rfl rfl (lenOf (pd_16) rfl) rfl rfl D34_88 (J := 91) rfl (by decide) (by decide) (by decide) (by decide) (allS (mG (i := 0) rfl) all0) ?_
  intro T69 h69_ v70 s71 H69 Q72
  obtain ⟨rfl, rfl, K73, U74, F75, F76, F77, F78, F79⟩ := Q72
  show Go p e below _ (T69.setTop (mkF m 91 _ [.ref a9]))
  refine G.callV H69 (m140_toString V a9 a50 k51 x0 x1 h69_ H69.old F77 F78 F76 F79 F75) (wd173 V) (wd174 V) (nf_sel (wd176 V)) (wd176 V) (wd175 V) (wd86 V) (wd177 V) (by decide) F77 (argsL := []) (rest := []) (W := 0) rfl rfl (lenOf (pd_8) rfl) rfl rfl D34_91 (J := 94) rfl (by decide) (by decide) (by decide) (by decide) all0 ?_
  intro T80 h80_ v81 s82 H80 Q83
  obtain ⟨a84, a85, k86, rfl, rfl, K87, g88, g89, F90, F91, F92, F93, F94⟩ := Q83
  have na84 : n0 ≤ a84 := Nat.le_trans H69.le g88
  have na85 : n0 ≤ a85 := Nat.le_trans H69.le (Nat.le_of_lt (Nat.lt_of_le_of_lt g88 g89))
  show Go p e below _ (T80.setTop (mkF m 94 _ [.ref a84]))
  have K95 : Keep h0 h29_ [] := (Keep.ext (Keep.trans (Keep.ext (Keep.refl h0 []) E10) K21 (allS (Or.inr (Nat.le_of_eq ga9.symm)) all0)) E31)
  have K96 : Keep h0 h80_ [] := (Keep.trans (Keep.trans (Keep.trans (Keep.ext (Keep.trans (Keep.ext (Keep.refl h0 []) E10) K21 (allS (Or.inr (Nat.le_of_eq ga9.symm)) all0)) E31) K52 (allS (Or.inr (Nat.le_of_eq ga9.symm)) all0)) K73 (allS (Or.inr (Nat.le_trans K95.1 g53)) (allS (Or.inr (Nat.le_of_eq ga9.symm)) all0))) K87 all0)
  have K97 : Keep h0 h69_ [] := (Keep.trans (Keep.trans (Keep.ext (Keep.trans (Keep.ext (Keep.refl h0 []) E10) K21 (allS (Or.inr (Nat.le_of_eq ga9.symm)) all0)) E31) K52 (allS (Or.inr (Nat.le_of_eq ga9.symm)) all0)) K73 (allS (Or.inr (Nat.le_trans K95.1 g53)) (allS (Or.inr (Nat.le_of_eq ga9.symm)) all0)))
  exact G.retA H80 (t := (.object "java/lang/String")) rfl rfl rfl D34_94 (so := [a84, a85]) (allS (mG (i := 0) rfl) (allS (mG (i := 1) rfl) all0)) (by decide) (by decide) ⟨a84, a85, k86, rfl, rfl, K96, (Nat.le_trans K97.1 g88), g89, F90, F91, F92, F93, F94⟩
theorem m142_expected (V : Env1 Z a0 n0 uu0 uu1 uu2 uu3 uu4) (x0 : Int32) (x1 : Int32) (h0 : Heap) (hO : Old Z n0 h0) (r0 : ¬ x0 < 0 ∧ ¬ 65535 < x0) (r1 : ¬ x1 < 0 ∧ ¬ 65535 < x1) (r2 : ¬ x1 < 0 ∧ ¬ 255 < x1) (r3 : ¬ x0 < 0 ∧ ¬ 255 < x0) :
    Met Z a0 ELs True n0 l ⟨"com/example/formboard/formboard/core/LiveDescriptionPinLaw", "expected", "(IICC)Ljava/lang/String;"⟩ method_3_code 4 (some (.object "java/lang/String")) ⟨4, 3, 44, 66⟩ #[.int 2, .int 2, .int x0, .int x1] h0 [] (fun v h so => (∃ a2 t79 : Addr, ∃ k80 : ClassId, v = some (.ref a2) ∧ so = [a2, t79] ∧ Keep h0 h [] ∧ h0.size ≤ a2 ∧ a2 < t79 ∧ Str Z h a2 t79 k80 [116, 104, 101, 32, 116, 111, 103, 103, 108, 101, 32, 111, 102, 32, 107, 101, 121, 32, x0, x1])) := by
  refine Met.of (EWl V) (by first | decide +kernel | rfl) hO (L0 := #[.val (.int 2), .val (.int 2), .val (.int x0), .val (.int x1)]) rfl ?_
  intro p e s m below meth c T H
  show Go p e below _ (T.setTop (mkF m 0 _ []))
  refine G.iloadN H D32_0 (J := 1) rfl rfl ?_
  refine G.ifYes H D32_1 (by decide) (by decide) (J := 7) rfl ?_
  refine G.iloadN H D32_7 (J := 8) rfl rfl ?_
  refine G.iconst H D32_8 (J := 9) rfl (v := 1) rfl ?_
  refine G.icmpYes H D32_9 (by decide) (by decide) (J := 243) rfl ?_
  refine G.iloadN H D32_243 (J := 244) rfl rfl ?_
  refine G.ifYes H D32_244 (by decide) (by decide) (J := 250) rfl ?_
  refine G.iloadN H D32_250 (J := 251) rfl rfl ?_
  refine G.iconst H D32_251 (J := 252) rfl (v := 1) rfl ?_
  refine G.icmpYes H D32_252 (by decide) (by decide) (J := 374) rfl ?_
  refine G.new H (wd212 V) (wd3 V) (wd2 V) D32_374 (J := 377) rfl (by decide) (by decide) ?_
  intro T1 h1_ a2 ga2 H1 E3 A4 D5
  have na2 := H.nle ga2
  refine G.dup H1 D32_377 (J := 378) rfl rfl ?_
  refine G.bipush H1 D32_378 (J := 380) rfl (v := 20) rfl ?_
  refine G.newP H1 (aty := .char) (wd213 V) D32_380 (J := 382) rfl (by decide) (cap := 20) (by decide) (by decide) (by decide) (by decide) (vs := [.int 0, .int 0, .int 0, .int 0, .int 0, .int 0, .int 0, .int 0, .int 0, .int 0, .int 0, .int 0, .int 0, .int 0, .int 0, .int 0, .int 0, .int 0, .int 0, .int 0]) rfl (ad := "[C") rfl ?_
  intro T6 h6_ a7 k10 ga7 H6 E8 A9 X11
  have na7 := H1.nle ga7
  replace A9 : Arv Z h6_ a7 k10 .char 20 [.int 0, .int 0, .int 0, .int 0, .int 0, .int 0, .int 0, .int 0, .int 0, .int 0, .int 0, .int 0, .int 0, .int 0, .int 0, .int 0, .int 0, .int 0, .int 0, .int 0] (.int 0) := A9
  refine G.dup H6 D32_382 (J := 383) rfl rfl ?_
  refine G.iconst H6 D32_383 (J := 384) rfl (v := 0) rfl ?_
  refine G.bipush H6 D32_384 (J := 386) rfl (v := 116) rfl ?_
  refine G.stC H6 A9 (by decide) (i := 0) rfl lB na7 (y := 116) rfl D32_386 (J := 387) rfl ?_
  intro T12 h12_ H12 W13 A14
  replace A14 : Arv Z h12_ a7 k10 .char 20 [.int 116, .int 0, .int 0, .int 0, .int 0, .int 0, .int 0, .int 0, .int 0, .int 0, .int 0, .int 0, .int 0, .int 0, .int 0, .int 0, .int 0, .int 0, .int 0, .int 0] (.int 0) := A14
  refine G.dup H12 D32_387 (J := 388) rfl rfl ?_
  refine G.iconst H12 D32_388 (J := 389) rfl (v := 1) rfl ?_
  refine G.bipush H12 D32_389 (J := 391) rfl (v := 104) rfl ?_
  refine G.stC H12 A14 (by decide) (i := 1) rfl lB na7 (y := 104) rfl D32_391 (J := 392) rfl ?_
  intro T15 h15_ H15 W16 A17
  replace A17 : Arv Z h15_ a7 k10 .char 20 [.int 116, .int 104, .int 0, .int 0, .int 0, .int 0, .int 0, .int 0, .int 0, .int 0, .int 0, .int 0, .int 0, .int 0, .int 0, .int 0, .int 0, .int 0, .int 0, .int 0] (.int 0) := A17
  refine G.dup H15 D32_392 (J := 393) rfl rfl ?_
  refine G.iconst H15 D32_393 (J := 394) rfl (v := 2) rfl ?_
  refine G.bipush H15 D32_394 (J := 396) rfl (v := 101) rfl ?_
  refine G.stC H15 A17 (by decide) (i := 2) rfl lB na7 (y := 101) rfl D32_396 (J := 397) rfl ?_
  intro T18 h18_ H18 W19 A20
  replace A20 : Arv Z h18_ a7 k10 .char 20 [.int 116, .int 104, .int 101, .int 0, .int 0, .int 0, .int 0, .int 0, .int 0, .int 0, .int 0, .int 0, .int 0, .int 0, .int 0, .int 0, .int 0, .int 0, .int 0, .int 0] (.int 0) := A20
  refine G.dup H18 D32_397 (J := 398) rfl rfl ?_
  refine G.iconst H18 D32_398 (J := 399) rfl (v := 3) rfl ?_
  refine G.bipush H18 D32_399 (J := 401) rfl (v := 32) rfl ?_
  refine G.stC H18 A20 (by decide) (i := 3) rfl lB na7 (y := 32) rfl D32_401 (J := 402) rfl ?_
  intro T21 h21_ H21 W22 A23
  replace A23 : Arv Z h21_ a7 k10 .char 20 [.int 116, .int 104, .int 101, .int 32, .int 0, .int 0, .int 0, .int 0, .int 0, .int 0, .int 0, .int 0, .int 0, .int 0, .int 0, .int 0, .int 0, .int 0, .int 0, .int 0] (.int 0) := A23
  refine G.dup H21 D32_402 (J := 403) rfl rfl ?_
  refine G.iconst H21 D32_403 (J := 404) rfl (v := 4) rfl ?_
  refine G.bipush H21 D32_404 (J := 406) rfl (v := 116) rfl ?_
  refine G.stC H21 A23 (by decide) (i := 4) rfl lB na7 (y := 116) rfl D32_406 (J := 407) rfl ?_
  intro T24 h24_ H24 W25 A26
  replace A26 : Arv Z h24_ a7 k10 .char 20 [.int 116, .int 104, .int 101, .int 32, .int 116, .int 0, .int 0, .int 0, .int 0, .int 0, .int 0, .int 0, .int 0, .int 0, .int 0, .int 0, .int 0, .int 0, .int 0, .int 0] (.int 0) := A26
  refine G.dup H24 D32_407 (J := 408) rfl rfl ?_
  refine G.iconst H24 D32_408 (J := 409) rfl (v := 5) rfl ?_
  refine G.bipush H24 D32_409 (J := 411) rfl (v := 111) rfl ?_
  refine G.stC H24 A26 (by decide) (i := 5) rfl lB na7 (y := 111) rfl D32_411 (J := 412) rfl ?_
  intro T27 h27_ H27 W28 A29
  replace A29 : Arv Z h27_ a7 k10 .char 20 [.int 116, .int 104, .int 101, .int 32, .int 116, .int 111, .int 0, .int 0, .int 0, .int 0, .int 0, .int 0, .int 0, .int 0, .int 0, .int 0, .int 0, .int 0, .int 0, .int 0] (.int 0) := A29
  refine G.dup H27 D32_412 (J := 413) rfl rfl ?_
  refine G.bipush H27 D32_413 (J := 415) rfl (v := 6) rfl ?_
  refine G.bipush H27 D32_415 (J := 417) rfl (v := 103) rfl ?_
  refine G.stC H27 A29 (by decide) (i := 6) rfl lB na7 (y := 103) rfl D32_417 (J := 418) rfl ?_
  intro T30 h30_ H30 W31 A32
  replace A32 : Arv Z h30_ a7 k10 .char 20 [.int 116, .int 104, .int 101, .int 32, .int 116, .int 111, .int 103, .int 0, .int 0, .int 0, .int 0, .int 0, .int 0, .int 0, .int 0, .int 0, .int 0, .int 0, .int 0, .int 0] (.int 0) := A32
  refine G.dup H30 D32_418 (J := 419) rfl rfl ?_
  refine G.bipush H30 D32_419 (J := 421) rfl (v := 7) rfl ?_
  refine G.bipush H30 D32_421 (J := 423) rfl (v := 103) rfl ?_
  refine G.stC H30 A32 (by decide) (i := 7) rfl lB na7 (y := 103) rfl D32_423 (J := 424) rfl ?_
  intro T33 h33_ H33 W34 A35
  replace A35 : Arv Z h33_ a7 k10 .char 20 [.int 116, .int 104, .int 101, .int 32, .int 116, .int 111, .int 103, .int 103, .int 0, .int 0, .int 0, .int 0, .int 0, .int 0, .int 0, .int 0, .int 0, .int 0, .int 0, .int 0] (.int 0) := A35
  refine G.dup H33 D32_424 (J := 425) rfl rfl ?_
  refine G.bipush H33 D32_425 (J := 427) rfl (v := 8) rfl ?_
  refine G.bipush H33 D32_427 (J := 429) rfl (v := 108) rfl ?_
  refine G.stC H33 A35 (by decide) (i := 8) rfl lB na7 (y := 108) rfl D32_429 (J := 430) rfl ?_
  intro T36 h36_ H36 W37 A38
  replace A38 : Arv Z h36_ a7 k10 .char 20 [.int 116, .int 104, .int 101, .int 32, .int 116, .int 111, .int 103, .int 103, .int 108, .int 0, .int 0, .int 0, .int 0, .int 0, .int 0, .int 0, .int 0, .int 0, .int 0, .int 0] (.int 0) := A38
  refine G.dup H36 D32_430 (J := 431) rfl rfl ?_
  refine G.bipush H36 D32_431 (J := 433) rfl (v := 9) rfl ?_
  refine G.bipush H36 D32_433 (J := 435) rfl (v := 101) rfl ?_
  refine G.stC H36 A38 (by decide) (i := 9) rfl lB na7 (y := 101) rfl D32_435 (J := 436) rfl ?_
  intro T39 h39_ H39 W40 A41
  replace A41 : Arv Z h39_ a7 k10 .char 20 [.int 116, .int 104, .int 101, .int 32, .int 116, .int 111, .int 103, .int 103, .int 108, .int 101, .int 0, .int 0, .int 0, .int 0, .int 0, .int 0, .int 0, .int 0, .int 0, .int 0] (.int 0) := A41
  refine G.dup H39 D32_436 (J := 437) rfl rfl ?_
  refine G.bipush H39 D32_437 (J := 439) rfl (v := 10) rfl ?_
  refine G.bipush H39 D32_439 (J := 441) rfl (v := 32) rfl ?_
  refine G.stC H39 A41 (by decide) (i := 10) rfl lB na7 (y := 32) rfl D32_441 (J := 442) rfl ?_
  intro T42 h42_ H42 W43 A44
  replace A44 : Arv Z h42_ a7 k10 .char 20 [.int 116, .int 104, .int 101, .int 32, .int 116, .int 111, .int 103, .int 103, .int 108, .int 101, .int 32, .int 0, .int 0, .int 0, .int 0, .int 0, .int 0, .int 0, .int 0, .int 0] (.int 0) := A44
  refine G.dup H42 D32_442 (J := 443) rfl rfl ?_
  refine G.bipush H42 D32_443 (J := 445) rfl (v := 11) rfl ?_
  refine G.bipush H42 D32_445 (J := 447) rfl (v := 111) rfl ?_
  refine G.stC H42 A44 (by decide) (i := 11) rfl lB na7 (y := 111) rfl D32_447 (J := 448) rfl ?_
  intro T45 h45_ H45 W46 A47
  replace A47 : Arv Z h45_ a7 k10 .char 20 [.int 116, .int 104, .int 101, .int 32, .int 116, .int 111, .int 103, .int 103, .int 108, .int 101, .int 32, .int 111, .int 0, .int 0, .int 0, .int 0, .int 0, .int 0, .int 0, .int 0] (.int 0) := A47
  refine G.dup H45 D32_448 (J := 449) rfl rfl ?_
  refine G.bipush H45 D32_449 (J := 451) rfl (v := 12) rfl ?_
  refine G.bipush H45 D32_451 (J := 453) rfl (v := 102) rfl ?_
  refine G.stC H45 A47 (by decide) (i := 12) rfl lB na7 (y := 102) rfl D32_453 (J := 454) rfl ?_
  intro T48 h48_ H48 W49 A50
  replace A50 : Arv Z h48_ a7 k10 .char 20 [.int 116, .int 104, .int 101, .int 32, .int 116, .int 111, .int 103, .int 103, .int 108, .int 101, .int 32, .int 111, .int 102, .int 0, .int 0, .int 0, .int 0, .int 0, .int 0, .int 0] (.int 0) := A50
  refine G.dup H48 D32_454 (J := 455) rfl rfl ?_
  refine G.bipush H48 D32_455 (J := 457) rfl (v := 13) rfl ?_
  refine G.bipush H48 D32_457 (J := 459) rfl (v := 32) rfl ?_
  refine G.stC H48 A50 (by decide) (i := 13) rfl lB na7 (y := 32) rfl D32_459 (J := 460) rfl ?_
  intro T51 h51_ H51 W52 A53
  replace A53 : Arv Z h51_ a7 k10 .char 20 [.int 116, .int 104, .int 101, .int 32, .int 116, .int 111, .int 103, .int 103, .int 108, .int 101, .int 32, .int 111, .int 102, .int 32, .int 0, .int 0, .int 0, .int 0, .int 0, .int 0] (.int 0) := A53
  refine G.dup H51 D32_460 (J := 461) rfl rfl ?_
  refine G.bipush H51 D32_461 (J := 463) rfl (v := 14) rfl ?_
  refine G.bipush H51 D32_463 (J := 465) rfl (v := 107) rfl ?_
  refine G.stC H51 A53 (by decide) (i := 14) rfl lB na7 (y := 107) rfl D32_465 (J := 466) rfl ?_
  intro T54 h54_ H54 W55 A56
  replace A56 : Arv Z h54_ a7 k10 .char 20 [.int 116, .int 104, .int 101, .int 32, .int 116, .int 111, .int 103, .int 103, .int 108, .int 101, .int 32, .int 111, .int 102, .int 32, .int 107, .int 0, .int 0, .int 0, .int 0, .int 0] (.int 0) := A56
  refine G.dup H54 D32_466 (J := 467) rfl rfl ?_
  refine G.bipush H54 D32_467 (J := 469) rfl (v := 15) rfl ?_
  refine G.bipush H54 D32_469 (J := 471) rfl (v := 101) rfl ?_
  refine G.stC H54 A56 (by decide) (i := 15) rfl lB na7 (y := 101) rfl D32_471 (J := 472) rfl ?_
  intro T57 h57_ H57 W58 A59
  replace A59 : Arv Z h57_ a7 k10 .char 20 [.int 116, .int 104, .int 101, .int 32, .int 116, .int 111, .int 103, .int 103, .int 108, .int 101, .int 32, .int 111, .int 102, .int 32, .int 107, .int 101, .int 0, .int 0, .int 0, .int 0] (.int 0) := A59
  refine G.dup H57 D32_472 (J := 473) rfl rfl ?_
  refine G.bipush H57 D32_473 (J := 475) rfl (v := 16) rfl ?_
  refine G.bipush H57 D32_475 (J := 477) rfl (v := 121) rfl ?_
  refine G.stC H57 A59 (by decide) (i := 16) rfl lB na7 (y := 121) rfl D32_477 (J := 478) rfl ?_
  intro T60 h60_ H60 W61 A62
  replace A62 : Arv Z h60_ a7 k10 .char 20 [.int 116, .int 104, .int 101, .int 32, .int 116, .int 111, .int 103, .int 103, .int 108, .int 101, .int 32, .int 111, .int 102, .int 32, .int 107, .int 101, .int 121, .int 0, .int 0, .int 0] (.int 0) := A62
  refine G.dup H60 D32_478 (J := 479) rfl rfl ?_
  refine G.bipush H60 D32_479 (J := 481) rfl (v := 17) rfl ?_
  refine G.bipush H60 D32_481 (J := 483) rfl (v := 32) rfl ?_
  refine G.stC H60 A62 (by decide) (i := 17) rfl lB na7 (y := 32) rfl D32_483 (J := 484) rfl ?_
  intro T63 h63_ H63 W64 A65
  replace A65 : Arv Z h63_ a7 k10 .char 20 [.int 116, .int 104, .int 101, .int 32, .int 116, .int 111, .int 103, .int 103, .int 108, .int 101, .int 32, .int 111, .int 102, .int 32, .int 107, .int 101, .int 121, .int 32, .int 0, .int 0] (.int 0) := A65
  refine G.dup H63 D32_484 (J := 485) rfl rfl ?_
  refine G.bipush H63 D32_485 (J := 487) rfl (v := 18) rfl ?_
  refine G.iloadN H63 D32_487 (J := 488) rfl rfl ?_
  refine G.stC H63 A65 (by decide) (i := 18) rfl lB na7 (y := x0) (own_narC r0) D32_488 (J := 489) rfl ?_
  intro T66 h66_ H66 W67 A68
  replace A68 : Arv Z h66_ a7 k10 .char 20 [.int 116, .int 104, .int 101, .int 32, .int 116, .int 111, .int 103, .int 103, .int 108, .int 101, .int 32, .int 111, .int 102, .int 32, .int 107, .int 101, .int 121, .int 32, .int x0, .int 0] (.int 0) := A68
  refine G.dup H66 D32_489 (J := 490) rfl rfl ?_
  refine G.bipush H66 D32_490 (J := 492) rfl (v := 19) rfl ?_
  refine G.iloadN H66 D32_492 (J := 493) rfl rfl ?_
  refine G.stC H66 A68 (by decide) (i := 19) rfl lB na7 (y := x1) (own_narC r1) D32_493 (J := 494) rfl ?_
  intro T69 h69_ H69 W70 A71
  replace A71 : Arv Z h69_ a7 k10 .char 20 [.int 116, .int 104, .int 101, .int 32, .int 116, .int 111, .int 103, .int 103, .int 108, .int 101, .int 32, .int 111, .int 102, .int 32, .int 107, .int 101, .int 121, .int 32, .int x0, .int x1] (.int 0) := A71
  have K72 : Keep h1_ h69_ [] := (Keep.wr (Keep.wr (Keep.wr (Keep.wr (Keep.wr (Keep.wr (Keep.wr (Keep.wr (Keep.wr (Keep.wr (Keep.wr (Keep.wr (Keep.wr (Keep.wr (Keep.wr (Keep.wr (Keep.wr (Keep.wr (Keep.wr (Keep.wr (Keep.ext (Keep.refl h1_ []) E8) W13 (Or.inr (Nat.le_of_eq ga7.symm))) W16 (Or.inr (Nat.le_of_eq ga7.symm))) W19 (Or.inr (Nat.le_of_eq ga7.symm))) W22 (Or.inr (Nat.le_of_eq ga7.symm))) W25 (Or.inr (Nat.le_of_eq ga7.symm))) W28 (Or.inr (Nat.le_of_eq ga7.symm))) W31 (Or.inr (Nat.le_of_eq ga7.symm))) W34 (Or.inr (Nat.le_of_eq ga7.symm))) W37 (Or.inr (Nat.le_of_eq ga7.symm))) W40 (Or.inr (Nat.le_of_eq ga7.symm))) W43 (Or.inr (Nat.le_of_eq ga7.symm))) W46 (Or.inr (Nat.le_of_eq ga7.symm))) W49 (Or.inr (Nat.le_of_eq ga7.symm))) W52 (Or.inr (Nat.le_of_eq ga7.symm))) W55 (Or.inr (Nat.le_of_eq ga7.symm))) W58 (Or.inr (Nat.le_of_eq ga7.symm))) W61 (Or.inr (Nat.le_of_eq ga7.symm))) W64 (Or.inr (Nat.le_of_eq ga7.symm))) W67 (Or.inr (Nat.le_of_eq ga7.symm))) W70 (Or.inr (Nat.le_of_eq ga7.symm)))
  have F73 := (Exa.keep A4 K72)
  have F74 : Fld Z h1_ a2 "java/lang/String" "value" "[B" .null := D5 (Or.inr (wd5 V)) (ty := (.array .byte)) (by decide)
  have F75 := (Fld.keep F74 K72 nin0)
  have F76 : Fld Z h1_ a2 "java/lang/String" "coder" "B" (.int 0) := D5 (Or.inr (wd6 V)) (ty := .byte) (by decide)
  have F77 := (Fld.keep F76 K72 nin0)
  refine G.newStr H69 (strw V) (wd3 V) (wd214 V) (wd215 V) (cs := [116, 104, 101, 32, 116, 111, 103, 103, 108, 101, 32, 111, 102, 32, 107, 101, 121, 32, x0, x1]) (n := 20) na2 F73 F75 F77 A71 (hv9 V) (hv10 V) rfl rfl (by decide) (by decide) (cbS (by decide) (cbS (by decide) (cbS (by decide) (cbS (by decide) (cbS (by decide) (cbS (by decide) (cbS (by decide) (cbS (by decide) (cbS (by decide) (cbS (by decide) (cbS (by decide) (cbS (by decide) (cbS (by decide) (cbS (by decide) (cbS (by decide) (cbS (by decide) (cbS (by decide) (cbS (by decide) (cbS r3 (cbS r2 cb0)))))))))))))))))))) (Sf.mem (mG (i := 1) rfl)) (rest := [.ref a2]) (W := 1) rfl rfl D32_494 (J := 497) rfl (by decide) (by decide) (by decide) (by decide) ?_
  intro T78 h78_ t79 k80 g83 H78 K81 S82
  have nt79 : n0 ≤ t79 := Nat.le_trans H69.le g83
  have K84 : Keep h0 h1_ [] := (Keep.ext (Keep.refl h0 []) E3)
  have K85 : Keep h0 h78_ [] := (Keep.trans (Keep.wr (Keep.wr (Keep.wr (Keep.wr (Keep.wr (Keep.wr (Keep.wr (Keep.wr (Keep.wr (Keep.wr (Keep.wr (Keep.wr (Keep.wr (Keep.wr (Keep.wr (Keep.wr (Keep.wr (Keep.wr (Keep.wr (Keep.wr (Keep.ext (Keep.ext (Keep.refl h0 []) E3) E8) W13 (Or.inr (Nat.le_trans K84.1 (Nat.le_of_eq ga7.symm)))) W16 (Or.inr (Nat.le_trans K84.1 (Nat.le_of_eq ga7.symm)))) W19 (Or.inr (Nat.le_trans K84.1 (Nat.le_of_eq ga7.symm)))) W22 (Or.inr (Nat.le_trans K84.1 (Nat.le_of_eq ga7.symm)))) W25 (Or.inr (Nat.le_trans K84.1 (Nat.le_of_eq ga7.symm)))) W28 (Or.inr (Nat.le_trans K84.1 (Nat.le_of_eq ga7.symm)))) W31 (Or.inr (Nat.le_trans K84.1 (Nat.le_of_eq ga7.symm)))) W34 (Or.inr (Nat.le_trans K84.1 (Nat.le_of_eq ga7.symm)))) W37 (Or.inr (Nat.le_trans K84.1 (Nat.le_of_eq ga7.symm)))) W40 (Or.inr (Nat.le_trans K84.1 (Nat.le_of_eq ga7.symm)))) W43 (Or.inr (Nat.le_trans K84.1 (Nat.le_of_eq ga7.symm)))) W46 (Or.inr (Nat.le_trans K84.1 (Nat.le_of_eq ga7.symm)))) W49 (Or.inr (Nat.le_trans K84.1 (Nat.le_of_eq ga7.symm)))) W52 (Or.inr (Nat.le_trans K84.1 (Nat.le_of_eq ga7.symm)))) W55 (Or.inr (Nat.le_trans K84.1 (Nat.le_of_eq ga7.symm)))) W58 (Or.inr (Nat.le_trans K84.1 (Nat.le_of_eq ga7.symm)))) W61 (Or.inr (Nat.le_trans K84.1 (Nat.le_of_eq ga7.symm)))) W64 (Or.inr (Nat.le_trans K84.1 (Nat.le_of_eq ga7.symm)))) W67 (Or.inr (Nat.le_trans K84.1 (Nat.le_of_eq ga7.symm)))) W70 (Or.inr (Nat.le_trans K84.1 (Nat.le_of_eq ga7.symm)))) K81 (allS (Or.inr (Nat.le_of_eq ga2.symm)) all0))
  exact G.retA H78 (t := (.object "java/lang/String")) rfl rfl rfl D32_497 (so := [a2, t79]) (allS (mG (i := 2) rfl) (allS (mG (i := 0) rfl) all0)) (by decide) (by decide) ⟨a2, t79, k80, rfl, rfl, K85, (Nat.le_of_eq ga2.symm), (Nat.lt_of_lt_of_le (Nat.lt_of_lt_of_le A4.lt K72.1) g83), S82⟩
theorem cut143_96 (V : Env1 Z a0 n0 uu0 uu1 uu2 uu3 uu4) (x90096 : Int32) (x0 : Int32) (x1 : Int32) (x2 : Int32) (x3 : Int32) (p0 : Addr) (p1 : Addr) (p2 : Addr) (c0 : ClassId) (H : Hs p l e room_1 s m as' below meth c Z a0 ELs True x.cls n0 code maxLocals ret x.name T h0 5 13 []) (sp : x90096 = 0 ∨ x90096 = 1 ∨ x90096 = 2) (f1 : Exa Z h0 p0 "java/lang/String") (f2 : Fld Z h0 p0 "java/lang/String" "value" "[B" (.ref p2)) (f3 : Arv Z h0 p2 c0 .byte 2 [(.int ((x2 &&& 255).toInt8.toInt32)), (.int (((XT.ushr x2 8) &&& 255).toInt8.toInt32))] (.int 0)) (f4 : Fld Z h0 p0 "java/lang/String" "coder" "B" (.int 0)) :
    Go p e below (FinP s below Z ELs True n0 room_1.cells room_1.slots (fun v h so => v = some (.int 1))) (T.setTop (mkF m 96 #[.val (.int x0), .val (.int x1), .val (.int x2), .val (.int x3), .val (.int x90096), .val (.int 2), .val (.int (x2 &&& 255)), .val (.int ((XT.ushr x2 8) &&& 255)), .val (.ref p0), .val (.ref p1), .unset, .unset, .unset, .unset] [])) := by
  rcases sp with rfl | rfl | rfl
  ·
    refine G.iload H at_96 (J := 98) rfl rfl ?_
    refine G.ifNo H at_98 (J := 101) rfl (by decide) ?_
    refine G.getS H (wd30 V) Via.refl (Sta.ext H.old.2 (hv2 V)) at_101 (J := 104) rfl ?_
    intro T1 H2
    refine G.astore H2 (L' := #[.val (.int x0), .val (.int x1), .val (.int x2), .val (.int x3), .val (.int 0), .val (.int 2), .val (.int (x2 &&& 255)), .val (.int ((XT.ushr x2 8) &&& 255)), .val (.ref p0), .val (.ref p1), .val (.ref uu1), .unset, .unset, .unset]) at_104 (J := 106) rfl rfl rfl ?_
    refine G.goto H2 at_106 (by decide) (J := 128) rfl ?_
    refine G.iload H2 at_128 (J := 130) rfl rfl ?_
    refine G.ifNo H2 at_130 (J := 133) rfl (by decide) ?_
    refine G.iloadN H2 at_133 (J := 134) rfl rfl ?_
    refine G.sipush H2 at_134 (J := 137) rfl (v := 256) rfl ?_
    refine G.iand H2 at_137 (J := 138) rfl ?_
    by_cases c3 : (x3 &&& 256) = 0
    ·
      refine G.ifYes H2 at_138 (XT.i0_eq_t c3) (by decide) (J := 145) rfl ?_
      refine G.aload H2 at_145 (J := 147) rfl rfl rfl ?_
      refine G.astore H2 (L' := #[.val (.int x0), .val (.int x1), .val (.int x2), .val (.int x3), .val (.int 0), .val (.int 2), .val (.int (x2 &&& 255)), .val (.int ((XT.ushr x2 8) &&& 255)), .val (.ref p0), .val (.ref p1), .val (.ref uu1), .val (.ref p0), .unset, .unset]) at_147 (J := 149) rfl rfl rfl ?_
      refine G.new H2 (wd33 V) (wd34 V) (wd35 V) at_149 (J := 152) rfl (by decide) (by decide) ?_
      intro T4 h4_ a5 ga5 H4 E6 A7 D8
      have na5 := H2.nle ga5
      refine G.dup H4 at_152 (J := 153) rfl rfl ?_
      refine G.aload H4 at_153 (J := 155) rfl rfl rfl ?_
      refine G.aload H4 at_155 (J := 157) rfl rfl rfl ?_
      refine G.aload H4 at_157 (J := 159) rfl rfl rfl ?_
      have F9 : Fld Z h4_ a5 "com/example/formboard/formboard/core/Board$Live" "part" "Lcom/example/formboard/formboard/core/Board$Part;" .null := D8 (Or.inr (wd52 V)) (ty := (.object "com/example/formboard/formboard/core/Board$Part")) (by decide)
      have F10 : Fld Z h4_ a5 "com/example/formboard/formboard/core/Board$Live" "key" "Ljava/lang/String;" .null := D8 (Or.inr (wd54 V)) (ty := (.object "java/lang/String")) (by decide)
      have F11 : Fld Z h4_ a5 "com/example/formboard/formboard/core/Board$Live" "form" "Ljava/lang/String;" .null := D8 (Or.inr (wd56 V)) (ty := (.object "java/lang/String")) (by decide)
      refine G.callI H4 (m8_init V a5 p0 p1 h4_ H4.old A7 F9 na5 F10 F11) rfl (wd36 V) (wd37 V) (wd35 V) (wd38 V) (by decide) (a := a5) (argsL := [.ref uu1, .ref p0, .ref p1]) (rest := [.ref a5]) (W := 1) rfl rfl (lenOf (pd_6) rfl) rfl rfl at_159 (J := 162) rfl (by decide) (by decide) (by decide) (by decide) all0 ?_
      intro T12 h12_ v13 s14 H12 Q15
      obtain ⟨rfl, rfl, K16, U17, F18, F19, F20, F21⟩ := Q15
      show Go p e below _ (T12.setTop (mkF m 162 _ [.ref a5]))
      refine G.astore H12 (L' := #[.val (.int x0), .val (.int x1), .val (.int x2), .val (.int x3), .val (.int 0), .val (.int 2), .val (.int (x2 &&& 255)), .val (.int ((XT.ushr x2 8) &&& 255)), .val (.ref p0), .val (.ref p1), .val (.ref uu1), .val (.ref p0), .val (.ref a5), .unset]) at_162 (J := 164) rfl rfl rfl ?_
      refine G.aload H12 at_164 (J := 166) rfl rfl rfl ?_
      refine G.callV H12 (m10_description V a5 h12_ H12.old F19) (wd57 V) (wd58 V) (nf_sel (wd60 V)) (wd60 V) (wd59 V) (wd35 V) (wd61 V) (by decide) F18 (argsL := []) (rest := []) (W := 0) rfl rfl (lenOf (pd_8) rfl) rfl rfl at_166 (J := 169) rfl (by decide) (by decide) (by decide) (by decide) all0 ?_
      intro T22 h22_ v23 s24 H22 Q25
      obtain ⟨a26, a27, k28, rfl, rfl, K29, F30⟩ := Q25
      show Go p e below _ (T22.setTop (mkF m 169 _ [.ref a26]))
      refine G.astore H22 (L' := #[.val (.int x0), .val (.int x1), .val (.int x2), .val (.int x3), .val (.int 0), .val (.int 2), .val (.int (x2 &&& 255)), .val (.int ((XT.ushr x2 8) &&& 255)), .val (.ref p0), .val (.ref p1), .val (.ref uu1), .val (.ref p0), .val (.ref a5), .val (.ref a26)]) at_169 (J := 171) rfl rfl rfl ?_
      refine G.aload H22 at_171 (J := 173) rfl rfl rfl ?_
      refine G.ifnullNo H22 at_173 (J := 176) rfl ?_
      refine G.aload H22 at_176 (J := 178) rfl rfl rfl ?_
      refine G.iload H22 at_178 (J := 180) rfl rfl ?_
      refine G.iload H22 at_180 (J := 182) rfl rfl ?_
      refine G.iload H22 at_182 (J := 184) rfl rfl ?_
      refine G.iload H22 at_184 (J := 186) rfl rfl ?_
      refine G.callS H22 (m112_expected V (x2 &&& 255) ((XT.ushr x2 8) &&& 255) h22_ H22.old) (wd72 V) (wd73 V) (wd74 V) (wd75 V) (by decide) (argsL := [.int 0, .int 2, (.int (x2 &&& 255)), (.int ((XT.ushr x2 8) &&& 255))]) (rest := [.ref a26]) (W := 1) rfl rfl (lenOf (pd_9) rfl) rfl rfl at_186 (J := 189) rfl (by decide) (by decide) (by decide) (by decide) all0 ?_
      intro T31 h31_ v32 s33 H31 Q34
      obtain ⟨a35, a36, k37, rfl, rfl, K38, F39⟩ := Q34
      show Go p e below _ (T31.setTop (mkF m 189 _ [.ref a35, .ref a26]))
      have F40 := (Str.keep F30 K38 nin0 nin0)
      refine G.strEq H31 (strwEq V) (wd3 V) (yc := "java/lang/String") (wd77 V) (by decide) (wd78 V) (nf_sel (wd80 V)) (wd80 V) (wd79 V) F40 F39 (hv9 V) (hv10 V) (rest := []) (W := 0) rfl rfl at_189 (J := 192) rfl (by decide) (by decide) (by decide) (by decide) ?_ ?_
      ·
        intro T41 H42 c43
        refine G.ifNo H42 at_192 (J := 195) rfl (by decide) ?_
        refine G.iconst H42 at_195 (J := 196) rfl (v := 1) rfl ?_
        refine G.goto H42 at_196 (by decide) (J := 200) rfl ?_
        exact G.retN H42 (t := .boolean) rfl (by decide) at_200 (so := []) all0 (by decide) (by decide) rfl
      ·
        intro T44 H45 c46
        exact absurd rfl c46
    ·
      refine G.ifNo H2 at_138 (J := 141) rfl (XT.i0_eq_f c3) ?_
      refine G.aconstNull H2 at_141 (J := 142) rfl ?_
      refine G.goto H2 at_142 (by decide) (J := 147) rfl ?_
      refine G.astore H2 (L' := #[.val (.int x0), .val (.int x1), .val (.int x2), .val (.int x3), .val (.int 0), .val (.int 2), .val (.int (x2 &&& 255)), .val (.int ((XT.ushr x2 8) &&& 255)), .val (.ref p0), .val (.ref p1), .val (.ref uu1), .val .null, .unset, .unset]) at_147 (J := 149) rfl rfl rfl ?_
      refine G.new H2 (wd33 V) (wd34 V) (wd35 V) at_149 (J := 152) rfl (by decide) (by decide) ?_
      intro T47 h47_ a48 ga48 H47 E49 A50 D51
      have na48 := H2.nle ga48
      refine G.dup H47 at_152 (J := 153) rfl rfl ?_
      refine G.aload H47 at_153 (J := 155) rfl rfl rfl ?_
      refine G.aload H47 at_155 (J := 157) rfl rfl rfl ?_
      refine G.aload H47 at_157 (J := 159) rfl rfl rfl ?_
      have F52 : Fld Z h47_ a48 "com/example/formboard/formboard/core/Board$Live" "part" "Lcom/example/formboard/formboard/core/Board$Part;" .null := D51 (Or.inr (wd52 V)) (ty := (.object "com/example/formboard/formboard/core/Board$Part")) (by decide)
      have F53 : Fld Z h47_ a48 "com/example/formboard/formboard/core/Board$Live" "key" "Ljava/lang/String;" .null := D51 (Or.inr (wd54 V)) (ty := (.object "java/lang/String")) (by decide)
      have F54 : Fld Z h47_ a48 "com/example/formboard/formboard/core/Board$Live" "form" "Ljava/lang/String;" .null := D51 (Or.inr (wd56 V)) (ty := (.object "java/lang/String")) (by decide)
      refine G.callI H47 (m12_init V a48 p1 h47_ H47.old A50 F52 na48 F53 F54) rfl (wd36 V) (wd37 V) (wd35 V) (wd38 V) (by decide) (a := a48) (argsL := [.ref uu1, .null, .ref p1]) (rest := [.ref a48]) (W := 1) rfl rfl (lenOf (pd_6) rfl) rfl rfl at_159 (J := 162) rfl (by decide) (by decide) (by decide) (by decide) all0 ?_
      intro T55 h55_ v56 s57 H55 Q58
      obtain ⟨rfl, rfl, K59, U60, F61, F62, F63, F64⟩ := Q58
      show Go p e below _ (T55.setTop (mkF m 162 _ [.ref a48]))
      refine G.astore H55 (L' := #[.val (.int x0), .val (.int x1), .val (.int x2), .val (.int x3), .val (.int 0), .val (.int 2), .val (.int (x2 &&& 255)), .val (.int ((XT.ushr x2 8) &&& 255)), .val (.ref p0), .val (.ref p1), .val (.ref uu1), .val .null, .val (.ref a48), .unset]) at_162 (J := 164) rfl rfl rfl ?_
      refine G.aload H55 at_164 (J := 166) rfl rfl rfl ?_
      refine G.callV H55 (m10_description V a48 h55_ H55.old F62) (wd57 V) (wd58 V) (nf_sel (wd60 V)) (wd60 V) (wd59 V) (wd35 V) (wd61 V) (by decide) F61 (argsL := []) (rest := []) (W := 0) rfl rfl (lenOf (pd_8) rfl) rfl rfl at_166 (J := 169) rfl (by decide) (by decide) (by decide) (by decide) all0 ?_
      intro T65 h65_ v66 s67 H65 Q68
      obtain ⟨a69, a70, k71, rfl, rfl, K72, F73⟩ := Q68
      show Go p e below _ (T65.setTop (mkF m 169 _ [.ref a69]))
      refine G.astore H65 (L' := #[.val (.int x0), .val (.int x1), .val (.int x2), .val (.int x3), .val (.int 0), .val (.int 2), .val (.int (x2 &&& 255)), .val (.int ((XT.ushr x2 8) &&& 255)), .val (.ref p0), .val (.ref p1), .val (.ref uu1), .val .null, .val (.ref a48), .val (.ref a69)]) at_169 (J := 171) rfl rfl rfl ?_
      refine G.aload H65 at_171 (J := 173) rfl rfl rfl ?_
      refine G.ifnullNo H65 at_173 (J := 176) rfl ?_
      refine G.aload H65 at_176 (J := 178) rfl rfl rfl ?_
      refine G.iload H65 at_178 (J := 180) rfl rfl ?_
      refine G.iload H65 at_180 (J := 182) rfl rfl ?_
      refine G.iload H65 at_182 (J := 184) rfl rfl ?_
      refine G.iload H65 at_184 (J := 186) rfl rfl ?_
      refine G.callS H65 (m112_expected V (x2 &&& 255) ((XT.ushr x2 8) &&& 255) h65_ H65.old) (wd72 V) (wd73 V) (wd74 V) (wd75 V) (by decide) (argsL := [.int 0, .int 2, (.int (x2 &&& 255)), (.int ((XT.ushr x2 8) &&& 255))]) (rest := [.ref a69]) (W := 1) rfl rfl (lenOf (pd_9) rfl) rfl rfl at_186 (J := 189) rfl (by decide) (by decide) (by decide) (by decide) all0 ?_
      intro T74 h74_ v75 s76 H74 Q77
      obtain ⟨a78, a79, k80, rfl, rfl, K81, F82⟩ := Q77
      show Go p e below _ (T74.setTop (mkF m 189 _ [.ref a78, .ref a69]))
      have F83 := (Str.keep F73 K81 nin0 nin0)
      refine G.strEq H74 (strwEq V) (wd3 V) (yc := "java/lang/String") (wd77 V) (by decide) (wd78 V) (nf_sel (wd80 V)) (wd80 V) (wd79 V) F83 F82 (hv9 V) (hv10 V) (rest := []) (W := 0) rfl rfl at_189 (J := 192) rfl (by decide) (by decide) (by decide) (by decide) ?_ ?_
      ·
        intro T84 H85 c86
        refine G.ifNo H85 at_192 (J := 195) rfl (by decide) ?_
        refine G.iconst H85 at_195 (J := 196) rfl (v := 1) rfl ?_
        refine G.goto H85 at_196 (by decide) (J := 200) rfl ?_
        exact G.retN H85 (t := .boolean) rfl (by decide) at_200 (so := []) all0 (by decide) (by decide) rfl
      ·
        intro T87 H88 c89
        exact absurd rfl c89
  ·
    refine G.iload H at_96 (J := 98) rfl rfl ?_
    refine G.ifYes H at_98 (by decide) (by decide) (J := 109) rfl ?_
    refine G.iload H at_109 (J := 111) rfl rfl ?_
    refine G.iconst H at_111 (J := 112) rfl (v := 1) rfl ?_
    refine G.icmpNo H at_112 (J := 115) rfl (by decide) ?_
    refine G.getS H (wd82 V) Via.refl (Sta.ext H.old.2 (hv0 V)) at_115 (J := 118) rfl ?_
    intro T90 H91
    refine G.astore H91 (L' := #[.val (.int x0), .val (.int x1), .val (.int x2), .val (.int x3), .val (.int 1), .val (.int 2), .val (.int (x2 &&& 255)), .val (.int ((XT.ushr x2 8) &&& 255)), .val (.ref p0), .val (.ref p1), .val (.ref uu0), .unset, .unset, .unset]) at_118 (J := 120) rfl rfl rfl ?_
    refine G.goto H91 at_120 (by decide) (J := 128) rfl ?_
    refine G.iload H91 at_128 (J := 130) rfl rfl ?_
    refine G.ifYes H91 at_130 (by decide) (by decide) (J := 145) rfl ?_
    refine G.aload H91 at_145 (J := 147) rfl rfl rfl ?_
    refine G.astore H91 (L' := #[.val (.int x0), .val (.int x1), .val (.int x2), .val (.int x3), .val (.int 1), .val (.int 2), .val (.int (x2 &&& 255)), .val (.int ((XT.ushr x2 8) &&& 255)), .val (.ref p0), .val (.ref p1), .val (.ref uu0), .val (.ref p0), .unset, .unset]) at_147 (J := 149) rfl rfl rfl ?_
    refine G.new H91 (wd33 V) (wd34 V) (wd35 V) at_149 (J := 152) rfl (by decide) (by decide) ?_
    intro T92 h92_ a93 ga93 H92 E94 A95 D96
    have na93 := H91.nle ga93
    refine G.dup H92 at_152 (J := 153) rfl rfl ?_
    refine G.aload H92 at_153 (J := 155) rfl rfl rfl ?_
    refine G.aload H92 at_155 (J := 157) rfl rfl rfl ?_
    refine G.aload H92 at_157 (J := 159) rfl rfl rfl ?_
    have F97 : Fld Z h92_ a93 "com/example/formboard/formboard/core/Board$Live" "part" "Lcom/example/formboard/formboard/core/Board$Part;" .null := D96 (Or.inr (wd52 V)) (ty := (.object "com/example/formboard/formboard/core/Board$Part")) (by decide)
    have F98 : Fld Z h92_ a93 "com/example/formboard/formboard/core/Board$Live" "key" "Ljava/lang/String;" .null := D96 (Or.inr (wd54 V)) (ty := (.object "java/lang/String")) (by decide)
    have F99 : Fld Z h92_ a93 "com/example/formboard/formboard/core/Board$Live" "form" "Ljava/lang/String;" .null := D96 (Or.inr (wd56 V)) (ty := (.object "java/lang/String")) (by decide)
    refine G.callI H92 (m14_init V a93 p0 p1 h92_ H92.old A95 F97 na93 F98 F99) rfl (wd36 V) (wd37 V) (wd35 V) (wd38 V) (by decide) (a := a93) (argsL := [.ref uu0, .ref p0, .ref p1]) (rest := [.ref a93]) (W := 1) rfl rfl (lenOf (pd_6) rfl) rfl rfl at_159 (J := 162) rfl (by decide) (by decide) (by decide) (by decide) all0 ?_
    intro T100 h100_ v101 s102 H100 Q103
    obtain ⟨rfl, rfl, K104, U105, F106, F107, F108, F109⟩ := Q103
    show Go p e below _ (T100.setTop (mkF m 162 _ [.ref a93]))
    refine G.astore H100 (L' := #[.val (.int x0), .val (.int x1), .val (.int x2), .val (.int x3), .val (.int 1), .val (.int 2), .val (.int (x2 &&& 255)), .val (.int ((XT.ushr x2 8) &&& 255)), .val (.ref p0), .val (.ref p1), .val (.ref uu0), .val (.ref p0), .val (.ref a93), .unset]) at_162 (J := 164) rfl rfl rfl ?_
    refine G.aload H100 at_164 (J := 166) rfl rfl rfl ?_
    have K110 : Keep h0 h100_ [] := (Keep.trans (Keep.ext (Keep.refl h0 []) E94) K104 (allS (Or.inr (Nat.le_of_eq ga93.symm)) all0))
    have F111 := (Exa.keep f1 K110)
    have F112 := (Fld.keep f2 K110 nin0)
    have F113 := (Arv.keep f3 K110 nin0)
    have F114 := (Fld.keep f4 K110 nin0)
    refine G.callV H100 (m125_description V a93 p0 p2 c0 ((x2 &&& 255).toInt8.toInt32) (((XT.ushr x2 8) &&& 255).toInt8.toInt32) h100_ H100.old F107 F108 F111 F112 F113 F114) (wd57 V) (wd58 V) (nf_sel (wd60 V)) (wd60 V) (wd59 V) (wd35 V) (wd61 V) (by decide) F106 (argsL := []) (rest := []) (W := 0) rfl rfl (lenOf (pd_8) rfl) rfl rfl at_166 (J := 169) rfl (by decide) (by decide) (by decide) (by decide) all0 ?_
    intro T115 h115_ v116 s117 H115 Q118
    obtain ⟨a119, a120, k121, rfl, rfl, K122, g123, g124, F125, F126, F127, F128, F129⟩ := Q118
    have na119 : n0 ≤ a119 := Nat.le_trans H100.le g123
    have na120 : n0 ≤ a120 := Nat.le_trans H100.le (Nat.le_of_lt (Nat.lt_of_le_of_lt g123 g124))
    show Go p e below _ (T115.setTop (mkF m 169 _ [.ref a119]))
    refine G.astore H115 (L' := #[.val (.int x0), .val (.int x1), .val (.int x2), .val (.int x3), .val (.int 1), .val (.int 2), .val (.int (x2 &&& 255)), .val (.int ((XT.ushr x2 8) &&& 255)), .val (.ref p0), .val (.ref p1), .val (.ref uu0), .val (.ref p0), .val (.ref a93), .val (.ref a119)]) at_169 (J := 171) rfl rfl rfl ?_
    refine G.aload H115 at_171 (J := 173) rfl rfl rfl ?_
    refine G.ifnullNo H115 at_173 (J := 176) rfl ?_
    refine G.aload H115 at_176 (J := 178) rfl rfl rfl ?_
    refine G.iload H115 at_178 (J := 180) rfl rfl ?_
    refine G.iload H115 at_180 (J := 182) rfl rfl ?_
    refine G.iload H115 at_182 (J := 184) rfl rfl ?_
    refine G.iload H115 at_184 (J := 186) rfl rfl ?_
    refine G.callS H115 (m126_expected V (x2 &&& 255) ((XT.ushr x2 8) &&& 255) h115_ H115.old (own_u16 (own_and255 _)) (own_u16 (own_and255 _)) (own_and255 _) (own_and255 _)) (wd72 V) (wd73 V) (wd74 V) (wd75 V) (by decide) (argsL := [.int 1, .int 2, (.int (x2 &&& 255)), (.int ((XT.ushr x2 8) &&& 255))]) (rest := [.ref a119]) (W := 1) rfl rfl (lenOf (pd_9) rfl) rfl rfl at_186 (J := 189) rfl (by decide) (by decide) (by decide) (by decide) all0 ?_
    intro T130 h130_ v131 s132 H130 Q133
    obtain ⟨a134, a135, k136, rfl, rfl, K137, g138, g139, F140⟩ := Q133
    have na134 : n0 ≤ a134 := Nat.le_trans H115.le g138
    have na135 : n0 ≤ a135 := Nat.le_trans H115.le (Nat.le_of_lt (Nat.lt_of_le_of_lt g138 g139))
    show Go p e below _ (T130.setTop (mkF m 189 _ [.ref a134, .ref a119]))
    have F141 := (Exa.keep F125 K137)
    have F142 := (Fld.keep F126 K137 nin0)
    have F143 := (Fld.keep F127 K137 nin0)
    have F144 := (Arv.keep F128 K137 nin0)
    have S145 : Str Z h130_ a119 a120 k121 [116, 104, 101, 32, 104, 105, 110, 116, 32, 111, 102, 32, 107, 101, 121, 32, (x2 &&& 255), ((XT.ushr x2 8) &&& 255)] := ⟨F141, F142, F143, F144, (cbS (by decide) (cbS (by decide) (cbS (by decide) (cbS (by decide) (cbS (by decide) (cbS (by decide) (cbS (by decide) (cbS (by decide) (cbS (by decide) (cbS (by decide) (cbS (by decide) (cbS (by decide) (cbS (by decide) (cbS (by decide) (cbS (by decide) (cbS (by decide) (cbS (own_and255 _) (cbS (own_and255 _) cb0)))))))))))))))))), Nat.le_of_ble_eq_true rfl⟩
    refine G.strEq H130 (strwEq V) (wd3 V) (yc := "java/lang/String") (wd77 V) (by decide) (wd78 V) (nf_sel (wd80 V)) (wd80 V) (wd79 V) S145 F140 (hv9 V) (hv10 V) (rest := []) (W := 0) rfl rfl at_189 (J := 192) rfl (by decide) (by decide) (by decide) (by decide) ?_ ?_
    ·
      intro T146 H147 c148
      refine G.ifNo H147 at_192 (J := 195) rfl (by decide) ?_
      refine G.iconst H147 at_195 (J := 196) rfl (v := 1) rfl ?_
      refine G.goto H147 at_196 (by decide) (J := 200) rfl ?_
      exact G.retN H147 (t := .boolean) rfl (by decide) at_200 (so := []) all0 (by decide) (by decide) rfl
    ·
      intro T149 H150 c151
      exact absurd rfl c151
  ·
    refine G.iload H at_96 (J := 98) rfl rfl ?_
    refine G.ifYes H at_98 (by decide) (by decide) (J := 109) rfl ?_
    refine G.iload H at_109 (J := 111) rfl rfl ?_
    refine G.iconst H at_111 (J := 112) rfl (v := 1) rfl ?_
    refine G.icmpYes H at_112 (by decide) (by decide) (J := 123) rfl ?_
    refine G.getS H (wd233 V) Via.refl (Sta.ext H.old.2 (hv4 V)) at_123 (J := 126) rfl ?_
    intro T152 H153
    refine G.astore H153 (L' := #[.val (.int x0), .val (.int x1), .val (.int x2), .val (.int x3), .val (.int 2), .val (.int 2), .val (.int (x2 &&& 255)), .val (.int ((XT.ushr x2 8) &&& 255)), .val (.ref p0), .val (.ref p1), .val (.ref uu2), .unset, .unset, .unset]) at_126 (J := 128) rfl rfl rfl ?_
    refine G.iload H153 at_128 (J := 130) rfl rfl ?_
    refine G.ifYes H153 at_130 (by decide) (by decide) (J := 145) rfl ?_
    refine G.aload H153 at_145 (J := 147) rfl rfl rfl ?_
    refine G.astore H153 (L' := #[.val (.int x0), .val (.int x1), .val (.int x2), .val (.int x3), .val (.int 2), .val (.int 2), .val (.int (x2 &&& 255)), .val (.int ((XT.ushr x2 8) &&& 255)), .val (.ref p0), .val (.ref p1), .val (.ref uu2), .val (.ref p0), .unset, .unset]) at_147 (J := 149) rfl rfl rfl ?_
    refine G.new H153 (wd33 V) (wd34 V) (wd35 V) at_149 (J := 152) rfl (by decide) (by decide) ?_
    intro T154 h154_ a155 ga155 H154 E156 A157 D158
    have na155 := H153.nle ga155
    refine G.dup H154 at_152 (J := 153) rfl rfl ?_
    refine G.aload H154 at_153 (J := 155) rfl rfl rfl ?_
    refine G.aload H154 at_155 (J := 157) rfl rfl rfl ?_
    refine G.aload H154 at_157 (J := 159) rfl rfl rfl ?_
    have F159 : Fld Z h154_ a155 "com/example/formboard/formboard/core/Board$Live" "part" "Lcom/example/formboard/formboard/core/Board$Part;" .null := D158 (Or.inr (wd52 V)) (ty := (.object "com/example/formboard/formboard/core/Board$Part")) (by decide)
    have F160 : Fld Z h154_ a155 "com/example/formboard/formboard/core/Board$Live" "key" "Ljava/lang/String;" .null := D158 (Or.inr (wd54 V)) (ty := (.object "java/lang/String")) (by decide)
    have F161 : Fld Z h154_ a155 "com/example/formboard/formboard/core/Board$Live" "form" "Ljava/lang/String;" .null := D158 (Or.inr (wd56 V)) (ty := (.object "java/lang/String")) (by decide)
    refine G.callI H154 (m43_init V a155 p0 p1 h154_ H154.old A157 F159 na155 F160 F161) rfl (wd36 V) (wd37 V) (wd35 V) (wd38 V) (by decide) (a := a155) (argsL := [.ref uu2, .ref p0, .ref p1]) (rest := [.ref a155]) (W := 1) rfl rfl (lenOf (pd_6) rfl) rfl rfl at_159 (J := 162) rfl (by decide) (by decide) (by decide) (by decide) all0 ?_
    intro T162 h162_ v163 s164 H162 Q165
    obtain ⟨rfl, rfl, K166, U167, F168, F169, F170, F171⟩ := Q165
    show Go p e below _ (T162.setTop (mkF m 162 _ [.ref a155]))
    refine G.astore H162 (L' := #[.val (.int x0), .val (.int x1), .val (.int x2), .val (.int x3), .val (.int 2), .val (.int 2), .val (.int (x2 &&& 255)), .val (.int ((XT.ushr x2 8) &&& 255)), .val (.ref p0), .val (.ref p1), .val (.ref uu2), .val (.ref p0), .val (.ref a155), .unset]) at_162 (J := 164) rfl rfl rfl ?_
    refine G.aload H162 at_164 (J := 166) rfl rfl rfl ?_
    have K172 : Keep h0 h162_ [] := (Keep.trans (Keep.ext (Keep.refl h0 []) E156) K166 (allS (Or.inr (Nat.le_of_eq ga155.symm)) all0))
    have F173 := (Exa.keep f1 K172)
    have F174 := (Fld.keep f2 K172 nin0)
    have F175 := (Arv.keep f3 K172 nin0)
    have F176 := (Fld.keep f4 K172 nin0)
    refine G.callV H162 (m141_description V a155 p0 p2 c0 ((x2 &&& 255).toInt8.toInt32) (((XT.ushr x2 8) &&& 255).toInt8.toInt32) h162_ H162.old F169 F170 F173 F174 F175 F176) (wd57 V) (wd58 V) (nf_sel (wd60 V)) (wd60 V) (wd59 V) (wd35 V) (wd61 V) (by decide) F168 (argsL := []) (rest := []) (W := 0) rfl rfl (lenOf (pd_8) rfl) rfl rfl at_166 (J := 169) rfl (by decide) (by decide) (by decide) (by decide) all0 ?_
    intro T177 h177_ v178 s179 H177 Q180
    obtain ⟨a181, a182, k183, rfl, rfl, K184, g185, g186, F187, F188, F189, F190, F191⟩ := Q180
    have na181 : n0 ≤ a181 := Nat.le_trans H162.le g185
    have na182 : n0 ≤ a182 := Nat.le_trans H162.le (Nat.le_of_lt (Nat.lt_of_le_of_lt g185 g186))
    show Go p e below _ (T177.setTop (mkF m 169 _ [.ref a181]))
    refine G.astore H177 (L' := #[.val (.int x0), .val (.int x1), .val (.int x2), .val (.int x3), .val (.int 2), .val (.int 2), .val (.int (x2 &&& 255)), .val (.int ((XT.ushr x2 8) &&& 255)), .val (.ref p0), .val (.ref p1), .val (.ref uu2), .val (.ref p0), .val (.ref a155), .val (.ref a181)]) at_169 (J := 171) rfl rfl rfl ?_
    refine G.aload H177 at_171 (J := 173) rfl rfl rfl ?_
    refine G.ifnullNo H177 at_173 (J := 176) rfl ?_
    refine G.aload H177 at_176 (J := 178) rfl rfl rfl ?_
    refine G.iload H177 at_178 (J := 180) rfl rfl ?_
    refine G.iload H177 at_180 (J := 182) rfl rfl ?_
    refine G.iload H177 at_182 (J := 184) rfl rfl ?_
    refine G.iload H177 at_184 (J := 186) rfl rfl ?_
    refine G.callS H177 (m142_expected V (x2 &&& 255) ((XT.ushr x2 8) &&& 255) h177_ H177.old (own_u16 (own_and255 _)) (own_u16 (own_and255 _)) (own_and255 _) (own_and255 _)) (wd72 V) (wd73 V) (wd74 V) (wd75 V) (by decide) (argsL := [.int 2, .int 2, (.int (x2 &&& 255)), (.int ((XT.ushr x2 8) &&& 255))]) (rest := [.ref a181]) (W := 1) rfl rfl (lenOf (pd_9) rfl) rfl rfl at_186 (J := 189) rfl (by decide) (by decide) (by decide) (by decide) all0 ?_
    intro T192 h192_ v193 s194 H192 Q195
    obtain ⟨a196, a197, k198, rfl, rfl, K199, g200, g201, F202⟩ := Q195
    have na196 : n0 ≤ a196 := Nat.le_trans H177.le g200
    have na197 : n0 ≤ a197 := Nat.le_trans H177.le (Nat.le_of_lt (Nat.lt_of_le_of_lt g200 g201))
    show Go p e below _ (T192.setTop (mkF m 189 _ [.ref a196, .ref a181]))
    have F203 := (Exa.keep F187 K199)
    have F204 := (Fld.keep F188 K199 nin0)
    have F205 := (Fld.keep F189 K199 nin0)
    have F206 := (Arv.keep F190 K199 nin0)
    have S207 : Str Z h192_ a181 a182 k183 [116, 104, 101, 32, 116, 111, 103, 103, 108, 101, 32, 111, 102, 32, 107, 101, 121, 32, (x2 &&& 255), ((XT.ushr x2 8) &&& 255)] := ⟨F203, F204, F205, F206, (cbS (by decide) (cbS (by decide) (cbS (by decide) (cbS (by decide) (cbS (by decide) (cbS (by decide) (cbS (by decide) (cbS (by decide) (cbS (by decide) (cbS (by decide) (cbS (by decide) (cbS (by decide) (cbS (by decide) (cbS (by decide) (cbS (by decide) (cbS (by decide) (cbS (by decide) (cbS (by decide) (cbS (own_and255 _) (cbS (own_and255 _) cb0)))))))))))))))))))), Nat.le_of_ble_eq_true rfl⟩
    refine G.strEq H192 (strwEq V) (wd3 V) (yc := "java/lang/String") (wd77 V) (by decide) (wd78 V) (nf_sel (wd80 V)) (wd80 V) (wd79 V) S207 F202 (hv9 V) (hv10 V) (rest := []) (W := 0) rfl rfl at_189 (J := 192) rfl (by decide) (by decide) (by decide) (by decide) ?_ ?_
    ·
      intro T208 H209 c210
      refine G.ifNo H209 at_192 (J := 195) rfl (by decide) ?_
      refine G.iconst H209 at_195 (J := 196) rfl (v := 1) rfl ?_
      refine G.goto H209 at_196 (by decide) (J := 200) rfl ?_
      exact G.retN H209 (t := .boolean) rfl (by decide) at_200 (so := []) all0 (by decide) (by decide) rfl
    ·
      intro T211 H212 c213
      exact absurd rfl c213
theorem cut144_35 (V : Env1 Z a0 n0 uu0 uu1 uu2 uu3 uu4) (x90035 : Int32) (x0 : Int32) (x1 : Int32) (x2 : Int32) (x3 : Int32) (H : Hs p l e room_1 s m as' below meth c Z a0 ELs True x.cls n0 code maxLocals ret x.name T h0 0 0 []) (sp : x90035 = 0 ∨ x90035 = 1 ∨ x90035 = 2) :
    Go p e below (FinP s below Z ELs True n0 room_1.cells room_1.slots (fun v h so => v = some (.int 1))) (T.setTop (mkF m 35 #[.val (.int x0), .val (.int x1), .val (.int x2), .val (.int x3), .val (.int ((x0 &&& 2147483647) % 3)), .val (.int x90035), .val (.int (x2 &&& 255)), .val (.int ((XT.ushr x2 8) &&& 255)), .unset, .unset, .unset, .unset, .unset, .unset] [])) := by
  rcases sp with rfl | rfl | rfl
  ·
    refine G.iload H at_35 (J := 37) rfl rfl ?_
    refine G.ifNo H at_37 (J := 40) rfl (by decide) ?_
    refine G.ldcS H trivial (wS V) (wd1 V) (by decide) (vs := []) (z := 0) (by decide) (by decide) rfl (n := 0) (by decide) (by decide) (by decide) (by decide) at_40 (J := 42) rfl ?_
    intro T1 h1_ a2 b4 k5 H1 E3 X6 F7 F8 A9 Q10
    have S11 : Str Z h1_ a2 b4 k5 [] := ⟨X6, F7, F8, A9, by decide, by decide⟩
    refine G.astore H1 (L' := #[.val (.int x0), .val (.int x1), .val (.int x2), .val (.int x3), .val (.int ((x0 &&& 2147483647) % 3)), .val (.int 0), .val (.int (x2 &&& 255)), .val (.int ((XT.ushr x2 8) &&& 255)), .val (.ref a2), .unset, .unset, .unset, .unset, .unset]) at_42 (J := 44) rfl rfl rfl ?_
    refine G.goto H1 at_44 (by decide) (J := 85) rfl ?_
    refine G.iloadN H1 at_85 (J := 86) rfl rfl ?_
    refine G.sipush H1 at_86 (J := 89) rfl (v := 255) rfl ?_
    refine G.iand H1 at_89 (J := 90) rfl ?_
    refine G.i2c H1 (y := (x3 &&& 255)) at_90 (J := 91) rfl (own_c16 (own_u16 (own_and255 _))) ?_
    refine G.callS H1 (m4_valueOf V (x3 &&& 255) h1_ H1.old (own_and255 _)) (wd9 V) (wd10 V) (wd2 V) (wd11 V) (by decide) (argsL := [(.int (x3 &&& 255))]) (rest := []) (W := 0) rfl rfl (lenOf (pd_3) rfl) rfl rfl at_91 (J := 94) rfl (by decide) (by decide) (by decide) (by decide) all0 ?_
    intro T12 h12_ v13 s14 H12 Q15
    obtain ⟨a16, a17, k18, rfl, rfl, K19, g20, g21, F22, F23, F24⟩ := Q15
    have na16 : n0 ≤ a16 := Nat.le_trans H1.le g20
    have na17 : n0 ≤ a17 := Nat.le_trans H1.le (Nat.le_of_lt (Nat.lt_of_le_of_lt g20 g21))
    show Go p e below _ (T12.setTop (mkF m 94 _ [.ref a16]))
    refine G.astore H12 (L' := #[.val (.int x0), .val (.int x1), .val (.int x2), .val (.int x3), .val (.int ((x0 &&& 2147483647) % 3)), .val (.int 0), .val (.int (x2 &&& 255)), .val (.int ((XT.ushr x2 8) &&& 255)), .val (.ref a2), .val (.ref a16), .unset, .unset, .unset, .unset]) at_94 (J := 96) rfl rfl rfl ?_
    have F25 := (Exa.keep X6 K19)
    have F26 := (Fld.keep F8 K19 nin0)
    have F27 := (Arv.keep A9 K19 nin0)
    have F28 := (Fld.keep F7 K19 nin0)
    exact cut72_96 V ((x0 &&& 2147483647) % 3) x0 x1 x2 x3 a2 a16 b4 k5 ((H12.less all0).mono (C' := 4) (S' := 9) (by decide) (by decide)) (own_r3 _) F25 F26 F27 F28
  ·
    refine G.iload H at_35 (J := 37) rfl rfl ?_
    refine G.ifYes H at_37 (by decide) (by decide) (J := 47) rfl ?_
    refine G.iload H at_47 (J := 49) rfl rfl ?_
    refine G.iconst H at_49 (J := 50) rfl (v := 1) rfl ?_
    refine G.icmpNo H at_50 (J := 53) rfl (by decide) ?_
    refine G.iload H at_53 (J := 55) rfl rfl ?_
    refine G.callS H (m4_valueOf V (x2 &&& 255) h0 H.old (own_and255 _)) (wd9 V) (wd10 V) (wd2 V) (wd11 V) (by decide) (argsL := [(.int (x2 &&& 255))]) (rest := []) (W := 0) rfl rfl (lenOf (pd_3) rfl) rfl rfl at_55 (J := 58) rfl (by decide) (by decide) (by decide) (by decide) all0 ?_
    intro T29 h29_ v30 s31 H29 Q32
    obtain ⟨a33, a34, k35, rfl, rfl, K36, g37, g38, F39, F40, F41⟩ := Q32
    have na33 : n0 ≤ a33 := Nat.le_trans H.le g37
    have na34 : n0 ≤ a34 := Nat.le_trans H.le (Nat.le_of_lt (Nat.lt_of_le_of_lt g37 g38))
    show Go p e below _ (T29.setTop (mkF m 58 _ [.ref a33]))
    refine G.astore H29 (L' := #[.val (.int x0), .val (.int x1), .val (.int x2), .val (.int x3), .val (.int ((x0 &&& 2147483647) % 3)), .val (.int 1), .val (.int (x2 &&& 255)), .val (.int ((XT.ushr x2 8) &&& 255)), .val (.ref a33), .unset, .unset, .unset, .unset, .unset]) at_58 (J := 60) rfl rfl rfl ?_
    refine G.goto H29 at_60 (by decide) (J := 85) rfl ?_
    refine G.iloadN H29 at_85 (J := 86) rfl rfl ?_
    refine G.sipush H29 at_86 (J := 89) rfl (v := 255) rfl ?_
    refine G.iand H29 at_89 (J := 90) rfl ?_
    refine G.i2c H29 (y := (x3 &&& 255)) at_90 (J := 91) rfl (own_c16 (own_u16 (own_and255 _))) ?_
    refine G.callS H29 (m4_valueOf V (x3 &&& 255) h29_ H29.old (own_and255 _)) (wd9 V) (wd10 V) (wd2 V) (wd11 V) (by decide) (argsL := [(.int (x3 &&& 255))]) (rest := []) (W := 0) rfl rfl (lenOf (pd_3) rfl) rfl rfl at_91 (J := 94) rfl (by decide) (by decide) (by decide) (by decide) all0 ?_
    intro T42 h42_ v43 s44 H42 Q45
    obtain ⟨a46, a47, k48, rfl, rfl, K49, g50, g51, F52, F53, F54⟩ := Q45
    have na46 : n0 ≤ a46 := Nat.le_trans H29.le g50
    have na47 : n0 ≤ a47 := Nat.le_trans H29.le (Nat.le_of_lt (Nat.lt_of_le_of_lt g50 g51))
    show Go p e below _ (T42.setTop (mkF m 94 _ [.ref a46]))
    refine G.astore H42 (L' := #[.val (.int x0), .val (.int x1), .val (.int x2), .val (.int x3), .val (.int ((x0 &&& 2147483647) % 3)), .val (.int 1), .val (.int (x2 &&& 255)), .val (.int ((XT.ushr x2 8) &&& 255)), .val (.ref a33), .val (.ref a46), .unset, .unset, .unset, .unset]) at_94 (J := 96) rfl rfl rfl ?_
    have F55 := (Exa.keep F39.1 K49)
    have F56 := (Fld.keep F40 K49 nin0)
    have A57 : Arv Z h29_ a34 k35 .byte 1 [(.int ((x2 &&& 255).toInt8.toInt32))] (.int 0) := F39.2.2.2.1
    have F58 := (Arv.keep A57 K49 nin0)
    have F59 := (Fld.keep F41 K49 nin0)
    exact cut111_96 V ((x0 &&& 2147483647) % 3) x0 x1 x2 x3 a33 a46 a34 k35 ((H42.less all0).mono (C' := 4) (S' := 10) (by decide) (by decide)) (own_r3 _) F55 F56 F58 F59
  ·
    refine G.iload H at_35 (J := 37) rfl rfl ?_
    refine G.ifYes H at_37 (by decide) (by decide) (J := 47) rfl ?_
    refine G.iload H at_47 (J := 49) rfl rfl ?_
    refine G.iconst H at_49 (J := 50) rfl (v := 1) rfl ?_
    refine G.icmpYes H at_50 (by decide) (by decide) (J := 63) rfl ?_
    refine G.new H (wd212 V) (wd3 V) (wd2 V) at_63 (J := 66) rfl (by decide) (by decide) ?_
    intro T60 h60_ a61 ga61 H60 E62 A63 D64
    have na61 := H.nle ga61
    refine G.dup H60 at_66 (J := 67) rfl rfl ?_
    refine G.iconst H60 at_67 (J := 68) rfl (v := 2) rfl ?_
    refine G.newP H60 (aty := .char) (wd213 V) at_68 (J := 70) rfl (by decide) (cap := 2) (by decide) (by decide) (by decide) (by decide) (vs := [.int 0, .int 0]) rfl (ad := "[C") rfl ?_
    intro T65 h65_ a66 k69 ga66 H65 E67 A68 X70
    have na66 := H60.nle ga66
    replace A68 : Arv Z h65_ a66 k69 .char 2 [.int 0, .int 0] (.int 0) := A68
    refine G.dup H65 at_70 (J := 71) rfl rfl ?_
    refine G.iconst H65 at_71 (J := 72) rfl (v := 0) rfl ?_
    refine G.iload H65 at_72 (J := 74) rfl rfl ?_
    refine G.stC H65 A68 (by decide) (i := 0) rfl lB na66 (y := (x2 &&& 255)) (own_narC (own_u16 (own_and255 _))) at_74 (J := 75) rfl ?_
    intro T71 h71_ H71 W72 A73
    replace A73 : Arv Z h71_ a66 k69 .char 2 [(.int (x2 &&& 255)), .int 0] (.int 0) := A73
    refine G.dup H71 at_75 (J := 76) rfl rfl ?_
    refine G.iconst H71 at_76 (J := 77) rfl (v := 1) rfl ?_
    refine G.iload H71 at_77 (J := 79) rfl rfl ?_
    refine G.stC H71 A73 (by decide) (i := 1) rfl lB na66 (y := ((XT.ushr x2 8) &&& 255)) (own_narC (own_u16 (own_and255 _))) at_79 (J := 80) rfl ?_
    intro T74 h74_ H74 W75 A76
    replace A76 : Arv Z h74_ a66 k69 .char 2 [(.int (x2 &&& 255)), (.int ((XT.ushr x2 8) &&& 255))] (.int 0) := A76
    have K77 : Keep h60_ h74_ [] := (Keep.wr (Keep.wr (Keep.ext (Keep.refl h60_ []) E67) W72 (Or.inr (Nat.le_of_eq ga66.symm))) W75 (Or.inr (Nat.le_of_eq ga66.symm)))
    have F78 := (Exa.keep A63 K77)
    have F79 : Fld Z h60_ a61 "java/lang/String" "value" "[B" .null := D64 (Or.inr (wd5 V)) (ty := (.array .byte)) (by decide)
    have F80 := (Fld.keep F79 K77 nin0)
    have F81 : Fld Z h60_ a61 "java/lang/String" "coder" "B" (.int 0) := D64 (Or.inr (wd6 V)) (ty := .byte) (by decide)
    have F82 := (Fld.keep F81 K77 nin0)
    refine G.newStr H74 (strw V) (wd3 V) (wd214 V) (wd215 V) (cs := [(x2 &&& 255), ((XT.ushr x2 8) &&& 255)]) (n := 2) na61 F78 F80 F82 A76 (hv9 V) (hv10 V) rfl rfl (by decide) (by decide) (cbS (own_and255 _) (cbS (own_and255 _) cb0)) (Sf.mem (mG (i := 1) rfl)) (rest := [.ref a61]) (W := 1) rfl rfl at_80 (J := 83) rfl (by decide) (by decide) (by decide) (by decide) ?_
    intro T83 h83_ t84 k85 g88 H83 K86 S87
    have nt84 : n0 ≤ t84 := Nat.le_trans H74.le g88
    refine G.astore H83 (L' := #[.val (.int x0), .val (.int x1), .val (.int x2), .val (.int x3), .val (.int ((x0 &&& 2147483647) % 3)), .val (.int 2), .val (.int (x2 &&& 255)), .val (.int ((XT.ushr x2 8) &&& 255)), .val (.ref a61), .unset, .unset, .unset, .unset, .unset]) at_83 (J := 85) rfl rfl rfl ?_
    refine G.iloadN H83 at_85 (J := 86) rfl rfl ?_
    refine G.sipush H83 at_86 (J := 89) rfl (v := 255) rfl ?_
    refine G.iand H83 at_89 (J := 90) rfl ?_
    refine G.i2c H83 (y := (x3 &&& 255)) at_90 (J := 91) rfl (own_c16 (own_u16 (own_and255 _))) ?_
    refine G.callS H83 (m4_valueOf V (x3 &&& 255) h83_ H83.old (own_and255 _)) (wd9 V) (wd10 V) (wd2 V) (wd11 V) (by decide) (argsL := [(.int (x3 &&& 255))]) (rest := []) (W := 0) rfl rfl (lenOf (pd_3) rfl) rfl rfl at_91 (J := 94) rfl (by decide) (by decide) (by decide) (by decide) all0 ?_
    intro T89 h89_ v90 s91 H89 Q92
    obtain ⟨a93, a94, k95, rfl, rfl, K96, g97, g98, F99, F100, F101⟩ := Q92
    have na93 : n0 ≤ a93 := Nat.le_trans H83.le g97
    have na94 : n0 ≤ a94 := Nat.le_trans H83.le (Nat.le_of_lt (Nat.lt_of_le_of_lt g97 g98))
    show Go p e below _ (T89.setTop (mkF m 94 _ [.ref a93]))
    refine G.astore H89 (L' := #[.val (.int x0), .val (.int x1), .val (.int x2), .val (.int x3), .val (.int ((x0 &&& 2147483647) % 3)), .val (.int 2), .val (.int (x2 &&& 255)), .val (.int ((XT.ushr x2 8) &&& 255)), .val (.ref a61), .val (.ref a93), .unset, .unset, .unset, .unset]) at_94 (J := 96) rfl rfl rfl ?_
    have F102 := (Exa.keep S87.1 K96)
    have F103 := (Fld.keep S87.2.2.1 K96 nin0)
    have F104 := (Arv.keep S87.2.2.2.1 K96 nin0)
    have F105 := (Fld.keep S87.2.1 K96 nin0)
    exact cut143_96 V ((x0 &&& 2147483647) % 3) x0 x1 x2 x3 a61 a93 t84 k85 ((H89.less all0).mono (C' := 5) (S' := 13) (by decide) (by decide)) (own_r3 _) F102 F103 F104 F105
theorem rmLaw (V : Env1 Z a0 n0 uu0 uu1 uu2 uu3 uu4) (x0 : Int32) (x1 : Int32) (x2 : Int32) (x3 : Int32) (h0 : Heap) (hO : Old Z n0 h0) :
    Met Z a0 ELs True n0 l x code maxLocals ret room_1 #[.int x0, .int x1, .int x2, .int x3] h0 [] (fun v h so => v = some (.int 1)) := by
  refine Met.of (EWl V) (by first | decide +kernel | rfl) hO (L0 := #[.val (.int x0), .val (.int x1), .val (.int x2), .val (.int x3), .unset, .unset, .unset, .unset, .unset, .unset, .unset, .unset, .unset, .unset]) rfl ?_
  intro p e s m below meth c T H
  show Go p e below _ (T.setTop (mkF m 0 _ []))
  refine G.iloadN H at_0 (J := 1) rfl rfl ?_
  refine G.ldcI H (wd0 V) at_1 (J := 3) rfl ?_
  refine G.iand H at_3 (J := 4) rfl ?_
  refine G.iconst H at_4 (J := 5) rfl (v := 3) rfl ?_
  refine G.irem H at_5 (J := 6) rfl (by decide) ?_
  refine G.istore H (L' := #[.val (.int x0), .val (.int x1), .val (.int x2), .val (.int x3), .val (.int ((x0 &&& 2147483647) % 3)), .unset, .unset, .unset, .unset, .unset, .unset, .unset, .unset, .unset]) at_6 (J := 8) rfl rfl ?_
  refine G.iloadN H at_8 (J := 9) rfl rfl ?_
  refine G.ldcI H (wd0 V) at_9 (J := 11) rfl ?_
  refine G.iand H at_11 (J := 12) rfl ?_
  refine G.iconst H at_12 (J := 13) rfl (v := 3) rfl ?_
  refine G.irem H at_13 (J := 14) rfl (by decide) ?_
  refine G.istore H (L' := #[.val (.int x0), .val (.int x1), .val (.int x2), .val (.int x3), .val (.int ((x0 &&& 2147483647) % 3)), .val (.int ((x1 &&& 2147483647) % 3)), .unset, .unset, .unset, .unset, .unset, .unset, .unset, .unset]) at_14 (J := 16) rfl rfl ?_
  refine G.iloadN H at_16 (J := 17) rfl rfl ?_
  refine G.sipush H at_17 (J := 20) rfl (v := 255) rfl ?_
  refine G.iand H at_20 (J := 21) rfl ?_
  refine G.i2c H (y := (x2 &&& 255)) at_21 (J := 22) rfl (own_c16 (own_u16 (own_and255 _))) ?_
  refine G.istore H (L' := #[.val (.int x0), .val (.int x1), .val (.int x2), .val (.int x3), .val (.int ((x0 &&& 2147483647) % 3)), .val (.int ((x1 &&& 2147483647) % 3)), .val (.int (x2 &&& 255)), .unset, .unset, .unset, .unset, .unset, .unset, .unset]) at_22 (J := 24) rfl rfl ?_
  refine G.iloadN H at_24 (J := 25) rfl rfl ?_
  refine G.bipush H at_25 (J := 27) rfl (v := 8) rfl ?_
  refine G.iushr H at_27 (J := 28) rfl ?_
  refine G.sipush H at_28 (J := 31) rfl (v := 255) rfl ?_
  refine G.iand H at_31 (J := 32) rfl ?_
  refine G.i2c H (y := ((XT.ushr x2 8) &&& 255)) at_32 (J := 33) rfl (own_c16 (own_u16 (own_and255 _))) ?_
  refine G.istore H (L' := #[.val (.int x0), .val (.int x1), .val (.int x2), .val (.int x3), .val (.int ((x0 &&& 2147483647) % 3)), .val (.int ((x1 &&& 2147483647) % 3)), .val (.int (x2 &&& 255)), .val (.int ((XT.ushr x2 8) &&& 255)), .unset, .unset, .unset, .unset, .unset, .unset]) at_33 (J := 35) rfl rfl ?_
  exact cut144_35 V ((x1 &&& 2147483647) % 3) x0 x1 x2 x3 ((H.less all0).mono (C' := 0) (S' := 0) (by decide) (by decide)) (own_r3 _)

theorem comes_1 {Post : Tables → Env → Array Value → State → Outcome → State → Prop} (hpost : ∀ tb e args s v u, (limb_1_1.after args s (.returned v) u = true ∧ limb_1_2.after args s (.returned v) u = true ∧ True) → ReturnedEndW s (.returned v) u (Jvm.fieldLocs frame_1_writes args s ++ Jvm.arrayLocs frame_1_arrays args s ++ Jvm.staticLocs frame_1_statics s) 56 9600 → Post tb e args s (.returned v) u) :
    ArmFor flags0 classFile x code maxLocals ret World_1 tables_1 room_1 Calls_1 rest_1 Pre_1 Post := by
  intro l hfl _ _ p e ha hc hk s m args below hf hA hF happ hP
  obtain ⟨hcalls, hrest, hpre⟩ := hP
  obtain ⟨-, -, -, hnamed, -, -, -, hat⟩ := (Spec.applies_iff hf).mp happ
  obtain ⟨hg, hn⟩ := and_e (Cond.before_iff.mp (show (Cond.and given_1 narrow_1).before args s = true from hpre))
  obtain ⟨hg0, hg1⟩ := and_e hg
  obtain ⟨ha0, hg2⟩ := and_e hg1
  obtain ⟨ha1, hg3⟩ := and_e hg2
  obtain ⟨ha2, hg4⟩ := and_e hg3
  have ha3 := hg4
  obtain ⟨w0, w1, w2, w3, rfl⟩ : ∃ w0 w1 w2 w3 : Value, args = #[w0, w1, w2, w3] := by
    have hs : args.size = 4 := by simpa [Cond.value, given_1] using hg0
    obtain ⟨L⟩ := args
    match L, hs with
    | [w0, w1, w2, w3], _ => exact ⟨w0, w1, w2, w3, rfl⟩
  have hw := fun d (hd : d ∈ tables_1) => atoms_spec (ws := Jvm.Cond.code x code maxLocals ret :: tables_1) hat d (List.mem_cons_of_mem _ hd)
  obtain ⟨hsets, hown0⟩ := atoms_of _ (rest_1_c_eq ▸ (show rest_1_c.before _ s = true from hrest))
  have hr0 := Cond.before_iff.mp hown0
  have hfit : Fit s := fun {y c} hc i hi => by
    obtain ⟨ha, rfl⟩ := Array.getElem?_eq_some_iff.mp hc
    have q := List.all_eq_true.mp ((Array.all_eq_true_iff_forall_mem.mp hF) _ (Array.getElem_mem ha)) i (List.mem_range.mpr hi)
    simpa [Array.getElem?_eq_getElem hi] using q
  obtain ⟨i0, e0⟩ := is_v ha0
  obtain rfl : w0 = (.int i0) := Option.some.inj e0
  obtain ⟨i1, e1⟩ := is_v ha1
  obtain rfl : w1 = (.int i1) := Option.some.inj e1
  obtain ⟨i2, e2⟩ := is_v ha2
  obtain rfl : w2 = (.int i2) := Option.some.inj e2
  obtain ⟨i3, e3⟩ := is_v ha3
  obtain rfl : w3 = (.int i3) := Option.some.inj e3
  obtain ⟨nr0, hn0⟩ := and_e hn
  obtain ⟨nr1, hn1⟩ := and_e hn0
  obtain ⟨nr2, hn2⟩ := and_e hn1
  obtain ⟨nr3, hn3⟩ := and_e hn2
  obtain ⟨nr4, hn4⟩ := and_e hn3
  have nr5 := hn4
  obtain ⟨uu0, e_HINT⟩ := exa_v nr2
  have hv0 := Sta.start e_HINT (Or.inr ⟨hw _ (List.mem_of_getElem? (i := 31) rfl), hw _ (List.mem_of_getElem? (i := 83) rfl)⟩)
  have hv1 := Exa.start e_HINT nr2
  obtain ⟨uu1, e_TITLE⟩ := exa_v nr0
  have hv2 := Sta.start e_TITLE (Or.inr ⟨hw _ (List.mem_of_getElem? (i := 31) rfl), hw _ (List.mem_of_getElem? (i := 32) rfl)⟩)
  have hv3 := Exa.start e_TITLE nr0
  obtain ⟨uu2, e_TOGGLE⟩ := exa_v nr4
  have hv4 := Sta.start e_TOGGLE (Or.inr ⟨hw _ (List.mem_of_getElem? (i := 31) rfl), hw _ (List.mem_of_getElem? (i := 234) rfl)⟩)
  have hv5 := Exa.start e_TOGGLE nr4
  have hv6 := own_fldeq e_TITLE nr1
  have hv7 := own_fldeq e_HINT nr3
  have hv8 := own_fldeq e_TOGGLE nr5
  obtain ⟨uu3, ez_COMPACT_STRINGS⟩ := is_v (Cond.before_iff.mp (hsets _ (List.mem_of_getElem? (i := 1) rfl)))
  have hv9 := Sta.start ez_COMPACT_STRINGS (Or.inl (hsets _ (List.mem_of_getElem? (i := 0) rfl)))
  have hv10 : ¬ (uu3 = (0 : Int32)) := gotF (Cond.eq_ints ez_COMPACT_STRINGS (Term.int_eval (0))) (not_v (Cond.before_iff.mp (hsets _ (List.mem_of_getElem? (i := 2) rfl))))
  obtain ⟨uu4, ez_SIOOBE_FORMATTER, hv12⟩ := isR_v (Cond.before_iff.mp (hsets _ (List.mem_of_getElem? (i := 8) rfl)))
  have hv11 := Sta.start ez_SIOOBE_FORMATTER (Or.inl (hsets _ (List.mem_of_getElem? (i := 7) rfl)))
  have V : Env1 s _ s.heap.size uu0 uu1 uu2 uu3 uu4 := ⟨hw, (EW.cons (hw _ (List.mem_of_getElem? (i := 45) rfl)) (by decide) (EW.cons (hw _ (List.mem_of_getElem? (i := 50) rfl)) (by decide) (EW.cons (hw _ (List.mem_of_getElem? (i := 71) rfl)) (by decide) (EW.cons (hw _ (List.mem_of_getElem? (i := 102) rfl)) (by decide) (EW.cons (hw _ (List.mem_of_getElem? (i := 235) rfl)) (by decide) (EW.cons (hw _ (List.mem_of_getElem? (i := 1) rfl)) (by decide) (EW.cons (hw _ (List.mem_of_getElem? (i := 76) rfl)) (by decide) (EW.cons (hw _ (List.mem_of_getElem? (i := 246) rfl)) (by decide) (EW.cons (hw _ (List.mem_of_getElem? (i := 236) rfl)) (by decide) EW.nil))))))))), hv0, hv1, hv2, hv3, hv4, hv5, hv6, hv7, hv8, hv9, hv10, hv11, hv12, trivial⟩
  have hCH : CHv s ELs s.vm s.heap := CHv.start (EWl V) (fun q hq => hcalls.1 q hq) (hsets _ (List.mem_of_getElem? (i := 2) rfl)) (hw _ (List.mem_of_getElem? (i := 4) rfl)) (hw _ (List.mem_of_getElem? (i := 3) rfl))
  obtain ⟨n, o, g1, g2, g3, v, L, so, rfl, rfl, -, N, -, -, hq, hq2⟩ := rmLaw (l := l) V i0 i1 i2 i3 s.heap (Old.start s) tables_1 p e ha hc hk s m _ below hf ((Spec.applies_iff_loose hf).mp happ).1 ⟨rfl, State.Warmed39.refl s, rfl, hCH, fun _ q => nomatch q⟩ trivial
  refine ⟨n, _, g1, g2, g3, hpost _ _ _ _ _ _ ⟨Cond.after_iff.mpr rfl, Cond.after_iff.mpr (eq_i res_at (Term.int_eval (1)) rfl), trivial⟩ ⟨hq.1, hq.2.1, hq.2.2.1, (hq.2.2.2.sift fun y hy => Or.inr (N y hy)).mono (by decide) (by decide)⟩⟩
theorem main_1_1 : Claimed_1_1 := comes_1 fun _ _ _ _ _ _ h hF => ⟨h.1, hF⟩
theorem main_1_2 : Claimed_1_2 := comes_1 fun _ _ _ _ _ _ h hF => ⟨h.2.1, hF⟩
end Jvm.Pilot.@@N@@
namespace Jvm.Pilot.@@N@@
open Jvm Jvm.ClassFile Sem Op Lib Jvm.Free Jvm.Stand Jvm.Pilot.@@N@@.Jvm.D
/-! MADE BY PROGRAM (witnessworld.py) out of the Statement's table words and the real class files: 30 classes; the members and pool entries that the words name. The judged class is class 1, her method 1. -/
namespace start1
set_option maxRecDepth 65536
open Jvm.ClassFile
def u (s : String) : CpInfo := .utf8 (stringToUtf16 s)
/-- a pool by its gaps: so many unusable entries, then the entry; so many at the end -/
def gap : Nat → List CpInfo → List CpInfo
  | 0, r => r
  | n + 1, r => .unusable :: gap n r
def poolList (es : List (Nat × CpInfo)) (last : Nat) : List CpInfo := es.foldr (fun e r => gap e.1 (e.2 :: r)) (gap last [])
def pool (es : List (Nat × CpInfo)) (last : Nat) : Array CpInfo := ⟨poolList es last⟩
def fileOf (pool : Array CpInfo) (this : Nat) (attrs : Array Attribute := #[]) (ms : Array MethodInfo := #[]) (fl : Nat := 33) (sup : Nat := 0) (ifs : Array Nat := #[]) (fds : Array FieldInfo := #[]) : ClassFile where
  minorVersion := 0
  majorVersion := 65
  constantPool := pool
  accessFlags := fl
  thisClass := this
  superClass := sup
  interfaces := ifs
  fields := fds
  methods := ms
  attributes := attrs
def plain (name : String) (sup : Option ClassId) : Class where
  name := name
  kind := .ordinary
  loader := none
  accessFlags := 33
  super := sup
  interfaces := #[]
  cf := none
  fields := #[]
  methods := #[]
  instanceTypes := #[]
  staticTypes := #[]
  resolved := #[]
  callSites := []
  init := .initialized
  statics := none
  mirror := none

def pool0 : Array CpInfo := pool [(5, u "<init>"), (0, u "()V"), (1, .class_ 10), (1, u "java/lang/Object"), (85, u "clone"), (0, u "()Ljava/lang/Object;")] 26

def k0c0 : Code := { maxStack := 0, maxLocals := 1, code := object_method_1_code, exceptionTable := #[], attributes := #[] }
def k0m0 : Method := { name := "<init>", desc := "()V", sig := { parameters := [], returnType := none }, accessFlags := 1, code := some k0c0 }
def k0m1 : Method := { name := "clone", desc := "()Ljava/lang/Object;", sig := { parameters := [], returnType := some (.object "java/lang/Object") }, accessFlags := 260, code := none }
/-- java/lang/Object -/
def k0 : Class := { plain "java/lang/Object" none with
  accessFlags := 33
  interfaces := #[]
  cf := some (fileOf pool0 8 #[] #[{ accessFlags := 1, nameIndex := 5, descriptorIndex := 6, attributes := #[] }, { accessFlags := 260, nameIndex := 96, descriptorIndex := 97, attributes := #[] }] 33 0 #[] #[])
  fields := #[]
  methods := #[k0m0, k0m1]
  instanceTypes := #[]
  staticTypes := #[]
  resolved := Array.replicate 124 none
  statics := none }

def pool1 : Array CpInfo := pool [(2, .class_ 4), (1, u "java/lang/Object"), (0, u "<init>"), (0, u "()V"), (0, .integer 2147483647), (0, .string 9), (0, u ""), (0, .methodref 11 12), (0, .class_ 13), (0, .nameAndType 14 15), (0, u "java/lang/String"), (0, u "valueOf"), (0, u "(C)Ljava/lang/String;"), (0, .methodref 11 17), (0, .nameAndType 5 18), (0, u "([C)V"), (0, .fieldref 20 21), (0, .class_ 22), (0, .nameAndType 23 24), (0, u "com/example/formboard/formboard/core/Board$Part"), (0, u "TITLE"), (0, u "Lcom/example/formboard/formboard/core/Board$Part;"), (0, .fieldref 20 26), (0, .nameAndType 27 24), (0, u "HINT"), (0, .fieldref 20 29), (0, .nameAndType 30 24), (0, u "TOGGLE"), (0, .class_ 32), (0, u "com/example/formboard/formboard/core/Board$Live"), (0, .methodref 31 34), (0, .nameAndType 5 35), (0, u "(Lcom/example/formboard/formboard/core/Board$Part;Ljava/lang/String;Ljava/lang/String;)V"), (0, .methodref 31 37), (0, .nameAndType 38 39), (0, u "description"), (0, u "()Ljava/lang/String;"), (0, .methodref 41 42), (0, .class_ 43), (0, .nameAndType 44 45), (0, u "com/example/formboard/formboard/core/LiveDescriptionPinLaw"), (0, u "expected"), (0, u "(IICC)Ljava/lang/String;"), (0, .methodref 11 47), (0, .nameAndType 48 49), (0, u "equals"), (0, u "(Ljava/lang/Object;)Z"), (0, .string 51), (0, u "the title"), (0, .string 53), (0, u "the hint of key "), (0, .string 55), (0, u "the toggle of key "), (2, u "law"), (0, u "(IIII)Z")] 8

def k1m0 : Method := { name := "<init>", desc := "()V", sig := { parameters := [], returnType := none }, accessFlags := 2, code := none }
def k1c1 : Code := { maxStack := 6, maxLocals := 14, code := code, exceptionTable := #[], attributes := #[] }
def k1m1 : Method := { name := "law", desc := "(IIII)Z", sig := { parameters := [.int, .int, .int, .int], returnType := some .boolean }, accessFlags := 9, code := some k1c1 }
def k1c2 : Code := { maxStack := 6, maxLocals := 4, code := method_3_code, exceptionTable := #[], attributes := #[] }
def k1m2 : Method := { name := "expected", desc := "(IICC)Ljava/lang/String;", sig := { parameters := [.int, .int, .char, .char], returnType := some (.object "java/lang/String") }, accessFlags := 10, code := some k1c2 }
/-- com/example/formboard/formboard/core/LiveDescriptionPinLaw -/
def k1 : Class := { plain "com/example/formboard/formboard/core/LiveDescriptionPinLaw" (some 0) with
  accessFlags := 49
  interfaces := #[]
  cf := some (fileOf pool1 41 #[] #[{ accessFlags := 2, nameIndex := 5, descriptorIndex := 6, attributes := #[] }, { accessFlags := 9, nameIndex := 58, descriptorIndex := 59, attributes := #[] }, { accessFlags := 10, nameIndex := 44, descriptorIndex := 45, attributes := #[] }] 49 2 #[] #[])
  fields := #[]
  methods := #[k1m0, k1m1, k1m2]
  instanceTypes := #[]
  staticTypes := #[]
  resolved := Array.replicate 68 none
  statics := none }

def pool2 : Array CpInfo := pool [(1, .class_ 2), (0, u "java/io/Serializable"), (0, .class_ 4), (0, u "java/lang/Object")] 2

/-- java/io/Serializable -/
def k2 : Class := { plain "java/io/Serializable" (some 0) with
  accessFlags := 1537
  interfaces := #[]
  cf := some (fileOf pool2 1 #[] #[] 1537 3 #[] #[])
  fields := #[]
  methods := #[]
  instanceTypes := #[]
  staticTypes := #[]
  resolved := Array.replicate 7 none
  statics := none }

def pool3 : Array CpInfo := pool [(1, .class_ 2), (0, u "java/lang/Comparable"), (0, .class_ 4), (0, u "java/lang/Object")] 7

/-- java/lang/Comparable -/
def k3 : Class := { plain "java/lang/Comparable" (some 0) with
  accessFlags := 1537
  interfaces := #[]
  cf := some (fileOf pool3 1 #[] #[] 1537 3 #[] #[])
  fields := #[]
  methods := #[]
  instanceTypes := #[]
  staticTypes := #[]
  resolved := Array.replicate 12 none
  statics := none }

def pool4 : Array CpInfo := pool [(2, .class_ 4), (1, u "java/lang/CharSequence"), (42, .class_ 48), (0, u "java/lang/CharSequence$1CodePointIterator"), (10, .class_ 60), (0, u "java/lang/CharSequence$1CharIterator"), (5, .class_ 67), (0, u "java/lang/Object")] 63

/-- java/lang/CharSequence -/
def k4 : Class := { plain "java/lang/CharSequence" (some 0) with
  accessFlags := 1537
  interfaces := #[]
  cf := some (fileOf pool4 2 #[.nestMembers #[47, 59]] #[] 1537 66 #[] #[])
  fields := #[]
  methods := #[]
  instanceTypes := #[]
  staticTypes := #[]
  resolved := Array.replicate 131 none
  statics := none }

def pool5 : Array CpInfo := pool [(1, .class_ 2), (0, u "java/lang/constant/Constable"), (0, .class_ 4), (0, u "java/lang/Object")] 6

/-- java/lang/constant/Constable -/
def k5 : Class := { plain "java/lang/constant/Constable" (some 0) with
  accessFlags := 1537
  interfaces := #[]
  cf := some (fileOf pool5 1 #[] #[] 1537 3 #[] #[])
  fields := #[]
  methods := #[]
  instanceTypes := #[]
  staticTypes := #[]
  resolved := Array.replicate 11 none
  statics := none }

def pool6 : Array CpInfo := pool [(1, .class_ 2), (0, u "java/lang/constant/ConstantDesc"), (0, .class_ 4), (0, u "java/lang/Object")] 32

/-- java/lang/constant/ConstantDesc -/
def k6 : Class := { plain "java/lang/constant/ConstantDesc" (some 0) with
  accessFlags := 1537
  interfaces := #[]
  cf := some (fileOf pool6 1 #[] #[] 1537 3 #[] #[])
  fields := #[]
  methods := #[]
  instanceTypes := #[]
  staticTypes := #[]
  resolved := Array.replicate 37 none
  statics := none }

def pool7 : Array CpInfo := pool [(1, .methodref 2 3), (0, .class_ 4), (0, .nameAndType 5 6), (0, u "java/lang/Object"), (0, u "<init>"), (0, u "()V"), (2, .fieldref 10 11), (0, .class_ 12), (0, .nameAndType 13 14), (0, u "java/lang/String"), (0, u "value"), (0, u "[B"), (0, .fieldref 10 16), (0, .nameAndType 17 18), (0, u "coder"), (0, u "B"), (2, u "hash"), (0, u "I"), (2, u "hashIsZero"), (0, u "Z"), (0, .methodref 10 28), (0, .nameAndType 5 29), (0, u "([CIILjava/lang/Void;)V"), (8, .fieldref 10 39), (0, .nameAndType 40 26), (0, u "COMPACT_STRINGS"), (1, .class_ 44), (1, u "java/lang/StringUTF16"), (0, u "compress"), (1, .methodref 42 48), (0, .nameAndType 49 50), (0, u "coderFromArrayLen"), (0, u "([BI)B"), (2, u "toBytes"), (0, .methodref 55 56), (0, .class_ 57), (0, .nameAndType 58 59), (0, u "java/util/Arrays"), (0, u "copyOfRange"), (0, u "([BII)[B"), (47, .class_ 109), (1, u "java/lang/StringLatin1"), (32, u "()Z"), (34, .methodref 42 178), (0, .nameAndType 45 179), (0, u "([CII)[B"), (13, .class_ 195), (1, u "java/lang/System"), (13, .methodref 10 210), (0, .nameAndType 5 211), (0, u "([BB)V"), (0, .methodref 193 213), (0, .nameAndType 214 215), (0, u "arraycopy"), (0, u "(Ljava/lang/Object;ILjava/lang/Object;II)V"), (118, u "()I"), (0, .methodref 10 336), (0, .nameAndType 17 337), (0, u "()B"), (2, u "()[B"), (28, u "(C)Z"), (119, .methodref 10 490), (0, .nameAndType 5 491), (0, u "(Ljava/lang/AbstractStringBuilder;Ljava/lang/Void;)V"), (1, .nameAndType 494 142), (0, u "isLatin1"), (11, .nameAndType 507 334), (0, u "length"), (24, u "getBytes"), (8, .methodref 107 542), (0, .nameAndType 543 544), (0, u "equals"), (0, u "([B[B)Z"), (4, .methodref 550 506), (0, .class_ 551), (0, u "java/lang/AbstractStringBuilder"), (0, .methodref 550 553), (0, .nameAndType 554 340), (0, u "getValue"), (18, u "(Ljava/lang/Object;)Z"), (1, .class_ 576), (0, u "java/lang/CharSequence"), (22, u "CASE_INSENSITIVE_ORDER"), (0, u "Ljava/util/Comparator;"), (181, u "valueOf"), (0, u "(C)Ljava/lang/String;"), (37, u "([BIB)V"), (188, u "([C)V"), (4, .methodref 107 1016), (0, .nameAndType 1017 369), (0, u "canEncode"), (0, .methodref 107 1019), (0, .nameAndType 53 1020), (0, u "(C)[B"), (26, .methodref 550 493), (53, u "serialPersistentFields"), (0, u "[Ljava/io/ObjectStreamField;"), (0, .class_ 1104), (0, u "java/lang/String$CaseInsensitiveComparator"), (1, .class_ 1107), (0, u "java/io/Serializable"), (0, .class_ 1109), (0, u "java/lang/Comparable"), (0, .class_ 1111), (0, u "java/lang/constant/Constable"), (0, .class_ 1113), (0, u "java/lang/constant/ConstantDesc"), (2, u "serialVersionUID"), (0, u "J"), (3, u "REPL"), (0, u "C"), (2, u "LATIN1"), (1, u "UTF16"), (105, u "(Ljava/lang/StringBuilder;)V")] 217

def k7m0 : Method := { name := "<init>", desc := "()V", sig := { parameters := [], returnType := none }, accessFlags := 1, code := none }
def k7c1 : Code := { maxStack := 5, maxLocals := 2, code := jdk_42_method_3_code, exceptionTable := #[], attributes := #[] }
def k7m1 : Method := { name := "<init>", desc := "([C)V", sig := { parameters := [(.array .char)], returnType := none }, accessFlags := 1, code := some k7c1 }
def k7c2 : Code := { maxStack := 3, maxLocals := 2, code := jdk_42_method_53_code, exceptionTable := #[], attributes := #[] }
def k7m2 : Method := { name := "<init>", desc := "(Ljava/lang/StringBuilder;)V", sig := { parameters := [(.object "java/lang/StringBuilder")], returnType := none }, accessFlags := 1, code := some k7c2 }
def k7c3 : Code := { maxStack := 2, maxLocals := 1, code := jdk_42_method_54_code, exceptionTable := #[], attributes := #[] }
def k7m3 : Method := { name := "length", desc := "()I", sig := { parameters := [], returnType := some .int }, accessFlags := 1, code := some k7c3 }
def k7c4 : Code := { maxStack := 2, maxLocals := 3, code := jdk_42_method_66_code, exceptionTable := #[], attributes := #[] }
def k7m4 : Method := { name := "equals", desc := "(Ljava/lang/Object;)Z", sig := { parameters := [(.object "java/lang/Object")], returnType := some .boolean }, accessFlags := 1, code := some k7c4 }
def k7c5 : Code := { maxStack := 4, maxLocals := 1, code := jdk_42_method_139_code, exceptionTable := #[], attributes := #[] }
def k7m5 : Method := { name := "valueOf", desc := "(C)Ljava/lang/String;", sig := { parameters := [.char], returnType := some (.object "java/lang/String") }, accessFlags := 9, code := some k7c5 }
def k7c6 : Code := { maxStack := 5, maxLocals := 4, code := jdk_42_method_147_code, exceptionTable := #[], attributes := #[] }
def k7m6 : Method := { name := "getBytes", desc := "([BIB)V", sig := { parameters := [(.array .byte), .int, .byte], returnType := none }, accessFlags := 0, code := some k7c6 }
def k7c7 : Code := { maxStack := 4, maxLocals := 6, code := jdk_42_method_149_code, exceptionTable := #[], attributes := #[] }
def k7m7 : Method := { name := "<init>", desc := "([CIILjava/lang/Void;)V", sig := { parameters := [(.array .char), .int, .int, (.object "java/lang/Void")], returnType := none }, accessFlags := 2, code := some k7c7 }
def k7c8 : Code := { maxStack := 5, maxLocals := 5, code := jdk_42_method_150_code, exceptionTable := #[], attributes := #[] }
def k7m8 : Method := { name := "<init>", desc := "(Ljava/lang/AbstractStringBuilder;Ljava/lang/Void;)V", sig := { parameters := [(.object "java/lang/AbstractStringBuilder"), (.object "java/lang/Void")], returnType := none }, accessFlags := 0, code := some k7c8 }
def k7c9 : Code := { maxStack := 2, maxLocals := 3, code := jdk_42_method_151_code, exceptionTable := #[], attributes := #[] }
def k7m9 : Method := { name := "<init>", desc := "([BB)V", sig := { parameters := [(.array .byte), .byte], returnType := none }, accessFlags := 0, code := some k7c9 }
def k7c10 : Code := { maxStack := 1, maxLocals := 1, code := jdk_42_method_152_code, exceptionTable := #[], attributes := #[] }
def k7m10 : Method := { name := "coder", desc := "()B", sig := { parameters := [], returnType := some .byte }, accessFlags := 0, code := some k7c10 }
/-- java/lang/String -/
def k7 : Class := { plain "java/lang/String" (some 0) with
  accessFlags := 49
  interfaces := #[2, 3, 4, 5, 6]
  cf := some (fileOf pool7 10 #[.nestMembers #[1103]] #[{ accessFlags := 1, nameIndex := 5, descriptorIndex := 6, attributes := #[] }, { accessFlags := 1, nameIndex := 5, descriptorIndex := 1010, attributes := #[] }, { accessFlags := 1, nameIndex := 5, descriptorIndex := 1233, attributes := #[] }, { accessFlags := 1, nameIndex := 507, descriptorIndex := 334, attributes := #[] }, { accessFlags := 1, nameIndex := 543, descriptorIndex := 573, attributes := #[] }, { accessFlags := 9, nameIndex := 782, descriptorIndex := 783, attributes := #[] }, { accessFlags := 0, nameIndex := 532, descriptorIndex := 821, attributes := #[] }, { accessFlags := 2, nameIndex := 5, descriptorIndex := 29, attributes := #[] }, { accessFlags := 0, nameIndex := 5, descriptorIndex := 491, attributes := #[] }, { accessFlags := 0, nameIndex := 5, descriptorIndex := 211, attributes := #[] }, { accessFlags := 0, nameIndex := 17, descriptorIndex := 337, attributes := #[] }] 49 2 #[1106, 1108, 575, 1110, 1112] #[{ accessFlags := 18, nameIndex := 13, descriptorIndex := 14, attributes := #[] }, { accessFlags := 18, nameIndex := 17, descriptorIndex := 18, attributes := #[] }, { accessFlags := 2, nameIndex := 21, descriptorIndex := 22, attributes := #[] }, { accessFlags := 2, nameIndex := 25, descriptorIndex := 26, attributes := #[] }, { accessFlags := 26, nameIndex := 1116, descriptorIndex := 1117, attributes := #[] }, { accessFlags := 24, nameIndex := 40, descriptorIndex := 26, attributes := #[] }, { accessFlags := 26, nameIndex := 1101, descriptorIndex := 1102, attributes := #[] }, { accessFlags := 26, nameIndex := 1121, descriptorIndex := 1122, attributes := #[] }, { accessFlags := 25, nameIndex := 599, descriptorIndex := 600, attributes := #[] }, { accessFlags := 24, nameIndex := 1125, descriptorIndex := 18, attributes := #[] }, { accessFlags := 24, nameIndex := 1127, descriptorIndex := 18, attributes := #[] }])
  fields := #[{ name := "value", type := (.array .byte), accessFlags := 18, slot := 0, constantValue := 0 }, { name := "coder", type := .byte, accessFlags := 18, slot := 1, constantValue := 0 }, { name := "hash", type := .int, accessFlags := 2, slot := 2, constantValue := 0 }, { name := "hashIsZero", type := .boolean, accessFlags := 2, slot := 3, constantValue := 0 }, { name := "serialVersionUID", type := .long, accessFlags := 26, slot := 0, constantValue := 0 }, { name := "COMPACT_STRINGS", type := .boolean, accessFlags := 24, slot := 1, constantValue := 0 }, { name := "serialPersistentFields", type := (.array (.object "java/io/ObjectStreamField")), accessFlags := 26, slot := 2, constantValue := 0 }, { name := "REPL", type := .char, accessFlags := 26, slot := 3, constantValue := 0 }, { name := "CASE_INSENSITIVE_ORDER", type := (.object "java/util/Comparator"), accessFlags := 25, slot := 4, constantValue := 0 }, { name := "LATIN1", type := .byte, accessFlags := 24, slot := 5, constantValue := 0 }, { name := "UTF16", type := .byte, accessFlags := 24, slot := 6, constantValue := 0 }]
  methods := #[k7m0, k7m1, k7m2, k7m3, k7m4, k7m5, k7m6, k7m7, k7m8, k7m9, k7m10]
  instanceTypes := #[(.array .byte), .byte, .int, .boolean]
  staticTypes := #[.long, .boolean, (.array (.object "java/io/ObjectStreamField")), .char, (.object "java/util/Comparator"), .byte, .byte]
  resolved := Array.replicate 1451 none
  statics := some 0 }

def pool8 : Array CpInfo := pool [(4, .class_ 6), (1, u "java/lang/Object"), (0, u "<init>"), (0, u "()V"), (5, .class_ 16), (1, u "java/lang/StringLatin1"), (73, u "canEncode"), (14, u "(C)Z"), (15, u "$assertionsDisabled"), (0, u "Z"), (98, .class_ 223), (1, u "java/lang/StringLatin1$LinesSpliterator"), (57, u "equals"), (0, u "([B[B)Z"), (97, u "toBytes"), (1, u "(C)[B"), (7, .class_ 391), (0, u "java/lang/StringLatin1$CharsSpliterator")] 3

def k8m0 : Method := { name := "<init>", desc := "()V", sig := { parameters := [], returnType := none }, accessFlags := 0, code := none }
def k8c1 : Code := { maxStack := 2, maxLocals := 1, code := jdk_43_method_3_code, exceptionTable := #[], attributes := #[] }
def k8m1 : Method := { name := "canEncode", desc := "(C)Z", sig := { parameters := [.char], returnType := some .boolean }, accessFlags := 9, code := some k8c1 }
def k8c2 : Code := { maxStack := 3, maxLocals := 3, code := jdk_43_method_13_code, exceptionTable := #[], attributes := #[] }
def k8m2 : Method := { name := "equals", desc := "([B[B)Z", sig := { parameters := [(.array .byte), (.array .byte)], returnType := some .boolean }, accessFlags := 9, code := some k8c2 }
def k8c3 : Code := { maxStack := 4, maxLocals := 1, code := jdk_43_method_46_code, exceptionTable := #[], attributes := #[] }
def k8m3 : Method := { name := "toBytes", desc := "(C)[B", sig := { parameters := [.char], returnType := some (.array .byte) }, accessFlags := 9, code := some k8c3 }
/-- java/lang/StringLatin1 -/
def k8 : Class := { plain "java/lang/StringLatin1" (some 0) with
  accessFlags := 48
  interfaces := #[]
  cf := some (fileOf pool8 14 #[.nestMembers #[390, 221]] #[{ accessFlags := 0, nameIndex := 7, descriptorIndex := 8, attributes := #[] }, { accessFlags := 9, nameIndex := 90, descriptorIndex := 105, attributes := #[] }, { accessFlags := 9, nameIndex := 281, descriptorIndex := 282, attributes := #[] }, { accessFlags := 9, nameIndex := 380, descriptorIndex := 382, attributes := #[] }] 48 4 #[] #[{ accessFlags := 4120, nameIndex := 121, descriptorIndex := 122, attributes := #[] }])
  fields := #[{ name := "$assertionsDisabled", type := .boolean, accessFlags := 4120, slot := 0, constantValue := 0 }]
  methods := #[k8m0, k8m1, k8m2, k8m3]
  instanceTypes := #[]
  staticTypes := #[.boolean]
  resolved := Array.replicate 395 none
  statics := none }

def pool9 : Array CpInfo := pool [(2, .class_ 4), (1, u "java/lang/Enum"), (0, u "name"), (0, u "Ljava/lang/String;"), (0, .fieldref 2 8), (0, .nameAndType 9 10), (0, u "ordinal"), (0, u "I"), (1, .class_ 14), (1, u "java/lang/Object"), (4, u "hash"), (86, .class_ 108), (1, u "java/lang/Enum$EnumDesc"), (2, .class_ 112), (0, u "java/lang/constant/Constable"), (0, .class_ 114), (0, u "java/lang/Comparable"), (0, .class_ 116), (0, u "java/io/Serializable"), (9, u "()I")] 77

def k9c0 : Code := { maxStack := 1, maxLocals := 1, code := jdk_37_method_2_code, exceptionTable := #[], attributes := #[] }
def k9m0 : Method := { name := "ordinal", desc := "()I", sig := { parameters := [], returnType := some .int }, accessFlags := 17, code := some k9c0 }
/-- java/lang/Enum -/
def k9 : Class := { plain "java/lang/Enum" (some 0) with
  accessFlags := 1057
  interfaces := #[5, 3, 2]
  cf := some (fileOf pool9 2 #[.nestMembers #[106]] #[{ accessFlags := 17, nameIndex := 9, descriptorIndex := 126, attributes := #[] }] 1057 12 #[111, 113, 115] #[{ accessFlags := 18, nameIndex := 5, descriptorIndex := 6, attributes := #[] }, { accessFlags := 18, nameIndex := 9, descriptorIndex := 10, attributes := #[] }, { accessFlags := 2, nameIndex := 19, descriptorIndex := 10, attributes := #[] }])
  fields := #[{ name := "name", type := (.object "java/lang/String"), accessFlags := 18, slot := 0, constantValue := 0 }, { name := "ordinal", type := .int, accessFlags := 18, slot := 1, constantValue := 0 }, { name := "hash", type := .int, accessFlags := 2, slot := 2, constantValue := 0 }]
  methods := #[k9m0]
  instanceTypes := #[(.object "java/lang/String"), .int, .int]
  staticTypes := #[]
  resolved := Array.replicate 204 none
  statics := none }

def pool10 : Array CpInfo := pool [(1, .class_ 2), (0, u "com/example/formboard/formboard/core/Board$Part"), (2, u "TITLE"), (0, u "Lcom/example/formboard/formboard/core/Board$Part;"), (2, u "HINT"), (2, u "TOGGLE"), (2, u "$VALUES"), (0, u "[Lcom/example/formboard/formboard/core/Board$Part;"), (6, .class_ 25), (1, u "java/lang/Enum"), (26, .class_ 53), (0, u "com/example/formboard/formboard/core/Board")] 2

/-- com/example/formboard/formboard/core/Board$Part -/
def k10 : Class := { plain "com/example/formboard/formboard/core/Board$Part" (some 9) with
  accessFlags := 16433
  interfaces := #[]
  cf := some (fileOf pool10 1 #[.nestHost 52] #[] 16433 23 #[] #[{ accessFlags := 16409, nameIndex := 5, descriptorIndex := 6, attributes := #[] }, { accessFlags := 16409, nameIndex := 9, descriptorIndex := 6, attributes := #[] }, { accessFlags := 16409, nameIndex := 12, descriptorIndex := 6, attributes := #[] }, { accessFlags := 4122, nameIndex := 15, descriptorIndex := 16, attributes := #[] }])
  fields := #[{ name := "TITLE", type := (.object "com/example/formboard/formboard/core/Board$Part"), accessFlags := 16409, slot := 0, constantValue := 0 }, { name := "HINT", type := (.object "com/example/formboard/formboard/core/Board$Part"), accessFlags := 16409, slot := 1, constantValue := 0 }, { name := "TOGGLE", type := (.object "com/example/formboard/formboard/core/Board$Part"), accessFlags := 16409, slot := 2, constantValue := 0 }, { name := "$VALUES", type := (.array (.object "com/example/formboard/formboard/core/Board$Part")), accessFlags := 4122, slot := 3, constantValue := 0 }]
  methods := #[]
  instanceTypes := #[(.object "java/lang/String"), .int, .int]
  staticTypes := #[(.object "com/example/formboard/formboard/core/Board$Part"), (.object "com/example/formboard/formboard/core/Board$Part"), (.object "com/example/formboard/formboard/core/Board$Part"), (.array (.object "com/example/formboard/formboard/core/Board$Part"))]
  resolved := Array.replicate 56 none
  statics := some 1 }

def pool11 : Array CpInfo := pool [(1, .methodref 2 3), (0, .class_ 4), (0, .nameAndType 5 6), (0, u "java/lang/Object"), (0, u "<init>"), (0, u "()V"), (0, .class_ 8), (0, u "java/lang/Record")] 13

def k11c0 : Code := { maxStack := 1, maxLocals := 1, code := jdk_30_method_1_code, exceptionTable := #[], attributes := #[] }
def k11m0 : Method := { name := "<init>", desc := "()V", sig := { parameters := [], returnType := none }, accessFlags := 4, code := some k11c0 }
/-- java/lang/Record -/
def k11 : Class := { plain "java/lang/Record" (some 0) with
  accessFlags := 1057
  interfaces := #[]
  cf := some (fileOf pool11 7 #[] #[{ accessFlags := 4, nameIndex := 5, descriptorIndex := 6, attributes := #[] }] 1057 2 #[] #[])
  fields := #[]
  methods := #[k11m0]
  instanceTypes := #[]
  staticTypes := #[]
  resolved := Array.replicate 22 none
  statics := none }

def pool12 : Array CpInfo := pool [(1, .methodref 2 3), (0, .class_ 4), (0, .nameAndType 5 6), (0, u "java/lang/Record"), (0, u "<init>"), (0, u "()V"), (0, .string 8), (0, u "part"), (0, .methodref 10 11), (0, .class_ 12), (0, .nameAndType 13 14), (0, u "java/util/Objects"), (0, u "requireNonNull"), (0, u "(Ljava/lang/Object;Ljava/lang/String;)Ljava/lang/Object;"), (0, .string 16), (0, u "form"), (0, .fieldref 18 19), (0, .class_ 20), (0, .nameAndType 8 21), (0, u "com/example/formboard/formboard/core/Board$Live"), (0, u "Lcom/example/formboard/formboard/core/Board$Part;"), (0, .fieldref 18 23), (0, .nameAndType 24 25), (0, u "key"), (0, u "Ljava/lang/String;"), (0, .fieldref 18 27), (0, .nameAndType 16 25), (0, .methodref 29 30), (0, .class_ 31), (0, .nameAndType 32 33), (0, u "com/example/formboard/formboard/core/Board$Part"), (0, u "ordinal"), (0, u "()I"), (5, .string 40), (0, u "the title"), (0, .class_ 42), (0, u "java/lang/StringBuilder"), (0, .methodref 41 3), (0, .string 45), (0, u "the hint of key "), (0, .methodref 41 47), (0, .nameAndType 48 49), (0, u "append"), (0, u "(Ljava/lang/String;)Ljava/lang/StringBuilder;"), (0, .methodref 41 51), (0, .nameAndType 52 53), (0, u "toString"), (0, u "()Ljava/lang/String;"), (0, .string 55), (0, u "the toggle of key "), (11, u "(Lcom/example/formboard/formboard/core/Board$Part;Ljava/lang/String;Ljava/lang/String;)V"), (3, u "description"), (8, .class_ 81), (0, u "com/example/formboard/formboard/core/Board")] 22

def k12c0 : Code := { maxStack := 2, maxLocals := 4, code := prog_16_method_1_code, exceptionTable := #[], attributes := #[] }
def k12m0 : Method := { name := "<init>", desc := "(Lcom/example/formboard/formboard/core/Board$Part;Ljava/lang/String;Ljava/lang/String;)V", sig := { parameters := [(.object "com/example/formboard/formboard/core/Board$Part"), (.object "java/lang/String"), (.object "java/lang/String")], returnType := none }, accessFlags := 1, code := some k12c0 }
def k12c1 : Code := { maxStack := 4, maxLocals := 1, code := prog_16_method_2_code, exceptionTable := #[], attributes := #[] }
def k12m1 : Method := { name := "description", desc := "()Ljava/lang/String;", sig := { parameters := [], returnType := some (.object "java/lang/String") }, accessFlags := 1, code := some k12c1 }
/-- com/example/formboard/formboard/core/Board$Live -/
def k12 : Class := { plain "com/example/formboard/formboard/core/Board$Live" (some 11) with
  accessFlags := 49
  interfaces := #[]
  cf := some (fileOf pool12 18 #[.nestHost 80] #[{ accessFlags := 1, nameIndex := 5, descriptorIndex := 67, attributes := #[] }, { accessFlags := 1, nameIndex := 71, descriptorIndex := 53, attributes := #[] }] 49 2 #[] #[{ accessFlags := 18, nameIndex := 8, descriptorIndex := 21, attributes := #[] }, { accessFlags := 18, nameIndex := 24, descriptorIndex := 25, attributes := #[] }, { accessFlags := 18, nameIndex := 16, descriptorIndex := 25, attributes := #[] }])
  fields := #[{ name := "part", type := (.object "com/example/formboard/formboard/core/Board$Part"), accessFlags := 18, slot := 0, constantValue := 0 }, { name := "key", type := (.object "java/lang/String"), accessFlags := 18, slot := 1, constantValue := 0 }, { name := "form", type := (.object "java/lang/String"), accessFlags := 18, slot := 2, constantValue := 0 }]
  methods := #[k12m0, k12m1]
  instanceTypes := #[(.object "com/example/formboard/formboard/core/Board$Part"), (.object "java/lang/String"), (.object "java/lang/String")]
  staticTypes := #[]
  resolved := Array.replicate 104 none
  statics := none }

def pool13 : Array CpInfo := pool [(2, .class_ 4), (1, u "java/lang/Object"), (0, u "<init>"), (0, u "()V"), (35, .class_ 44), (1, u "java/util/Objects"), (0, u "requireNonNull"), (48, u "(Ljava/lang/Object;Ljava/lang/String;)Ljava/lang/Object;")] 89

def k13m0 : Method := { name := "<init>", desc := "()V", sig := { parameters := [], returnType := none }, accessFlags := 2, code := none }
def k13c1 : Code := { maxStack := 3, maxLocals := 2, code := jdk_31_method_11_code, exceptionTable := #[], attributes := #[] }
def k13m1 : Method := { name := "requireNonNull", desc := "(Ljava/lang/Object;Ljava/lang/String;)Ljava/lang/Object;", sig := { parameters := [(.object "java/lang/Object"), (.object "java/lang/String")], returnType := some (.object "java/lang/Object") }, accessFlags := 9, code := some k13c1 }
/-- java/util/Objects -/
def k13 : Class := { plain "java/util/Objects" (some 0) with
  accessFlags := 49
  interfaces := #[]
  cf := some (fileOf pool13 42 #[] #[{ accessFlags := 2, nameIndex := 5, descriptorIndex := 6, attributes := #[] }, { accessFlags := 9, nameIndex := 45, descriptorIndex := 94, attributes := #[] }] 49 2 #[] #[])
  fields := #[]
  methods := #[k13m0, k13m1]
  instanceTypes := #[]
  staticTypes := #[]
  resolved := Array.replicate 184 none
  statics := none }

def pool14 : Array CpInfo := pool [(1, .class_ 2), (0, u "java/lang/Appendable"), (0, .class_ 4), (0, u "java/lang/Object")] 9

/-- java/lang/Appendable -/
def k14 : Class := { plain "java/lang/Appendable" (some 0) with
  accessFlags := 1537
  interfaces := #[]
  cf := some (fileOf pool14 1 #[] #[] 1537 3 #[] #[])
  fields := #[]
  methods := #[]
  instanceTypes := #[]
  staticTypes := #[]
  resolved := Array.replicate 14 none
  statics := none }

def pool15 : Array CpInfo := pool [(1, .class_ 2), (0, u "java/lang/String"), (0, .methodref 4 5), (0, .class_ 6), (0, .nameAndType 7 8), (0, u "java/lang/Object"), (0, u "<init>"), (0, u "()V"), (1, .class_ 12), (1, u "java/lang/AbstractStringBuilder"), (0, u "EMPTYVALUE"), (0, u "[B"), (0, .fieldref 10 16), (0, .nameAndType 17 14), (0, u "value"), (0, .fieldref 1 19), (0, .nameAndType 20 21), (0, u "COMPACT_STRINGS"), (0, u "Z"), (0, .fieldref 10 23), (0, .nameAndType 24 25), (0, u "coder"), (0, u "B"), (6, .methodref 1 33), (0, .nameAndType 34 35), (0, u "length"), (0, u "()I"), (3, .integer 2147483647), (0, .methodref 1 41), (0, .nameAndType 24 42), (0, u "()B"), (2, u "append"), (0, u "(Ljava/lang/String;)Ljava/lang/AbstractStringBuilder;"), (1, .class_ 49), (0, u "java/lang/CharSequence"), (19, u "(Ljava/lang/String;)V"), (5, u "maybeLatin1"), (3, .fieldref 10 80), (0, .nameAndType 81 82), (0, u "count"), (0, u "I"), (2, u "isLatin1"), (0, u "()Z"), (13, .methodref 10 101), (0, .nameAndType 102 103), (0, u "ensureCapacityInternal"), (0, u "(I)V"), (0, .methodref 10 105), (0, .nameAndType 106 107), (0, u "newCapacity"), (0, u "(I)I"), (0, .methodref 109 110), (0, .class_ 111), (0, .nameAndType 112 113), (0, u "java/util/Arrays"), (0, u "copyOf"), (0, u "([BI)[B"), (0, .methodref 115 116), (0, .class_ 117), (0, .nameAndType 118 119), (0, u "jdk/internal/util/ArraysSupport"), (0, u "newLength"), (0, u "(III)I"), (88, .methodref 10 209), (0, .nameAndType 210 211), (0, u "putStringAt"), (0, u "(ILjava/lang/String;)V"), (5, u "inflateIfNeededFor"), (2, .nameAndType 221 222), (0, u "getBytes"), (0, u "([BIB)V"), (174, .methodref 10 398), (0, .nameAndType 217 69), (0, .methodref 1 220), (3, u "()[B"), (40, .class_ 445), (0, u "java/lang/Appendable"), (106, u "getValue")] 56

def k15m0 : Method := { name := "<init>", desc := "()V", sig := { parameters := [], returnType := none }, accessFlags := 0, code := none }
def k15c1 : Code := { maxStack := 2, maxLocals := 2, code := jdk_68_method_2_code, exceptionTable := #[], attributes := #[] }
def k15m1 : Method := { name := "<init>", desc := "(I)V", sig := { parameters := [.int], returnType := none }, accessFlags := 0, code := some k15c1 }
def k15c2 : Code := { maxStack := 1, maxLocals := 1, code := jdk_68_method_6_code, exceptionTable := #[], attributes := #[] }
def k15m2 : Method := { name := "length", desc := "()I", sig := { parameters := [], returnType := some .int }, accessFlags := 1, code := some k15c2 }
def k15c3 : Code := { maxStack := 4, maxLocals := 3, code := jdk_68_method_9_code, exceptionTable := #[], attributes := #[] }
def k15m3 : Method := { name := "ensureCapacityInternal", desc := "(I)V", sig := { parameters := [.int], returnType := none }, accessFlags := 2, code := some k15c3 }
def k15c4 : Code := { maxStack := 5, maxLocals := 6, code := jdk_68_method_10_code, exceptionTable := #[], attributes := #[] }
def k15m4 : Method := { name := "newCapacity", desc := "(I)I", sig := { parameters := [.int], returnType := some .int }, accessFlags := 2, code := some k15c4 }
def k15c5 : Code := { maxStack := 3, maxLocals := 3, code := jdk_68_method_22_code, exceptionTable := #[], attributes := #[] }
def k15m5 : Method := { name := "append", desc := "(Ljava/lang/String;)Ljava/lang/AbstractStringBuilder;", sig := { parameters := [(.object "java/lang/String")], returnType := some (.object "java/lang/AbstractStringBuilder") }, accessFlags := 1, code := some k15c5 }
def k15c6 : Code := { maxStack := 1, maxLocals := 1, code := jdk_68_method_64_code, exceptionTable := #[], attributes := #[] }
def k15m6 : Method := { name := "getValue", desc := "()[B", sig := { parameters := [], returnType := some (.array .byte) }, accessFlags := 16, code := some k15c6 }
def k15c7 : Code := { maxStack := 1, maxLocals := 1, code := jdk_68_method_68_code, exceptionTable := #[], attributes := #[] }
def k15m7 : Method := { name := "isLatin1", desc := "()Z", sig := { parameters := [], returnType := some .boolean }, accessFlags := 16, code := some k15c7 }
def k15c8 : Code := { maxStack := 2, maxLocals := 2, code := jdk_68_method_71_code, exceptionTable := #[], attributes := #[] }
def k15m8 : Method := { name := "inflateIfNeededFor", desc := "(Ljava/lang/String;)V", sig := { parameters := [(.object "java/lang/String")], returnType := none }, accessFlags := 2, code := some k15c8 }
def k15c9 : Code := { maxStack := 4, maxLocals := 3, code := jdk_68_method_73_code, exceptionTable := #[], attributes := #[] }
def k15m9 : Method := { name := "putStringAt", desc := "(ILjava/lang/String;)V", sig := { parameters := [.int, (.object "java/lang/String")], returnType := none }, accessFlags := 2, code := some k15c9 }
/-- java/lang/AbstractStringBuilder -/
def k15 : Class := { plain "java/lang/AbstractStringBuilder" (some 0) with
  accessFlags := 1056
  interfaces := #[14, 4]
  cf := some (fileOf pool15 10 #[] #[{ accessFlags := 0, nameIndex := 7, descriptorIndex := 8, attributes := #[] }, { accessFlags := 0, nameIndex := 7, descriptorIndex := 103, attributes := #[] }, { accessFlags := 1, nameIndex := 34, descriptorIndex := 35, attributes := #[] }, { accessFlags := 2, nameIndex := 102, descriptorIndex := 103, attributes := #[] }, { accessFlags := 2, nameIndex := 106, descriptorIndex := 107, attributes := #[] }, { accessFlags := 1, nameIndex := 45, descriptorIndex := 46, attributes := #[] }, { accessFlags := 16, nameIndex := 552, descriptorIndex := 403, attributes := #[] }, { accessFlags := 16, nameIndex := 85, descriptorIndex := 86, attributes := #[] }, { accessFlags := 2, nameIndex := 217, descriptorIndex := 69, attributes := #[] }, { accessFlags := 2, nameIndex := 210, descriptorIndex := 211, attributes := #[] }] 1056 4 #[444, 48] #[{ accessFlags := 0, nameIndex := 17, descriptorIndex := 14, attributes := #[] }, { accessFlags := 0, nameIndex := 24, descriptorIndex := 25, attributes := #[] }, { accessFlags := 0, nameIndex := 75, descriptorIndex := 21, attributes := #[] }, { accessFlags := 0, nameIndex := 81, descriptorIndex := 82, attributes := #[] }, { accessFlags := 26, nameIndex := 13, descriptorIndex := 14, attributes := #[] }])
  fields := #[{ name := "value", type := (.array .byte), accessFlags := 0, slot := 0, constantValue := 0 }, { name := "coder", type := .byte, accessFlags := 0, slot := 1, constantValue := 0 }, { name := "maybeLatin1", type := .boolean, accessFlags := 0, slot := 2, constantValue := 0 }, { name := "count", type := .int, accessFlags := 0, slot := 3, constantValue := 0 }, { name := "EMPTYVALUE", type := (.array .byte), accessFlags := 26, slot := 0, constantValue := 0 }]
  methods := #[k15m0, k15m1, k15m2, k15m3, k15m4, k15m5, k15m6, k15m7, k15m8, k15m9]
  instanceTypes := #[(.array .byte), .byte, .boolean, .int]
  staticTypes := #[(.array .byte)]
  resolved := Array.replicate 609 none
  statics := none }

def pool16 : Array CpInfo := pool [(1, .methodref 2 3), (0, .class_ 4), (0, .nameAndType 5 6), (0, u "java/lang/AbstractStringBuilder"), (0, u "<init>"), (0, u "(I)V"), (11, .class_ 20), (1, u "java/lang/String"), (3, .class_ 26), (1, u "java/lang/StringBuilder"), (0, u "append"), (0, u "(Ljava/lang/String;)Ljava/lang/StringBuilder;"), (0, .methodref 2 30), (0, .nameAndType 27 31), (0, u "(Ljava/lang/String;)Ljava/lang/AbstractStringBuilder;"), (105, .methodref 18 138), (0, .nameAndType 5 139), (0, u "(Ljava/lang/StringBuilder;)V"), (5, u "()V"), (10, u "()I"), (186, .methodref 2 344), (0, .nameAndType 345 156), (0, u "length"), (3, .class_ 350), (0, u "java/lang/Appendable"), (0, .class_ 352), (0, u "java/io/Serializable"), (0, .class_ 354), (0, u "java/lang/Comparable"), (0, .class_ 356), (0, u "java/lang/CharSequence"), (0, u "serialVersionUID"), (0, u "J"), (40, u "toString"), (0, u "()Ljava/lang/String;")] 21

def k16c0 : Code := { maxStack := 2, maxLocals := 1, code := jdk_67_method_1_code, exceptionTable := #[], attributes := #[] }
def k16m0 : Method := { name := "<init>", desc := "()V", sig := { parameters := [], returnType := none }, accessFlags := 1, code := some k16c0 }
def k16c1 : Code := { maxStack := 2, maxLocals := 2, code := jdk_67_method_7_code, exceptionTable := #[], attributes := #[] }
def k16m1 : Method := { name := "append", desc := "(Ljava/lang/String;)Ljava/lang/StringBuilder;", sig := { parameters := [(.object "java/lang/String")], returnType := some (.object "java/lang/StringBuilder") }, accessFlags := 1, code := some k16c1 }
def k16c2 : Code := { maxStack := 3, maxLocals := 1, code := jdk_67_method_42_code, exceptionTable := #[], attributes := #[] }
def k16m2 : Method := { name := "toString", desc := "()Ljava/lang/String;", sig := { parameters := [], returnType := some (.object "java/lang/String") }, accessFlags := 1, code := some k16c2 }
def k16c3 : Code := { maxStack := 1, maxLocals := 1, code := jdk_67_method_93_code, exceptionTable := #[], attributes := #[] }
def k16m3 : Method := { name := "length", desc := "()I", sig := { parameters := [], returnType := some .int }, accessFlags := 4161, code := some k16c3 }
/-- java/lang/StringBuilder -/
def k16 : Class := { plain "java/lang/StringBuilder" (some 15) with
  accessFlags := 49
  interfaces := #[14, 2, 3, 4]
  cf := some (fileOf pool16 24 #[] #[{ accessFlags := 1, nameIndex := 5, descriptorIndex := 145, attributes := #[] }, { accessFlags := 1, nameIndex := 27, descriptorIndex := 28, attributes := #[] }, { accessFlags := 1, nameIndex := 399, descriptorIndex := 400, attributes := #[] }, { accessFlags := 4161, nameIndex := 345, descriptorIndex := 156, attributes := #[] }] 49 2 #[349, 351, 353, 355] #[{ accessFlags := 24, nameIndex := 357, descriptorIndex := 358, attributes := #[] }])
  fields := #[{ name := "serialVersionUID", type := .long, accessFlags := 24, slot := 0, constantValue := 0 }]
  methods := #[k16m0, k16m1, k16m2, k16m3]
  instanceTypes := #[(.array .byte), .byte, .boolean, .int]
  staticTypes := #[.long]
  resolved := Array.replicate 422 none
  statics := none }

def pool17 : Array CpInfo := pool [(2, .class_ 4), (1, u "java/lang/Object"), (0, u "<init>"), (0, u "()V"), (1, .class_ 10), (1, u "java/lang/System"), (0, u "allowSecurityManager"), (0, u "I"), (16, u "cons"), (0, u "Ljava/io/Console;"), (77, .class_ 110), (1, u "java/lang/System$CallersHolder"), (43, u "initialErrStream"), (0, u "Ljava/io/PrintStream;"), (19, u "security"), (0, u "Ljava/lang/SecurityManager;"), (31, .class_ 209), (0, u "java/lang/System$1"), (7, u "props"), (0, u "Ljava/util/Properties;"), (2, u "lineSeparator"), (0, u "Ljava/lang/String;"), (96, .class_ 321), (1, u "java/lang/System$LoggerFinder"), (5, .class_ 328), (0, u "java/lang/System$Logger"), (67, u "err"), (2, u "out"), (91, u "notSupportedJnuEncoding"), (15, u "in"), (17, u "initialIn"), (0, u "Ljava/io/InputStream;"), (35, u "bootLayer"), (0, u "Ljava/lang/ModuleLayer;"), (99, .class_ 664), (0, u "java/lang/System$2"), (9, u "NEVER"), (2, u "MAYBE"), (49, u "arraycopy"), (0, u "(Ljava/lang/Object;ILjava/lang/Object;II)V"), (72, .class_ 802), (0, u "java/lang/System$Logger$Level")] 31

def k17m0 : Method := { name := "<init>", desc := "()V", sig := { parameters := [], returnType := none }, accessFlags := 2, code := none }
def k17m1 : Method := { name := "arraycopy", desc := "(Ljava/lang/Object;ILjava/lang/Object;II)V", sig := { parameters := [(.object "java/lang/Object"), .int, (.object "java/lang/Object"), .int, .int], returnType := none }, accessFlags := 265, code := none }
/-- java/lang/System -/
def k17 : Class := { plain "java/lang/System" (some 0) with
  accessFlags := 49
  interfaces := #[]
  cf := some (fileOf pool17 8 #[.nestMembers #[319, 327, 801, 108, 663, 208]] #[{ accessFlags := 2, nameIndex := 5, descriptorIndex := 6, attributes := #[] }, { accessFlags := 265, nameIndex := 727, descriptorIndex := 728, attributes := #[] }] 49 2 #[] #[{ accessFlags := 25, nameIndex := 507, descriptorIndex := 526, attributes := #[] }, { accessFlags := 25, nameIndex := 399, descriptorIndex := 155, attributes := #[] }, { accessFlags := 25, nameIndex := 396, descriptorIndex := 155, attributes := #[] }, { accessFlags := 10, nameIndex := 525, descriptorIndex := 526, attributes := #[] }, { accessFlags := 26, nameIndex := 674, descriptorIndex := 12, attributes := #[] }, { accessFlags := 26, nameIndex := 677, descriptorIndex := 12, attributes := #[] }, { accessFlags := 10, nameIndex := 11, descriptorIndex := 12, attributes := #[] }, { accessFlags := 74, nameIndex := 175, descriptorIndex := 176, attributes := #[] }, { accessFlags := 10, nameIndex := 491, descriptorIndex := 222, attributes := #[] }, { accessFlags := 74, nameIndex := 29, descriptorIndex := 30, attributes := #[] }, { accessFlags := 74, nameIndex := 154, descriptorIndex := 155, attributes := #[] }, { accessFlags := 10, nameIndex := 217, descriptorIndex := 218, attributes := #[] }, { accessFlags := 10, nameIndex := 221, descriptorIndex := 222, attributes := #[] }, { accessFlags := 8, nameIndex := 562, descriptorIndex := 563, attributes := #[] }])
  fields := #[{ name := "in", type := (.object "java/io/InputStream"), accessFlags := 25, slot := 0, constantValue := 0 }, { name := "out", type := (.object "java/io/PrintStream"), accessFlags := 25, slot := 1, constantValue := 0 }, { name := "err", type := (.object "java/io/PrintStream"), accessFlags := 25, slot := 2, constantValue := 0 }, { name := "initialIn", type := (.object "java/io/InputStream"), accessFlags := 10, slot := 3, constantValue := 0 }, { name := "NEVER", type := .int, accessFlags := 26, slot := 4, constantValue := 0 }, { name := "MAYBE", type := .int, accessFlags := 26, slot := 5, constantValue := 0 }, { name := "allowSecurityManager", type := .int, accessFlags := 10, slot := 6, constantValue := 0 }, { name := "security", type := (.object "java/lang/SecurityManager"), accessFlags := 74, slot := 7, constantValue := 0 }, { name := "notSupportedJnuEncoding", type := (.object "java/lang/String"), accessFlags := 10, slot := 8, constantValue := 0 }, { name := "cons", type := (.object "java/io/Console"), accessFlags := 74, slot := 9, constantValue := 0 }, { name := "initialErrStream", type := (.object "java/io/PrintStream"), accessFlags := 74, slot := 10, constantValue := 0 }, { name := "props", type := (.object "java/util/Properties"), accessFlags := 10, slot := 11, constantValue := 0 }, { name := "lineSeparator", type := (.object "java/lang/String"), accessFlags := 10, slot := 12, constantValue := 0 }, { name := "bootLayer", type := (.object "java/lang/ModuleLayer"), accessFlags := 8, slot := 13, constantValue := 0 }]
  methods := #[k17m0, k17m1]
  instanceTypes := #[]
  staticTypes := #[(.object "java/io/InputStream"), (.object "java/io/PrintStream"), (.object "java/io/PrintStream"), (.object "java/io/InputStream"), .int, .int, .int, (.object "java/lang/SecurityManager"), (.object "java/lang/String"), (.object "java/io/Console"), (.object "java/io/PrintStream"), (.object "java/util/Properties"), (.object "java/lang/String"), (.object "java/lang/ModuleLayer")]
  resolved := Array.replicate 834 none
  statics := none }

def pool18 : Array CpInfo := pool [(9, u "<init>"), (6, .class_ 18), (1, u "java/lang/Object"), (0, u "()V"), (1, .class_ 23), (1, u "jdk/internal/util/ArraysSupport"), (0, u "LOG2_ARRAY_LONG_INDEX_SCALE"), (0, u "I"), (2, u "U"), (0, u "Ljdk/internal/misc/Unsafe;"), (8, u "BIG_ENDIAN"), (0, u "Z"), (8, u "LOG2_BYTE_BIT_SIZE"), (4, u "LOG2_ARRAY_INT_INDEX_SCALE"), (54, u "JLA"), (0, u "Ljdk/internal/access/JavaLangAccess;"), (11, u "LOG2_ARRAY_BOOLEAN_INDEX_SCALE"), (9, u "LOG2_ARRAY_BYTE_INDEX_SCALE"), (5, u "LOG2_ARRAY_CHAR_INDEX_SCALE"), (5, u "LOG2_ARRAY_SHORT_INDEX_SCALE"), (18, u "LOG2_ARRAY_FLOAT_INDEX_SCALE"), (24, u "LOG2_ARRAY_DOUBLE_INDEX_SCALE"), (6, .methodref 195 196), (0, .class_ 197), (0, .nameAndType 198 199), (0, u "java/lang/Math"), (0, u "max"), (0, u "(II)I"), (0, .integer 2147483639), (76, u "T_BOOLEAN"), (2, u "T_CHAR"), (1, u "T_FLOAT"), (1, u "T_DOUBLE"), (1, u "T_BYTE"), (1, u "T_SHORT"), (1, u "T_INT"), (1, u "T_LONG"), (1, u "SOFT_MAX_ARRAY_LENGTH"), (56, u "newLength"), (0, u "(III)I")] 25

def k18m0 : Method := { name := "<init>", desc := "()V", sig := { parameters := [], returnType := none }, accessFlags := 2, code := none }
def k18c1 : Code := { maxStack := 3, maxLocals := 4, code := jdk_48_method_27_code, exceptionTable := #[], attributes := #[] }
def k18m1 : Method := { name := "newLength", desc := "(III)I", sig := { parameters := [.int, .int, .int], returnType := some .int }, accessFlags := 9, code := some k18c1 }
/-- jdk/internal/util/ArraysSupport -/
def k18 : Class := { plain "jdk/internal/util/ArraysSupport" (some 0) with
  accessFlags := 33
  interfaces := #[]
  cf := some (fileOf pool18 21 #[] #[{ accessFlags := 2, nameIndex := 9, descriptorIndex := 19, attributes := #[] }, { accessFlags := 9, nameIndex := 351, descriptorIndex := 352, attributes := #[] }] 33 16 #[] #[{ accessFlags := 24, nameIndex := 28, descriptorIndex := 29, attributes := #[] }, { accessFlags := 26, nameIndex := 38, descriptorIndex := 39, attributes := #[] }, { accessFlags := 25, nameIndex := 121, descriptorIndex := 25, attributes := #[] }, { accessFlags := 25, nameIndex := 131, descriptorIndex := 25, attributes := #[] }, { accessFlags := 25, nameIndex := 137, descriptorIndex := 25, attributes := #[] }, { accessFlags := 25, nameIndex := 143, descriptorIndex := 25, attributes := #[] }, { accessFlags := 25, nameIndex := 53, descriptorIndex := 25, attributes := #[] }, { accessFlags := 25, nameIndex := 24, descriptorIndex := 25, attributes := #[] }, { accessFlags := 25, nameIndex := 162, descriptorIndex := 25, attributes := #[] }, { accessFlags := 25, nameIndex := 187, descriptorIndex := 25, attributes := #[] }, { accessFlags := 26, nameIndex := 48, descriptorIndex := 25, attributes := #[] }, { accessFlags := 25, nameIndex := 277, descriptorIndex := 25, attributes := #[] }, { accessFlags := 25, nameIndex := 280, descriptorIndex := 25, attributes := #[] }, { accessFlags := 25, nameIndex := 282, descriptorIndex := 25, attributes := #[] }, { accessFlags := 25, nameIndex := 284, descriptorIndex := 25, attributes := #[] }, { accessFlags := 25, nameIndex := 286, descriptorIndex := 25, attributes := #[] }, { accessFlags := 25, nameIndex := 288, descriptorIndex := 25, attributes := #[] }, { accessFlags := 25, nameIndex := 290, descriptorIndex := 25, attributes := #[] }, { accessFlags := 25, nameIndex := 292, descriptorIndex := 25, attributes := #[] }, { accessFlags := 26, nameIndex := 108, descriptorIndex := 109, attributes := #[] }, { accessFlags := 25, nameIndex := 294, descriptorIndex := 25, attributes := #[] }])
  fields := #[{ name := "U", type := (.object "jdk/internal/misc/Unsafe"), accessFlags := 24, slot := 0, constantValue := 0 }, { name := "BIG_ENDIAN", type := .boolean, accessFlags := 26, slot := 1, constantValue := 0 }, { name := "LOG2_ARRAY_BOOLEAN_INDEX_SCALE", type := .int, accessFlags := 25, slot := 2, constantValue := 0 }, { name := "LOG2_ARRAY_BYTE_INDEX_SCALE", type := .int, accessFlags := 25, slot := 3, constantValue := 0 }, { name := "LOG2_ARRAY_CHAR_INDEX_SCALE", type := .int, accessFlags := 25, slot := 4, constantValue := 0 }, { name := "LOG2_ARRAY_SHORT_INDEX_SCALE", type := .int, accessFlags := 25, slot := 5, constantValue := 0 }, { name := "LOG2_ARRAY_INT_INDEX_SCALE", type := .int, accessFlags := 25, slot := 6, constantValue := 0 }, { name := "LOG2_ARRAY_LONG_INDEX_SCALE", type := .int, accessFlags := 25, slot := 7, constantValue := 0 }, { name := "LOG2_ARRAY_FLOAT_INDEX_SCALE", type := .int, accessFlags := 25, slot := 8, constantValue := 0 }, { name := "LOG2_ARRAY_DOUBLE_INDEX_SCALE", type := .int, accessFlags := 25, slot := 9, constantValue := 0 }, { name := "LOG2_BYTE_BIT_SIZE", type := .int, accessFlags := 26, slot := 10, constantValue := 0 }, { name := "T_BOOLEAN", type := .int, accessFlags := 25, slot := 11, constantValue := 0 }, { name := "T_CHAR", type := .int, accessFlags := 25, slot := 12, constantValue := 0 }, { name := "T_FLOAT", type := .int, accessFlags := 25, slot := 13, constantValue := 0 }, { name := "T_DOUBLE", type := .int, accessFlags := 25, slot := 14, constantValue := 0 }, { name := "T_BYTE", type := .int, accessFlags := 25, slot := 15, constantValue := 0 }, { name := "T_SHORT", type := .int, accessFlags := 25, slot := 16, constantValue := 0 }, { name := "T_INT", type := .int, accessFlags := 25, slot := 17, constantValue := 0 }, { name := "T_LONG", type := .int, accessFlags := 25, slot := 18, constantValue := 0 }, { name := "JLA", type := (.object "jdk/internal/access/JavaLangAccess"), accessFlags := 26, slot := 19, constantValue := 0 }, { name := "SOFT_MAX_ARRAY_LENGTH", type := .int, accessFlags := 25, slot := 20, constantValue := 0 }]
  methods := #[k18m0, k18m1]
  instanceTypes := #[]
  staticTypes := #[(.object "jdk/internal/misc/Unsafe"), .boolean, .int, .int, .int, .int, .int, .int, .int, .int, .int, .int, .int, .int, .int, .int, .int, .int, .int, (.object "jdk/internal/access/JavaLangAccess"), .int]
  resolved := Array.replicate 378 none
  statics := none }

def pool19 : Array CpInfo := pool [(1, .class_ 2), (0, u "java/lang/Math"), (1, .class_ 6), (1, u "java/lang/Object"), (0, u "<init>"), (0, u "()V"), (89, .class_ 100), (1, u "java/lang/Math$RandomNumberGeneratorHolder"), (71, u "negativeZeroFloatBits"), (0, u "J"), (2, u "negativeZeroDoubleBits"), (21, u "max"), (2, u "min"), (43, u "$assertionsDisabled"), (0, u "Z"), (88, u "(II)I"), (2, u "twoToTheDoubleScaleDown"), (0, u "D"), (4, u "twoToTheDoubleScaleUp"), (9, u "E"), (3, u "PI"), (2, u "TAU"), (2, u "DEGREES_TO_RADIANS"), (0, u "RADIANS_TO_DEGREES")] 94

def k19m0 : Method := { name := "<init>", desc := "()V", sig := { parameters := [], returnType := none }, accessFlags := 2, code := none }
def k19c1 : Code := { maxStack := 2, maxLocals := 2, code := jdk_29_method_65_code, exceptionTable := #[], attributes := #[] }
def k19m1 : Method := { name := "max", desc := "(II)I", sig := { parameters := [.int, .int], returnType := some .int }, accessFlags := 9, code := some k19c1 }
def k19c2 : Code := { maxStack := 2, maxLocals := 2, code := jdk_29_method_69_code, exceptionTable := #[], attributes := #[] }
def k19m2 : Method := { name := "min", desc := "(II)I", sig := { parameters := [.int, .int], returnType := some .int }, accessFlags := 9, code := some k19c2 }
/-- java/lang/Math -/
def k19 : Class := { plain "java/lang/Math" (some 0) with
  accessFlags := 49
  interfaces := #[]
  cf := some (fileOf pool19 1 #[.nestMembers #[98]] #[{ accessFlags := 2, nameIndex := 7, descriptorIndex := 8, attributes := #[] }, { accessFlags := 9, nameIndex := 198, descriptorIndex := 335, attributes := #[] }, { accessFlags := 9, nameIndex := 201, descriptorIndex := 335, attributes := #[] }] 49 4 #[] #[{ accessFlags := 25, nameIndex := 354, descriptorIndex := 339, attributes := #[] }, { accessFlags := 25, nameIndex := 358, descriptorIndex := 339, attributes := #[] }, { accessFlags := 25, nameIndex := 361, descriptorIndex := 339, attributes := #[] }, { accessFlags := 26, nameIndex := 364, descriptorIndex := 339, attributes := #[] }, { accessFlags := 26, nameIndex := 365, descriptorIndex := 339, attributes := #[] }, { accessFlags := 26, nameIndex := 172, descriptorIndex := 173, attributes := #[] }, { accessFlags := 26, nameIndex := 176, descriptorIndex := 173, attributes := #[] }, { accessFlags := 8, nameIndex := 344, descriptorIndex := 339, attributes := #[] }, { accessFlags := 8, nameIndex := 338, descriptorIndex := 339, attributes := #[] }, { accessFlags := 4120, nameIndex := 245, descriptorIndex := 246, attributes := #[] }])
  fields := #[{ name := "E", type := .double, accessFlags := 25, slot := 0, constantValue := 0 }, { name := "PI", type := .double, accessFlags := 25, slot := 1, constantValue := 0 }, { name := "TAU", type := .double, accessFlags := 25, slot := 2, constantValue := 0 }, { name := "DEGREES_TO_RADIANS", type := .double, accessFlags := 26, slot := 3, constantValue := 0 }, { name := "RADIANS_TO_DEGREES", type := .double, accessFlags := 26, slot := 4, constantValue := 0 }, { name := "negativeZeroFloatBits", type := .long, accessFlags := 26, slot := 5, constantValue := 0 }, { name := "negativeZeroDoubleBits", type := .long, accessFlags := 26, slot := 6, constantValue := 0 }, { name := "twoToTheDoubleScaleUp", type := .double, accessFlags := 8, slot := 7, constantValue := 0 }, { name := "twoToTheDoubleScaleDown", type := .double, accessFlags := 8, slot := 8, constantValue := 0 }, { name := "$assertionsDisabled", type := .boolean, accessFlags := 4120, slot := 9, constantValue := 0 }]
  methods := #[k19m0, k19m1, k19m2]
  instanceTypes := #[]
  staticTypes := #[.double, .double, .double, .double, .double, .long, .long, .double, .double, .boolean]
  resolved := Array.replicate 460 none
  statics := none }

def pool20 : Array CpInfo := pool [(2, .class_ 4), (1, u "java/lang/Object"), (0, u "<init>"), (0, u "()V"), (7, .class_ 16), (1, u "java/util/Arrays"), (57, .class_ 76), (1, u "java/util/Arrays$NaturalOrder"), (32, u "()Ljava/lang/Object;"), (3, .class_ 115), (1, u "java/util/Arrays$LegacyMergeSort"), (1, u "Z"), (10, .nameAndType 129 109), (0, u "clone"), (9, u "copyOfRange"), (10, .methodref 151 152), (0, .class_ 153), (0, .nameAndType 154 155), (0, u "java/lang/System"), (0, u "arraycopy"), (0, u "(Ljava/lang/Object;ILjava/lang/Object;II)V"), (146, u "copyOf"), (1, .methodref 305 306), (0, .class_ 307), (0, .nameAndType 308 309), (0, u "java/lang/Math"), (0, u "min"), (0, u "(II)I"), (0, .methodref 311 128), (0, .class_ 312), (0, u "[B"), (26, .methodref 14 340), (0, .nameAndType 341 342), (0, u "copyOfRangeByte"), (0, u "([BII)[B"), (0, .methodref 14 344), (0, .nameAndType 345 346), (0, u "checkLength"), (0, u "(II)V"), (28, .class_ 376), (0, u "java/util/Arrays$ArrayList"), (68, u "$assertionsDisabled"), (269, u "MIN_ARRAY_SORT_GRAN"), (0, u "I"), (2, u "INSERTIONSORT_THRESHOLD"), (149, u "([BI)[B"), (105, .class_ 976), (0, u "java/util/Arrays$ArrayItr")] 52

def k20m0 : Method := { name := "<init>", desc := "()V", sig := { parameters := [], returnType := none }, accessFlags := 2, code := none }
def k20c1 : Code := { maxStack := 6, maxLocals := 3, code := jdk_65_method_121_code, exceptionTable := #[], attributes := #[] }
def k20m1 : Method := { name := "copyOf", desc := "([BI)[B", sig := { parameters := [(.array .byte), .int], returnType := some (.array .byte) }, accessFlags := 9, code := some k20c1 }
def k20c2 : Code := { maxStack := 4, maxLocals := 2, code := jdk_65_method_131_code, exceptionTable := #[], attributes := #[] }
def k20m2 : Method := { name := "checkLength", desc := "(II)V", sig := { parameters := [.int, .int], returnType := none }, accessFlags := 10, code := some k20c2 }
def k20c3 : Code := { maxStack := 3, maxLocals := 3, code := jdk_65_method_132_code, exceptionTable := #[], attributes := #[] }
def k20m3 : Method := { name := "copyOfRange", desc := "([BII)[B", sig := { parameters := [(.array .byte), .int, .int], returnType := some (.array .byte) }, accessFlags := 9, code := some k20c3 }
def k20c4 : Code := { maxStack := 6, maxLocals := 5, code := jdk_65_method_133_code, exceptionTable := #[], attributes := #[] }
def k20m4 : Method := { name := "copyOfRangeByte", desc := "([BII)[B", sig := { parameters := [(.array .byte), .int, .int], returnType := some (.array .byte) }, accessFlags := 10, code := some k20c4 }
/-- java/util/Arrays -/
def k20 : Class := { plain "java/util/Arrays" (some 0) with
  accessFlags := 49
  interfaces := #[]
  cf := some (fileOf pool20 14 #[.nestMembers #[975, 375, 113, 74]] #[{ accessFlags := 2, nameIndex := 5, descriptorIndex := 6, attributes := #[] }, { accessFlags := 9, nameIndex := 302, descriptorIndex := 869, attributes := #[] }, { accessFlags := 10, nameIndex := 345, descriptorIndex := 346, attributes := #[] }, { accessFlags := 9, nameIndex := 139, descriptorIndex := 342, attributes := #[] }, { accessFlags := 10, nameIndex := 341, descriptorIndex := 342, attributes := #[] }] 49 2 #[] #[{ accessFlags := 26, nameIndex := 715, descriptorIndex := 716, attributes := #[] }, { accessFlags := 26, nameIndex := 719, descriptorIndex := 716, attributes := #[] }, { accessFlags := 4120, nameIndex := 445, descriptorIndex := 117, attributes := #[] }])
  fields := #[{ name := "MIN_ARRAY_SORT_GRAN", type := .int, accessFlags := 26, slot := 0, constantValue := 0 }, { name := "INSERTIONSORT_THRESHOLD", type := .int, accessFlags := 26, slot := 1, constantValue := 0 }, { name := "$assertionsDisabled", type := .boolean, accessFlags := 4120, slot := 2, constantValue := 0 }]
  methods := #[k20m0, k20m1, k20m2, k20m3, k20m4]
  instanceTypes := #[]
  staticTypes := #[.int, .int, .boolean]
  resolved := Array.replicate 1029 none
  statics := none }

def pool21 : Array CpInfo := pool [(6, .class_ 8), (1, u "java/lang/Object"), (0, u "<init>"), (0, u "()V"), (1, .class_ 14), (1, u "java/lang/StringUTF16"), (31, u "$assertionsDisabled"), (0, u "Z"), (13, u "HI_BYTE_SHIFT"), (0, u "I"), (2, u "LO_BYTE_SHIFT"), (49, .methodref 12 116), (0, .nameAndType 117 118), (0, u "compress"), (0, u "([CI[BII)I"), (3, u "([CII)[B"), (138, u "coderFromArrayLen"), (0, u "([BI)B"), (106, .class_ 371), (1, u "java/lang/StringUTF16$LinesSpliterator"), (58, u "MAX_LENGTH"), (196, .class_ 628), (0, u "java/lang/StringUTF16$CodePointsSpliterator"), (0, .class_ 630), (0, u "java/lang/StringUTF16$CharsSpliterator")] 4

def k21m0 : Method := { name := "<init>", desc := "()V", sig := { parameters := [], returnType := none }, accessFlags := 0, code := none }
def k21c1 : Code := { maxStack := 2, maxLocals := 2, code := jdk_52_method_15_code, exceptionTable := #[], attributes := #[] }
def k21m1 : Method := { name := "coderFromArrayLen", desc := "([BI)B", sig := { parameters := [(.array .byte), .int], returnType := some .byte }, accessFlags := 8, code := some k21c1 }
def k21c2 : Code := { maxStack := 5, maxLocals := 6, code := jdk_52_method_16_code, exceptionTable := #[], attributes := #[] }
def k21m2 : Method := { name := "compress", desc := "([CII)[B", sig := { parameters := [(.array .char), .int, .int], returnType := some (.array .byte) }, accessFlags := 9, code := some k21c2 }
def k21c3 : Code := { maxStack := 3, maxLocals := 7, code := jdk_52_method_21_code, exceptionTable := #[], attributes := #[] }
def k21m3 : Method := { name := "compress", desc := "([CI[BII)I", sig := { parameters := [(.array .char), .int, (.array .byte), .int, .int], returnType := some .int }, accessFlags := 9, code := some k21c3 }
/-- java/lang/StringUTF16 -/
def k21 : Class := { plain "java/lang/StringUTF16" (some 0) with
  accessFlags := 48
  interfaces := #[]
  cf := some (fileOf pool21 12 #[.nestMembers #[627, 629, 369]] #[{ accessFlags := 0, nameIndex := 9, descriptorIndex := 10, attributes := #[] }, { accessFlags := 8, nameIndex := 261, descriptorIndex := 262, attributes := #[] }, { accessFlags := 9, nameIndex := 117, descriptorIndex := 122, attributes := #[] }, { accessFlags := 9, nameIndex := 117, descriptorIndex := 118, attributes := #[] }] 48 6 #[] #[{ accessFlags := 26, nameIndex := 61, descriptorIndex := 62, attributes := #[] }, { accessFlags := 26, nameIndex := 65, descriptorIndex := 62, attributes := #[] }, { accessFlags := 24, nameIndex := 430, descriptorIndex := 62, attributes := #[] }, { accessFlags := 4120, nameIndex := 46, descriptorIndex := 47, attributes := #[] }])
  fields := #[{ name := "HI_BYTE_SHIFT", type := .int, accessFlags := 26, slot := 0, constantValue := 0 }, { name := "LO_BYTE_SHIFT", type := .int, accessFlags := 26, slot := 1, constantValue := 0 }, { name := "MAX_LENGTH", type := .int, accessFlags := 24, slot := 2, constantValue := 0 }, { name := "$assertionsDisabled", type := .boolean, accessFlags := 4120, slot := 3, constantValue := 0 }]
  methods := #[k21m0, k21m1, k21m2, k21m3]
  instanceTypes := #[]
  staticTypes := #[.int, .int, .int, .boolean]
  resolved := Array.replicate 635 none
  statics := none }

def pool22 : Array CpInfo := pool [(1, .class_ 2), (0, u "java/lang/Cloneable"), (0, .class_ 4), (0, u "java/lang/Object")] 2

/-- java/lang/Cloneable -/
def k22 : Class := { plain "java/lang/Cloneable" (some 0) with
  accessFlags := 1537
  interfaces := #[]
  cf := some (fileOf pool22 1 #[] #[] 1537 3 #[] #[])
  fields := #[]
  methods := #[]
  instanceTypes := #[]
  staticTypes := #[]
  resolved := Array.replicate 7 none
  statics := none }

def pool23 : Array CpInfo := pool [(2, .class_ 4), (1, u "java/lang/Object"), (0, u "<init>"), (0, u "()V"), (17, .class_ 26), (1, u "jdk/internal/util/Preconditions"), (28, .class_ 56), (0, u "jdk/internal/util/Preconditions$4"), (57, .class_ 115), (0, u "jdk/internal/util/Preconditions$1"), (7, u "SIOOBE_FORMATTER"), (0, u "Ljava/util/function/BiFunction;"), (0, .class_ 126), (0, u "jdk/internal/util/Preconditions$2"), (3, u "AIOOBE_FORMATTER"), (0, .class_ 132), (0, u "jdk/internal/util/Preconditions$3"), (3, u "IOOBE_FORMATTER")] 57

def k23m0 : Method := { name := "<init>", desc := "()V", sig := { parameters := [], returnType := none }, accessFlags := 1, code := none }
/-- jdk/internal/util/Preconditions -/
def k23 : Class := { plain "jdk/internal/util/Preconditions" (some 0) with
  accessFlags := 33
  interfaces := #[]
  cf := some (fileOf pool23 24 #[.nestMembers #[55, 131, 125, 114]] #[{ accessFlags := 1, nameIndex := 5, descriptorIndex := 6, attributes := #[] }] 33 2 #[] #[{ accessFlags := 25, nameIndex := 123, descriptorIndex := 124, attributes := #[] }, { accessFlags := 25, nameIndex := 130, descriptorIndex := 124, attributes := #[] }, { accessFlags := 25, nameIndex := 136, descriptorIndex := 124, attributes := #[] }])
  fields := #[{ name := "SIOOBE_FORMATTER", type := (.object "java/util/function/BiFunction"), accessFlags := 25, slot := 0, constantValue := 0 }, { name := "AIOOBE_FORMATTER", type := (.object "java/util/function/BiFunction"), accessFlags := 25, slot := 1, constantValue := 0 }, { name := "IOOBE_FORMATTER", type := (.object "java/util/function/BiFunction"), accessFlags := 25, slot := 2, constantValue := 0 }]
  methods := #[k23m0]
  instanceTypes := #[]
  staticTypes := #[(.object "java/util/function/BiFunction"), (.object "java/util/function/BiFunction"), (.object "java/util/function/BiFunction")]
  resolved := Array.replicate 194 none
  statics := some 2 }

/-- the primitive byte -/
def k24 : Class := { plain "byte" none with kind := .primitive 'B', accessFlags := 0x411 }
/-- [B -/
def k25 : Class := { plain "[B" (some 0) with kind := .array 24 .byte, interfaces := #[22, 2], accessFlags := 1041 }

/-- the primitive char -/
def k26 : Class := { plain "char" none with kind := .primitive 'C', accessFlags := 0x411 }
/-- [C -/
def k27 : Class := { plain "[C" (some 0) with kind := .array 26 .char, interfaces := #[22, 2], accessFlags := 1041 }

/-- the primitive int -/
def k28 : Class := { plain "int" none with kind := .primitive 'I', accessFlags := 0x411 }
/-- [I -/
def k29 : Class := { plain "[I" (some 0) with kind := .array 28 .int, interfaces := #[22, 2], accessFlags := 1041 }

def heap : Heap := #[{ cls := 7, slots := #[.long 0, .int 1, .null, .int 0, .null, .int 0, .int 0], vm := .statics 7 },
  { cls := 10, slots := #[.ref 3, .ref 4, .ref 5, .null], vm := .statics 10 },
  { cls := 23, slots := #[.null, .null, .null], vm := .statics 23 },
  { cls := 10, slots := #[.null, .int 0, .int 0], vm := .none },
  { cls := 10, slots := #[.null, .int 1, .int 0], vm := .none },
  { cls := 10, slots := #[.null, .int 2, .int 0], vm := .none }]
def classes : Array Class := #[k0, k1, k2, k3, k4, k5, k6, k7, k8, k9, k10, k11, k12, k13, k14, k15, k16, k17, k18, k19, k20, k21, k22, k23, k24, k25, k26, k27, k28, k29]
def interned : List (Array UInt16 × Addr) := []
def slotsUsed : Nat := 23
def theMethod : MethodId := ⟨1, 1⟩
def args0 : Array Value := #[.int 6, .int 7, .int 8, .int 1]
def aboutOver (below : List Frame) : State where
  vm := { classes := classes, interned := interned.toArray }
  heap := heap
  slotsUsed := slotsUsed
  threads := #[{ frames := .invoking theMethod args0 :: below }]
def below0 : List Frame := [.native { method := ⟨0, 0⟩, args := #[] }]
def about1 : State := aboutOver below0
def p0 : Program := .bare "" "" ""
def e0 : Env := launch0.env 0 0 0
theorem w_frames : about1.frames = Frame.invoking theMethod args0 :: below0 := rfl
theorem w_args : argsFit about1.vm theMethod args0 = true := by decide +kernel
theorem w_heap : heapFits about1 = true := by decide +kernel
theorem w_runnable : about1.curStatus? = some .runnable := by decide +kernel
theorem w_alone : about1.alone = true := by decide +kernel
theorem w_named : about1.methodNamed? x = some theMethod := by decide +kernel
theorem w_hears : about1.hears theMethod below0 = true := by decide +kernel
theorem w_ripe : about1.ripe theMethod args0 below0 = true := by decide +kernel
theorem w_running : about1.status = .running := rfl
theorem w_room : about1.hasRoom e0.platform room_1 = true :=
  launch0.hasRoom_least _ room_1 (by decide +kernel) (by decide +kernel) (by decide +kernel) (by decide +kernel) (by decide +kernel) (by decide +kernel)
theorem allAtoms_all (ts : List Jvm.Cond) (a : Array Jvm.Value) (st : Jvm.State) : (allAtoms ts).before a st = ts.all (fun c => c.before a st) := by
  induction ts with
  | nil => rfl
  | cons c t ih =>
    show (Jvm.Cond.and c (allAtoms t)).before a st = _
    rw [Jvm.Cond.before_and, ih, List.all_cons]
def words1 : List Jvm.Cond := Jvm.Cond.code x code maxLocals ret :: tables_1
/-- a 'code' word, met by the world's own term for the bytes: nothing is compared byte by byte -/
theorem code_word {y : MethodName} {bytes : ByteArray} {mx : Nat} {rt : Option FieldType} {a : Array Value} {s : State} {m : MethodId} {meth : Method} {c : Code} (h1 : s.methodNamed? y = some m) (h2 : s.vm.method? m = some meth) (h3 : meth.code = some c) (h4 : c.code = bytes)
    (h5 : (c.maxLocals == mx && c.exceptionTable.isEmpty && decide (c.maxStack ≤ mostOperands) && decide (meth.sig.returnType = rt) && !meth.locks && decide (parseMethodDescriptor y.desc = some meth.sig)) = true) : (Jvm.Cond.code y bytes mx rt).before a s = true := by
  simp only [Bool.and_eq_true, beq_iff_eq, Bool.not_eq_true', decide_eq_true_eq] at h5
  obtain ⟨⟨⟨⟨⟨g1, g2⟩, g3⟩, g4⟩, g5⟩, g6⟩ := h5
  simp [Cond.before, Cond.holds, Cond.value, h1, h2, h3, h4, g1, g2, g3, g4, g5, g6]
def isCode : Jvm.Cond → Bool
  | .code _ _ _ _ => true
  | _ => false
theorem all_split {L : List Jvm.Cond} {P : Jvm.Cond → Bool} (h1 : L.all (fun c => isCode c || P c) = true) (h2 : ∀ c ∈ L.filter isCode, P c = true) : L.all P = true := by
  refine List.all_eq_true.mpr fun c hc => ?_
  have h := List.all_eq_true.mp h1 c hc
  rcases Bool.eq_false_or_eq_true (isCode c) with hi | hi
  · exact h2 c (List.mem_filter.mpr ⟨hc, hi⟩)
  · simpa [hi] using h
theorem w_c0 : (Jvm.Cond.code x code maxLocals ret).before args0 about1 = true := code_word (m := ⟨1, 1⟩) (meth := k1m1) (c := k1c1) (by decide +kernel) rfl rfl rfl (by decide +kernel)
theorem w_c1 : (Jvm.Cond.code ⟨"java/lang/String", "valueOf", "(C)Ljava/lang/String;"⟩ jdk_42_method_139_code (1 : Nat) (Option.some (Jvm.ClassFile.FieldType.object "java/lang/String"))).before args0 about1 = true := code_word (m := ⟨7, 5⟩) (meth := k7m5) (c := k7c5) (by decide +kernel) rfl rfl rfl (by decide +kernel)
theorem w_c2 : (Jvm.Cond.code ⟨"java/lang/StringLatin1", "canEncode", "(C)Z"⟩ jdk_43_method_3_code (1 : Nat) (Option.some Jvm.ClassFile.FieldType.boolean)).before args0 about1 = true := code_word (m := ⟨8, 1⟩) (meth := k8m1) (c := k8c1) (by decide +kernel) rfl rfl rfl (by decide +kernel)
theorem w_c3 : (Jvm.Cond.code ⟨"java/lang/StringLatin1", "toBytes", "(C)[B"⟩ jdk_43_method_46_code (1 : Nat) (Option.some (Jvm.ClassFile.FieldType.array Jvm.ClassFile.FieldType.byte))).before args0 about1 = true := code_word (m := ⟨8, 3⟩) (meth := k8m3) (c := k8c3) (by decide +kernel) rfl rfl rfl (by decide +kernel)
theorem w_c4 : (Jvm.Cond.code ⟨"java/lang/String", "<init>", "([BB)V"⟩ jdk_42_method_151_code (3 : Nat) (Option.none : Option Jvm.ClassFile.FieldType)).before args0 about1 = true := code_word (m := ⟨7, 9⟩) (meth := k7m9) (c := k7c9) (by decide +kernel) rfl rfl rfl (by decide +kernel)
theorem w_c5 : (Jvm.Cond.code ⟨"java/lang/Object", "<init>", "()V"⟩ object_method_1_code (1 : Nat) (Option.none : Option Jvm.ClassFile.FieldType)).before args0 about1 = true := code_word (m := ⟨0, 0⟩) (meth := k0m0) (c := k0c0) (by decide +kernel) rfl rfl rfl (by decide +kernel)
theorem w_c6 : (Jvm.Cond.code ⟨"com/example/formboard/formboard/core/Board$Live", "<init>", "(Lcom/example/formboard/formboard/core/Board$Part;Ljava/lang/String;Ljava/lang/String;)V"⟩ prog_16_method_1_code (4 : Nat) (Option.none : Option Jvm.ClassFile.FieldType)).before args0 about1 = true := code_word (m := ⟨12, 0⟩) (meth := k12m0) (c := k12c0) (by decide +kernel) rfl rfl rfl (by decide +kernel)
theorem w_c7 : (Jvm.Cond.code ⟨"java/lang/Record", "<init>", "()V"⟩ jdk_30_method_1_code (1 : Nat) (Option.none : Option Jvm.ClassFile.FieldType)).before args0 about1 = true := code_word (m := ⟨11, 0⟩) (meth := k11m0) (c := k11c0) (by decide +kernel) rfl rfl rfl (by decide +kernel)
theorem w_c8 : (Jvm.Cond.code ⟨"java/util/Objects", "requireNonNull", "(Ljava/lang/Object;Ljava/lang/String;)Ljava/lang/Object;"⟩ jdk_31_method_11_code (2 : Nat) (Option.some (Jvm.ClassFile.FieldType.object "java/lang/Object"))).before args0 about1 = true := code_word (m := ⟨13, 1⟩) (meth := k13m1) (c := k13c1) (by decide +kernel) rfl rfl rfl (by decide +kernel)
theorem w_c9 : (Jvm.Cond.code ⟨"com/example/formboard/formboard/core/Board$Live", "description", "()Ljava/lang/String;"⟩ prog_16_method_2_code (1 : Nat) (Option.some (Jvm.ClassFile.FieldType.object "java/lang/String"))).before args0 about1 = true := code_word (m := ⟨12, 1⟩) (meth := k12m1) (c := k12c1) (by decide +kernel) rfl rfl rfl (by decide +kernel)
theorem w_c10 : (Jvm.Cond.code ⟨"java/lang/Enum", "ordinal", "()I"⟩ jdk_37_method_2_code (1 : Nat) (Option.some Jvm.ClassFile.FieldType.int)).before args0 about1 = true := code_word (m := ⟨9, 0⟩) (meth := k9m0) (c := k9c0) (by decide +kernel) rfl rfl rfl (by decide +kernel)
theorem w_c11 : (Jvm.Cond.code ⟨"com/example/formboard/formboard/core/LiveDescriptionPinLaw", "expected", "(IICC)Ljava/lang/String;"⟩ method_3_code (4 : Nat) (Option.some (Jvm.ClassFile.FieldType.object "java/lang/String"))).before args0 about1 = true := code_word (m := ⟨1, 2⟩) (meth := k1m2) (c := k1c2) (by decide +kernel) rfl rfl rfl (by decide +kernel)
theorem w_c12 : (Jvm.Cond.code ⟨"java/lang/String", "equals", "(Ljava/lang/Object;)Z"⟩ jdk_42_method_66_code (3 : Nat) (Option.some Jvm.ClassFile.FieldType.boolean)).before args0 about1 = true := code_word (m := ⟨7, 4⟩) (meth := k7m4) (c := k7c4) (by decide +kernel) rfl rfl rfl (by decide +kernel)
theorem w_c13 : (Jvm.Cond.code ⟨"java/lang/StringBuilder", "<init>", "()V"⟩ jdk_67_method_1_code (1 : Nat) (Option.none : Option Jvm.ClassFile.FieldType)).before args0 about1 = true := code_word (m := ⟨16, 0⟩) (meth := k16m0) (c := k16c0) (by decide +kernel) rfl rfl rfl (by decide +kernel)
theorem w_c14 : (Jvm.Cond.code ⟨"java/lang/AbstractStringBuilder", "<init>", "(I)V"⟩ jdk_68_method_2_code (2 : Nat) (Option.none : Option Jvm.ClassFile.FieldType)).before args0 about1 = true := code_word (m := ⟨15, 1⟩) (meth := k15m1) (c := k15c1) (by decide +kernel) rfl rfl rfl (by decide +kernel)
theorem w_c15 : (Jvm.Cond.code ⟨"java/lang/StringBuilder", "append", "(Ljava/lang/String;)Ljava/lang/StringBuilder;"⟩ jdk_67_method_7_code (2 : Nat) (Option.some (Jvm.ClassFile.FieldType.object "java/lang/StringBuilder"))).before args0 about1 = true := code_word (m := ⟨16, 1⟩) (meth := k16m1) (c := k16c1) (by decide +kernel) rfl rfl rfl (by decide +kernel)
theorem w_c16 : (Jvm.Cond.code ⟨"java/lang/AbstractStringBuilder", "append", "(Ljava/lang/String;)Ljava/lang/AbstractStringBuilder;"⟩ jdk_68_method_22_code (3 : Nat) (Option.some (Jvm.ClassFile.FieldType.object "java/lang/AbstractStringBuilder"))).before args0 about1 = true := code_word (m := ⟨15, 5⟩) (meth := k15m5) (c := k15c5) (by decide +kernel) rfl rfl rfl (by decide +kernel)
theorem w_c17 : (Jvm.Cond.code ⟨"java/lang/String", "length", "()I"⟩ jdk_42_method_54_code (1 : Nat) (Option.some Jvm.ClassFile.FieldType.int)).before args0 about1 = true := code_word (m := ⟨7, 3⟩) (meth := k7m3) (c := k7c3) (by decide +kernel) rfl rfl rfl (by decide +kernel)
theorem w_c18 : (Jvm.Cond.code ⟨"java/lang/String", "coder", "()B"⟩ jdk_42_method_152_code (1 : Nat) (Option.some Jvm.ClassFile.FieldType.byte)).before args0 about1 = true := code_word (m := ⟨7, 10⟩) (meth := k7m10) (c := k7c10) (by decide +kernel) rfl rfl rfl (by decide +kernel)
theorem w_c19 : (Jvm.Cond.code ⟨"java/lang/AbstractStringBuilder", "ensureCapacityInternal", "(I)V"⟩ jdk_68_method_9_code (3 : Nat) (Option.none : Option Jvm.ClassFile.FieldType)).before args0 about1 = true := code_word (m := ⟨15, 3⟩) (meth := k15m3) (c := k15c3) (by decide +kernel) rfl rfl rfl (by decide +kernel)
theorem w_c20 : (Jvm.Cond.code ⟨"java/lang/AbstractStringBuilder", "putStringAt", "(ILjava/lang/String;)V"⟩ jdk_68_method_73_code (3 : Nat) (Option.none : Option Jvm.ClassFile.FieldType)).before args0 about1 = true := code_word (m := ⟨15, 9⟩) (meth := k15m9) (c := k15c9) (by decide +kernel) rfl rfl rfl (by decide +kernel)
theorem w_c21 : (Jvm.Cond.code ⟨"java/lang/AbstractStringBuilder", "inflateIfNeededFor", "(Ljava/lang/String;)V"⟩ jdk_68_method_71_code (2 : Nat) (Option.none : Option Jvm.ClassFile.FieldType)).before args0 about1 = true := code_word (m := ⟨15, 8⟩) (meth := k15m8) (c := k15c8) (by decide +kernel) rfl rfl rfl (by decide +kernel)
theorem w_c22 : (Jvm.Cond.code ⟨"java/lang/String", "getBytes", "([BIB)V"⟩ jdk_42_method_147_code (4 : Nat) (Option.none : Option Jvm.ClassFile.FieldType)).before args0 about1 = true := code_word (m := ⟨7, 6⟩) (meth := k7m6) (c := k7c6) (by decide +kernel) rfl rfl rfl (by decide +kernel)
theorem w_c23 : (Jvm.Cond.code ⟨"java/lang/AbstractStringBuilder", "newCapacity", "(I)I"⟩ jdk_68_method_10_code (6 : Nat) (Option.some Jvm.ClassFile.FieldType.int)).before args0 about1 = true := code_word (m := ⟨15, 4⟩) (meth := k15m4) (c := k15c4) (by decide +kernel) rfl rfl rfl (by decide +kernel)
theorem w_c24 : (Jvm.Cond.code ⟨"jdk/internal/util/ArraysSupport", "newLength", "(III)I"⟩ jdk_48_method_27_code (4 : Nat) (Option.some Jvm.ClassFile.FieldType.int)).before args0 about1 = true := code_word (m := ⟨18, 1⟩) (meth := k18m1) (c := k18c1) (by decide +kernel) rfl rfl rfl (by decide +kernel)
theorem w_c25 : (Jvm.Cond.code ⟨"java/lang/Math", "max", "(II)I"⟩ jdk_29_method_65_code (2 : Nat) (Option.some Jvm.ClassFile.FieldType.int)).before args0 about1 = true := code_word (m := ⟨19, 1⟩) (meth := k19m1) (c := k19c1) (by decide +kernel) rfl rfl rfl (by decide +kernel)
theorem w_c26 : (Jvm.Cond.code ⟨"java/util/Arrays", "copyOf", "([BI)[B"⟩ jdk_65_method_121_code (3 : Nat) (Option.some (Jvm.ClassFile.FieldType.array Jvm.ClassFile.FieldType.byte))).before args0 about1 = true := code_word (m := ⟨20, 1⟩) (meth := k20m1) (c := k20c1) (by decide +kernel) rfl rfl rfl (by decide +kernel)
theorem w_c27 : (Jvm.Cond.code ⟨"java/lang/Math", "min", "(II)I"⟩ jdk_29_method_69_code (2 : Nat) (Option.some Jvm.ClassFile.FieldType.int)).before args0 about1 = true := code_word (m := ⟨19, 2⟩) (meth := k19m2) (c := k19c2) (by decide +kernel) rfl rfl rfl (by decide +kernel)
theorem w_c28 : (Jvm.Cond.code ⟨"java/lang/StringBuilder", "toString", "()Ljava/lang/String;"⟩ jdk_67_method_42_code (1 : Nat) (Option.some (Jvm.ClassFile.FieldType.object "java/lang/String"))).before args0 about1 = true := code_word (m := ⟨16, 2⟩) (meth := k16m2) (c := k16c2) (by decide +kernel) rfl rfl rfl (by decide +kernel)
theorem w_c29 : (Jvm.Cond.code ⟨"java/lang/String", "<init>", "(Ljava/lang/StringBuilder;)V"⟩ jdk_42_method_53_code (2 : Nat) (Option.none : Option Jvm.ClassFile.FieldType)).before args0 about1 = true := code_word (m := ⟨7, 2⟩) (meth := k7m2) (c := k7c2) (by decide +kernel) rfl rfl rfl (by decide +kernel)
theorem w_c30 : (Jvm.Cond.code ⟨"java/lang/String", "<init>", "(Ljava/lang/AbstractStringBuilder;Ljava/lang/Void;)V"⟩ jdk_42_method_150_code (5 : Nat) (Option.none : Option Jvm.ClassFile.FieldType)).before args0 about1 = true := code_word (m := ⟨7, 8⟩) (meth := k7m8) (c := k7c8) (by decide +kernel) rfl rfl rfl (by decide +kernel)
theorem w_c31 : (Jvm.Cond.code ⟨"java/lang/AbstractStringBuilder", "getValue", "()[B"⟩ jdk_68_method_64_code (1 : Nat) (Option.some (Jvm.ClassFile.FieldType.array Jvm.ClassFile.FieldType.byte))).before args0 about1 = true := code_word (m := ⟨15, 6⟩) (meth := k15m6) (c := k15c6) (by decide +kernel) rfl rfl rfl (by decide +kernel)
theorem w_c32 : (Jvm.Cond.code ⟨"java/lang/StringBuilder", "length", "()I"⟩ jdk_67_method_93_code (1 : Nat) (Option.some Jvm.ClassFile.FieldType.int)).before args0 about1 = true := code_word (m := ⟨16, 3⟩) (meth := k16m3) (c := k16c3) (by decide +kernel) rfl rfl rfl (by decide +kernel)
theorem w_c33 : (Jvm.Cond.code ⟨"java/lang/AbstractStringBuilder", "length", "()I"⟩ jdk_68_method_6_code (1 : Nat) (Option.some Jvm.ClassFile.FieldType.int)).before args0 about1 = true := code_word (m := ⟨15, 2⟩) (meth := k15m2) (c := k15c2) (by decide +kernel) rfl rfl rfl (by decide +kernel)
theorem w_c34 : (Jvm.Cond.code ⟨"java/lang/AbstractStringBuilder", "isLatin1", "()Z"⟩ jdk_68_method_68_code (1 : Nat) (Option.some Jvm.ClassFile.FieldType.boolean)).before args0 about1 = true := code_word (m := ⟨15, 7⟩) (meth := k15m7) (c := k15c7) (by decide +kernel) rfl rfl rfl (by decide +kernel)
theorem w_c35 : (Jvm.Cond.code ⟨"java/util/Arrays", "copyOfRange", "([BII)[B"⟩ jdk_65_method_132_code (3 : Nat) (Option.some (Jvm.ClassFile.FieldType.array Jvm.ClassFile.FieldType.byte))).before args0 about1 = true := code_word (m := ⟨20, 3⟩) (meth := k20m3) (c := k20c3) (by decide +kernel) rfl rfl rfl (by decide +kernel)
theorem w_c36 : (Jvm.Cond.code ⟨"java/util/Arrays", "copyOfRangeByte", "([BII)[B"⟩ jdk_65_method_133_code (5 : Nat) (Option.some (Jvm.ClassFile.FieldType.array Jvm.ClassFile.FieldType.byte))).before args0 about1 = true := code_word (m := ⟨20, 4⟩) (meth := k20m4) (c := k20c4) (by decide +kernel) rfl rfl rfl (by decide +kernel)
theorem w_c37 : (Jvm.Cond.code ⟨"java/util/Arrays", "checkLength", "(II)V"⟩ jdk_65_method_131_code (2 : Nat) (Option.none : Option Jvm.ClassFile.FieldType)).before args0 about1 = true := code_word (m := ⟨20, 2⟩) (meth := k20m2) (c := k20c2) (by decide +kernel) rfl rfl rfl (by decide +kernel)
theorem w_c38 : (Jvm.Cond.code ⟨"java/lang/String", "<init>", "([C)V"⟩ jdk_42_method_3_code (2 : Nat) (Option.none : Option Jvm.ClassFile.FieldType)).before args0 about1 = true := code_word (m := ⟨7, 1⟩) (meth := k7m1) (c := k7c1) (by decide +kernel) rfl rfl rfl (by decide +kernel)
theorem w_c39 : (Jvm.Cond.code ⟨"java/lang/String", "<init>", "([CIILjava/lang/Void;)V"⟩ jdk_42_method_149_code (6 : Nat) (Option.none : Option Jvm.ClassFile.FieldType)).before args0 about1 = true := code_word (m := ⟨7, 7⟩) (meth := k7m7) (c := k7c7) (by decide +kernel) rfl rfl rfl (by decide +kernel)
theorem w_c40 : (Jvm.Cond.code ⟨"java/lang/StringUTF16", "compress", "([CII)[B"⟩ jdk_52_method_16_code (6 : Nat) (Option.some (Jvm.ClassFile.FieldType.array Jvm.ClassFile.FieldType.byte))).before args0 about1 = true := code_word (m := ⟨21, 2⟩) (meth := k21m2) (c := k21c2) (by decide +kernel) rfl rfl rfl (by decide +kernel)
theorem w_c41 : (Jvm.Cond.code ⟨"java/lang/StringUTF16", "compress", "([CI[BII)I"⟩ jdk_52_method_21_code (7 : Nat) (Option.some Jvm.ClassFile.FieldType.int)).before args0 about1 = true := code_word (m := ⟨21, 3⟩) (meth := k21m3) (c := k21c3) (by decide +kernel) rfl rfl rfl (by decide +kernel)
theorem w_c42 : (Jvm.Cond.code ⟨"java/lang/StringUTF16", "coderFromArrayLen", "([BI)B"⟩ jdk_52_method_15_code (2 : Nat) (Option.some Jvm.ClassFile.FieldType.byte)).before args0 about1 = true := code_word (m := ⟨21, 1⟩) (meth := k21m1) (c := k21c1) (by decide +kernel) rfl rfl rfl (by decide +kernel)
theorem w_c43 : (Jvm.Cond.code ⟨"java/lang/StringLatin1", "equals", "([B[B)Z"⟩ jdk_43_method_13_code (3 : Nat) (Option.some Jvm.ClassFile.FieldType.boolean)).before args0 about1 = true := code_word (m := ⟨8, 2⟩) (meth := k8m2) (c := k8c2) (by decide +kernel) rfl rfl rfl (by decide +kernel)
def codes1 : List Jvm.Cond := [Jvm.Cond.code x code maxLocals ret, Jvm.Cond.code ⟨"java/lang/String", "valueOf", "(C)Ljava/lang/String;"⟩ jdk_42_method_139_code (1 : Nat) (Option.some (Jvm.ClassFile.FieldType.object "java/lang/String")), Jvm.Cond.code ⟨"java/lang/StringLatin1", "canEncode", "(C)Z"⟩ jdk_43_method_3_code (1 : Nat) (Option.some Jvm.ClassFile.FieldType.boolean), Jvm.Cond.code ⟨"java/lang/StringLatin1", "toBytes", "(C)[B"⟩ jdk_43_method_46_code (1 : Nat) (Option.some (Jvm.ClassFile.FieldType.array Jvm.ClassFile.FieldType.byte)), Jvm.Cond.code ⟨"java/lang/String", "<init>", "([BB)V"⟩ jdk_42_method_151_code (3 : Nat) (Option.none : Option Jvm.ClassFile.FieldType), Jvm.Cond.code ⟨"java/lang/Object", "<init>", "()V"⟩ object_method_1_code (1 : Nat) (Option.none : Option Jvm.ClassFile.FieldType), Jvm.Cond.code ⟨"com/example/formboard/formboard/core/Board$Live", "<init>", "(Lcom/example/formboard/formboard/core/Board$Part;Ljava/lang/String;Ljava/lang/String;)V"⟩ prog_16_method_1_code (4 : Nat) (Option.none : Option Jvm.ClassFile.FieldType), Jvm.Cond.code ⟨"java/lang/Record", "<init>", "()V"⟩ jdk_30_method_1_code (1 : Nat) (Option.none : Option Jvm.ClassFile.FieldType), Jvm.Cond.code ⟨"java/util/Objects", "requireNonNull", "(Ljava/lang/Object;Ljava/lang/String;)Ljava/lang/Object;"⟩ jdk_31_method_11_code (2 : Nat) (Option.some (Jvm.ClassFile.FieldType.object "java/lang/Object")), Jvm.Cond.code ⟨"com/example/formboard/formboard/core/Board$Live", "description", "()Ljava/lang/String;"⟩ prog_16_method_2_code (1 : Nat) (Option.some (Jvm.ClassFile.FieldType.object "java/lang/String")), Jvm.Cond.code ⟨"java/lang/Enum", "ordinal", "()I"⟩ jdk_37_method_2_code (1 : Nat) (Option.some Jvm.ClassFile.FieldType.int), Jvm.Cond.code ⟨"com/example/formboard/formboard/core/LiveDescriptionPinLaw", "expected", "(IICC)Ljava/lang/String;"⟩ method_3_code (4 : Nat) (Option.some (Jvm.ClassFile.FieldType.object "java/lang/String")), Jvm.Cond.code ⟨"java/lang/String", "equals", "(Ljava/lang/Object;)Z"⟩ jdk_42_method_66_code (3 : Nat) (Option.some Jvm.ClassFile.FieldType.boolean), Jvm.Cond.code ⟨"java/lang/StringBuilder", "<init>", "()V"⟩ jdk_67_method_1_code (1 : Nat) (Option.none : Option Jvm.ClassFile.FieldType), Jvm.Cond.code ⟨"java/lang/AbstractStringBuilder", "<init>", "(I)V"⟩ jdk_68_method_2_code (2 : Nat) (Option.none : Option Jvm.ClassFile.FieldType), Jvm.Cond.code ⟨"java/lang/StringBuilder", "append", "(Ljava/lang/String;)Ljava/lang/StringBuilder;"⟩ jdk_67_method_7_code (2 : Nat) (Option.some (Jvm.ClassFile.FieldType.object "java/lang/StringBuilder")), Jvm.Cond.code ⟨"java/lang/AbstractStringBuilder", "append", "(Ljava/lang/String;)Ljava/lang/AbstractStringBuilder;"⟩ jdk_68_method_22_code (3 : Nat) (Option.some (Jvm.ClassFile.FieldType.object "java/lang/AbstractStringBuilder")), Jvm.Cond.code ⟨"java/lang/String", "length", "()I"⟩ jdk_42_method_54_code (1 : Nat) (Option.some Jvm.ClassFile.FieldType.int), Jvm.Cond.code ⟨"java/lang/String", "coder", "()B"⟩ jdk_42_method_152_code (1 : Nat) (Option.some Jvm.ClassFile.FieldType.byte), Jvm.Cond.code ⟨"java/lang/AbstractStringBuilder", "ensureCapacityInternal", "(I)V"⟩ jdk_68_method_9_code (3 : Nat) (Option.none : Option Jvm.ClassFile.FieldType), Jvm.Cond.code ⟨"java/lang/AbstractStringBuilder", "putStringAt", "(ILjava/lang/String;)V"⟩ jdk_68_method_73_code (3 : Nat) (Option.none : Option Jvm.ClassFile.FieldType), Jvm.Cond.code ⟨"java/lang/AbstractStringBuilder", "inflateIfNeededFor", "(Ljava/lang/String;)V"⟩ jdk_68_method_71_code (2 : Nat) (Option.none : Option Jvm.ClassFile.FieldType), Jvm.Cond.code ⟨"java/lang/String", "getBytes", "([BIB)V"⟩ jdk_42_method_147_code (4 : Nat) (Option.none : Option Jvm.ClassFile.FieldType), Jvm.Cond.code ⟨"java/lang/AbstractStringBuilder", "newCapacity", "(I)I"⟩ jdk_68_method_10_code (6 : Nat) (Option.some Jvm.ClassFile.FieldType.int), Jvm.Cond.code ⟨"jdk/internal/util/ArraysSupport", "newLength", "(III)I"⟩ jdk_48_method_27_code (4 : Nat) (Option.some Jvm.ClassFile.FieldType.int), Jvm.Cond.code ⟨"java/lang/Math", "max", "(II)I"⟩ jdk_29_method_65_code (2 : Nat) (Option.some Jvm.ClassFile.FieldType.int), Jvm.Cond.code ⟨"java/util/Arrays", "copyOf", "([BI)[B"⟩ jdk_65_method_121_code (3 : Nat) (Option.some (Jvm.ClassFile.FieldType.array Jvm.ClassFile.FieldType.byte)), Jvm.Cond.code ⟨"java/lang/Math", "min", "(II)I"⟩ jdk_29_method_69_code (2 : Nat) (Option.some Jvm.ClassFile.FieldType.int), Jvm.Cond.code ⟨"java/lang/StringBuilder", "toString", "()Ljava/lang/String;"⟩ jdk_67_method_42_code (1 : Nat) (Option.some (Jvm.ClassFile.FieldType.object "java/lang/String")), Jvm.Cond.code ⟨"java/lang/String", "<init>", "(Ljava/lang/StringBuilder;)V"⟩ jdk_42_method_53_code (2 : Nat) (Option.none : Option Jvm.ClassFile.FieldType), Jvm.Cond.code ⟨"java/lang/String", "<init>", "(Ljava/lang/AbstractStringBuilder;Ljava/lang/Void;)V"⟩ jdk_42_method_150_code (5 : Nat) (Option.none : Option Jvm.ClassFile.FieldType), Jvm.Cond.code ⟨"java/lang/AbstractStringBuilder", "getValue", "()[B"⟩ jdk_68_method_64_code (1 : Nat) (Option.some (Jvm.ClassFile.FieldType.array Jvm.ClassFile.FieldType.byte)), Jvm.Cond.code ⟨"java/lang/StringBuilder", "length", "()I"⟩ jdk_67_method_93_code (1 : Nat) (Option.some Jvm.ClassFile.FieldType.int), Jvm.Cond.code ⟨"java/lang/AbstractStringBuilder", "length", "()I"⟩ jdk_68_method_6_code (1 : Nat) (Option.some Jvm.ClassFile.FieldType.int), Jvm.Cond.code ⟨"java/lang/AbstractStringBuilder", "isLatin1", "()Z"⟩ jdk_68_method_68_code (1 : Nat) (Option.some Jvm.ClassFile.FieldType.boolean), Jvm.Cond.code ⟨"java/util/Arrays", "copyOfRange", "([BII)[B"⟩ jdk_65_method_132_code (3 : Nat) (Option.some (Jvm.ClassFile.FieldType.array Jvm.ClassFile.FieldType.byte)), Jvm.Cond.code ⟨"java/util/Arrays", "copyOfRangeByte", "([BII)[B"⟩ jdk_65_method_133_code (5 : Nat) (Option.some (Jvm.ClassFile.FieldType.array Jvm.ClassFile.FieldType.byte)), Jvm.Cond.code ⟨"java/util/Arrays", "checkLength", "(II)V"⟩ jdk_65_method_131_code (2 : Nat) (Option.none : Option Jvm.ClassFile.FieldType), Jvm.Cond.code ⟨"java/lang/String", "<init>", "([C)V"⟩ jdk_42_method_3_code (2 : Nat) (Option.none : Option Jvm.ClassFile.FieldType), Jvm.Cond.code ⟨"java/lang/String", "<init>", "([CIILjava/lang/Void;)V"⟩ jdk_42_method_149_code (6 : Nat) (Option.none : Option Jvm.ClassFile.FieldType), Jvm.Cond.code ⟨"java/lang/StringUTF16", "compress", "([CII)[B"⟩ jdk_52_method_16_code (6 : Nat) (Option.some (Jvm.ClassFile.FieldType.array Jvm.ClassFile.FieldType.byte)), Jvm.Cond.code ⟨"java/lang/StringUTF16", "compress", "([CI[BII)I"⟩ jdk_52_method_21_code (7 : Nat) (Option.some Jvm.ClassFile.FieldType.int), Jvm.Cond.code ⟨"java/lang/StringUTF16", "coderFromArrayLen", "([BI)B"⟩ jdk_52_method_15_code (2 : Nat) (Option.some Jvm.ClassFile.FieldType.byte), Jvm.Cond.code ⟨"java/lang/StringLatin1", "equals", "([B[B)Z"⟩ jdk_43_method_13_code (3 : Nat) (Option.some Jvm.ClassFile.FieldType.boolean)]
theorem codes_eq : words1.filter isCode = codes1 := rfl
theorem w_codes : ∀ c ∈ words1.filter isCode, c.before args0 about1 = true := by
  rw [codes_eq]
  intro c hc
  simp only [codes1, List.mem_cons, List.not_mem_nil, or_false] at hc
  rcases hc with rfl | rfl | rfl | rfl | rfl | rfl | rfl | rfl | rfl | rfl | rfl | rfl | rfl | rfl | rfl | rfl | rfl | rfl | rfl | rfl | rfl | rfl | rfl | rfl | rfl | rfl | rfl | rfl | rfl | rfl | rfl | rfl | rfl | rfl | rfl | rfl | rfl | rfl | rfl | rfl | rfl | rfl | rfl | rfl
  · exact w_c0
  · exact w_c1
  · exact w_c2
  · exact w_c3
  · exact w_c4
  · exact w_c5
  · exact w_c6
  · exact w_c7
  · exact w_c8
  · exact w_c9
  · exact w_c10
  · exact w_c11
  · exact w_c12
  · exact w_c13
  · exact w_c14
  · exact w_c15
  · exact w_c16
  · exact w_c17
  · exact w_c18
  · exact w_c19
  · exact w_c20
  · exact w_c21
  · exact w_c22
  · exact w_c23
  · exact w_c24
  · exact w_c25
  · exact w_c26
  · exact w_c27
  · exact w_c28
  · exact w_c29
  · exact w_c30
  · exact w_c31
  · exact w_c32
  · exact w_c33
  · exact w_c34
  · exact w_c35
  · exact w_c36
  · exact w_c37
  · exact w_c38
  · exact w_c39
  · exact w_c40
  · exact w_c41
  · exact w_c42
  · exact w_c43
theorem w_t1 : (words1.take 24).all (fun c => isCode c || c.before args0 about1) = true := by decide +kernel
theorem w_t2 : ((words1.drop 24).take 24).all (fun c => isCode c || c.before args0 about1) = true := by decide +kernel
theorem w_t3 : (((words1.drop 24).drop 24).take 24).all (fun c => isCode c || c.before args0 about1) = true := by decide +kernel
theorem w_t4 : ((((words1.drop 24).drop 24).drop 24).take 24).all (fun c => isCode c || c.before args0 about1) = true := by decide +kernel
theorem w_t5 : (((((words1.drop 24).drop 24).drop 24).drop 24).take 24).all (fun c => isCode c || c.before args0 about1) = true := by decide +kernel
theorem w_t6 : ((((((words1.drop 24).drop 24).drop 24).drop 24).drop 24).take 24).all (fun c => isCode c || c.before args0 about1) = true := by decide +kernel
theorem w_t7 : (((((((words1.drop 24).drop 24).drop 24).drop 24).drop 24).drop 24).take 24).all (fun c => isCode c || c.before args0 about1) = true := by decide +kernel
theorem w_t8 : ((((((((words1.drop 24).drop 24).drop 24).drop 24).drop 24).drop 24).drop 24).take 24).all (fun c => isCode c || c.before args0 about1) = true := by decide +kernel
theorem w_t9 : (((((((((words1.drop 24).drop 24).drop 24).drop 24).drop 24).drop 24).drop 24).drop 24).take 24).all (fun c => isCode c || c.before args0 about1) = true := by decide +kernel
theorem w_t10 : ((((((((((words1.drop 24).drop 24).drop 24).drop 24).drop 24).drop 24).drop 24).drop 24).drop 24).take 24).all (fun c => isCode c || c.before args0 about1) = true := by decide +kernel
theorem w_t11 : ((((((((((words1.drop 24).drop 24).drop 24).drop 24).drop 24).drop 24).drop 24).drop 24).drop 24).drop 24).all (fun c => isCode c || c.before args0 about1) = true := by decide +kernel
theorem w_tables : (allAtoms (Jvm.Cond.code x code maxLocals ret :: tables_1)).before args0 about1 = true := by
  rw [allAtoms_all]
  show words1.all (fun c => c.before args0 about1) = true
  refine all_split ?_ w_codes
  rw [← List.take_append_drop 24 words1, List.all_append, w_t1, ← List.take_append_drop 24 (words1.drop 24), List.all_append, w_t2, ← List.take_append_drop 24 ((words1.drop 24).drop 24), List.all_append, w_t3, ← List.take_append_drop 24 (((words1.drop 24).drop 24).drop 24), List.all_append, w_t4, ← List.take_append_drop 24 ((((words1.drop 24).drop 24).drop 24).drop 24), List.all_append, w_t5, ← List.take_append_drop 24 (((((words1.drop 24).drop 24).drop 24).drop 24).drop 24), List.all_append, w_t6, ← List.take_append_drop 24 ((((((words1.drop 24).drop 24).drop 24).drop 24).drop 24).drop 24), List.all_append, w_t7, ← List.take_append_drop 24 (((((((words1.drop 24).drop 24).drop 24).drop 24).drop 24).drop 24).drop 24), List.all_append, w_t8, ← List.take_append_drop 24 ((((((((words1.drop 24).drop 24).drop 24).drop 24).drop 24).drop 24).drop 24).drop 24), List.all_append, w_t9, ← List.take_append_drop 24 (((((((((words1.drop 24).drop 24).drop 24).drop 24).drop 24).drop 24).drop 24).drop 24).drop 24), List.all_append, w_t10, w_t11]
  rfl
theorem w_rest : rest_1_c.before args0 about1 = true := by decide +kernel
theorem w_case : (Jvm.Cond.and given_1 narrow_1).before args0 about1 = true := by decide +kernel
theorem w_consts : constsHeld consts_1 about1 := Jvm.Lit.constsHeldB_iff.mp (by decide +kernel)
theorem w_applies : (headSpec (Jvm.Cond.code x code maxLocals ret :: tables_1) room_1).applies x e0.platform about1 = true :=
  (Spec.applies_iff w_frames).mpr ⟨w_running, w_runnable, w_alone, w_named, w_hears, w_ripe, w_room, w_tables⟩
theorem atStart : AtStart classFile x code maxLocals ret World_1 tables_1 room_1 Calls_1 rest_1 Pre_1 launch0 p0 e0 about1 theMethod args0 below0 :=
  ⟨lists_1, trivial, launch0.admits_env _ _ _, launch0.least_env, fairChoices_fair.cas, fairChoices_fair.clock, w_frames, w_args, w_heap, w_applies, ⟨w_consts, trivial⟩, w_rest, w_case⟩
end start1
theorem witness_1 : WitnessClaimed_1 := ⟨start1.p0, start1.e0, start1.about1, start1.theMethod, start1.args0, start1.below0, start1.atStart⟩
end Jvm.Pilot.@@N@@
