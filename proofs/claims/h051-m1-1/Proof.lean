import JvmDerived
import JvmDerived.Pilot.@@N@@Statement
import JvmDerived.Pilot.@@N@@Code
set_option linter.unusedVariables false
set_option linter.unusedSimpArgs false
namespace Jvm.OwnKit
open Sem ClassFile Op Lib Bundle Jvm.Stand Jvm.Free Jvm.LawKit Jvm.RoadKit
section Kit
variable {p : Program} {l : Launch} {e : Env} {R : Room} {s : State} {m : MethodId} {args : Array Value} {below : List Frame} {meth : Method} {c : Code} {Z : State} {a0 : Array Value} {EL : List (String × Nat)} {cw : Prop} {own : String} {n0 : Nat} {bytes : ByteArray} {maxL : Nat} {ret : Option FieldType} {nm : String} {T : State} {h : Heap} {C S : Nat} {sf : List Addr} {P : State → Outcome → Prop}

/-- from t the run comes to a state of which P speaks -/
def Go (p : Program) (e : Env) (below : List Frame) (P : State → Outcome → Prop) (t : State) : Prop := ∃ u o, Steps p.tables e below t u ∧ P u o
theorem Go.st {t t' : State} (k : ∀ target, Steps p.tables e below t' target → Steps p.tables e below t target) (G : Go p e below P t') : Go p e below P t := by
  obtain ⟨u, o, h1, h2⟩ := G; exact ⟨u, o, k _ h1, h2⟩
theorem Go.tr {t t' : State} (k : Steps p.tables e below t t') (G : Go p e below P t') : Go p e below P t := by
  obtain ⟨u, o, h1, h2⟩ := G; exact ⟨u, o, k.trans h1, h2⟩

/-- where the walk stands: all that the steps ask, in one word -/
def Hs (p : Program) (l : Launch) (e : Env) (R : Room) (s : State) (m : MethodId) (args : Array Value) (below : List Frame) (meth : Method) (c : Code) (Z : State) (a0 : Array Value) (EL : List (String × Nat)) (cw : Prop) (own : String) (n0 : Nat) (bytes : ByteArray) (maxL : Nat) (ret : Option FieldType) (nm : String) (T : State) (h : Heap) (C S : Nat) (sf : List Addr) : Prop :=
  (p.tables.exec = Jvm.exec ∧ EW Z a0 EL ∧ c.code = bytes ∧ c.maxLocals = maxL ∧ meth.sig.returnType = ret ∧ meth.locks = false ∧ meth.name = nm ∧ n0 ≤ s.heap.size) ∧
  ∃ (vm0 : Vm) (k0 : Nat) (locs : List Loc), Stand p l e R (s.setVm vm0) m args below meth c T locs C S ∧ T.heap = h ∧ s.Since vm0 k0 ∧ k0 ≤ h.size ∧ Z.Warmed39 vm0 ∧ vm0.findClass own = some m.cls ∧ Fr n0 locs ∧ CHr Z EL s.vm s.heap vm0 h ∧ (∀ x ∈ sf, x < h.size ∧ Safe Z EL vm0 h x) ∧ (cw ∨ s.WarmedH vm0) ∧ Old Z n0 h

theorem Hs.here (H : Hs p l e R s m args below meth c Z a0 EL cw own n0 bytes maxL ret nm T h C S sf) : At T m c below := by
  obtain ⟨-, vm0, k0, locs, X, -⟩ := H; exact X.here
theorem Hs.exec (H : Hs p l e R s m args below meth c Z a0 EL cw own n0 bytes maxL ret nm T h C S sf) : p.tables.exec = Jvm.exec := H.1.1
theorem Hs.dec (H : Hs p l e R s m args below meth c Z a0 EL cw own n0 bytes maxL ret nm T h C S sf) {pc : Nat} {r : Except ClassFile.DecodeError (ClassFile.Instr × Nat)} (hd : decode bytes pc = r) : decode c.code pc = r := by rw [H.1.2.2.1]; exact hd
theorem Hs.le (H : Hs p l e R s m args below meth c Z a0 EL cw own n0 bytes maxL ret nm T h C S sf) : n0 ≤ h.size := by
  obtain ⟨⟨-, -, -, -, -, -, -, hn⟩, vm0, k0, locs, -, -, -, -, -, -, -, hC, -⟩ := H
  exact Nat.le_trans hn hC.2.1
theorem Hs.nle {a : Addr} (H : Hs p l e R s m args below meth c Z a0 EL cw own n0 bytes maxL ret nm T h C S sf) (g : a = h.size) : n0 ≤ a := Nat.le_trans H.le (Nat.le_of_eq g.symm)
theorem Hs.old (H : Hs p l e R s m args below meth c Z a0 EL cw own n0 bytes maxL ret nm T h C S sf) : Old Z n0 h := by
  obtain ⟨-, vm0, k0, locs, -, -, -, -, -, -, -, -, -, -, hO⟩ := H; exact hO
theorem Hs.mono (H : Hs p l e R s m args below meth c Z a0 EL cw own n0 bytes maxL ret nm T h C S sf) {C' S' : Nat} (hc : C ≤ C') (hs : S ≤ S') : Hs p l e R s m args below meth c Z a0 EL cw own n0 bytes maxL ret nm T h C' S' sf := by
  obtain ⟨hM, vm0, k0, locs, X, r⟩ := H
  exact ⟨hM, vm0, k0, locs, X.mono hc hs, r⟩
def Sf (Z : State) (EL : List (String × Nat)) (h : Heap) (sf : List Addr) (a : Addr) : Prop := a ∈ sf ∨ (∃ K, Exa Z h a K ∧ K ≠ "java/lang/String" ∧ K ≠ "[B") ∨ ∃ cl ty, Arr Z h a cl ty ∧ ty ≠ .byte
theorem Sf.mem {a : Addr} (q : a ∈ sf) : Sf Z EL h sf a := Or.inl q
theorem Sf.exa {a : Addr} {K : String} (E : Exa Z h a K) (h1 : K ≠ "java/lang/String" := by decide) (h2 : K ≠ "[B" := by decide) : Sf Z EL h sf a := Or.inr (Or.inl ⟨K, E, h1, h2⟩)
theorem Sf.arr {a : Addr} {k : ClassId} {ty : FieldType} {z : Int32} {vs : List Value} {dv : Value} (A : Arv Z h a k ty z vs dv) (ht : ty ≠ .byte := by decide) : Sf Z EL h sf a := by
  obtain ⟨cl, A, -⟩ := A; exact Or.inr (Or.inr ⟨cl, ty, A, ht⟩)
theorem Sf.safe {a : Addr} {vm0 : Vm} (hZ : Z.Warmed39 vm0) (hs : ∀ x ∈ sf, x < h.size ∧ Safe Z EL vm0 h x) (q : Sf Z EL h sf a) : Safe Z EL vm0 h a := by
  rcases q with q | ⟨K, E, h1, h2⟩ | ⟨cl, ty, A, ht⟩
  · exact (hs a q).2
  · exact Safe.exa hZ.alike E h1 h2
  · exact Safe.arr hZ.alike A ht

/-- a step of the library's that keeps the heap (T' in place of T) -/
theorem G.getF (H : Hs p l e R s m args below meth c Z a0 EL cw own n0 bytes maxL ret nm T h C S sf) {R0 O n d : String} {index : Nat} (w : (Cond.fieldLink own index R0 n d).before a0 Z = true) (via : Via Z R0 O n d) {a : Addr} {v : Value} (F : Fld Z h a O n d v) {pc pc' : Nat} {L : Array Slot} {st : List Value} (hd : decode bytes pc = .ok (.getfield index, 3)) (hp : pc + 3 = pc')
    (k : ∀ T', Hs p l e R s m args below meth c Z a0 EL cw own n0 bytes maxL ret nm T' h C S sf → Go p e below P (T'.setTop (mkF m pc' L (v :: st)))) : Go p e below P (T.setTop (mkF m pc L (.ref a :: st))) := by
  subst hp
  obtain ⟨hM, vm0, k0, locs, X, h1, h2, h3, h4, h5, h6, h7, h8, h9, hO⟩ := id H
  obtain ⟨T', X', e', st'⟩ := RoadKit.getF X H.exec h4 (host := "") h5 (Or.inl w) via h1 F (g := mkF m pc L (.ref a :: st)) rfl rfl (H.dec hd)
  exact Go.st st' (k T' ⟨hM, vm0, k0, locs, X', e', h2, h3, h4, h5, h6, h7, h8, h9, hO⟩)
theorem G.castY (H : Hs p l e R s m args below meth c Z a0 EL cw own n0 bytes maxL ret nm T h C S sf) {K : String} {index : Nat} (w : (Cond.classLink own index K).before a0 Z = true) {a : Addr} (F : Ins Z h a K true) {pc pc' : Nat} {L : Array Slot} {st : List Value} (hd : decode bytes pc = .ok (.checkcast index, 3)) (hp : pc + 3 = pc')
    (k : ∀ T', Hs p l e R s m args below meth c Z a0 EL cw own n0 bytes maxL ret nm T' h C S sf → Go p e below P (T'.setTop (mkF m pc' L (.ref a :: st)))) : Go p e below P (T.setTop (mkF m pc L (.ref a :: st))) := by
  subst hp
  obtain ⟨hM, vm0, k0, locs, X, h1, h2, h3, h4, h5, h6, h7, h8, h9, hO⟩ := id H
  obtain ⟨T', X', e', st'⟩ := RoadKit.castY X H.exec h4 h5 w h1 F (g := mkF m pc L (.ref a :: st)) rfl rfl (H.dec hd)
  exact Go.st st' (k T' ⟨hM, vm0, k0, locs, X', e', h2, h3, h4, h5, h6, h7, h8, h9, hO⟩)
theorem G.instY (H : Hs p l e R s m args below meth c Z a0 EL cw own n0 bytes maxL ret nm T h C S sf) {K : String} {index : Nat} (w : (Cond.classLink own index K).before a0 Z = true) {a : Addr} (F : Ins Z h a K true) {pc pc' : Nat} {L : Array Slot} {st : List Value} (hd : decode bytes pc = .ok (.instanceof index, 3)) (hp : pc + 3 = pc')
    (k : ∀ T', Hs p l e R s m args below meth c Z a0 EL cw own n0 bytes maxL ret nm T' h C S sf → Go p e below P (T'.setTop (mkF m pc' L (.int 1 :: st)))) : Go p e below P (T.setTop (mkF m pc L (.ref a :: st))) := by
  subst hp
  obtain ⟨hM, vm0, k0, locs, X, h1, h2, h3, h4, h5, h6, h7, h8, h9, hO⟩ := id H
  obtain ⟨T', X', e', st'⟩ := RoadKit.instY X H.exec h4 h5 w h1 F (g := mkF m pc L (.ref a :: st)) rfl rfl (H.dec hd)
  exact Go.st st' (k T' ⟨hM, vm0, k0, locs, X', e', h2, h3, h4, h5, h6, h7, h8, h9, hO⟩)
theorem G.instNo (H : Hs p l e R s m args below meth c Z a0 EL cw own n0 bytes maxL ret nm T h C S sf) {K D : String} {index : Nat} (w : (Cond.classLink own index K).before a0 Z = true) {a : Addr} (E : Exa Z h a D) (F : ∃ c t, Z.vm.findClass D = some c ∧ Z.vm.findClass K = some t ∧ Z.vm.assignable c t = false) {pc pc' : Nat} {L : Array Slot} {st : List Value} (hd : decode bytes pc = .ok (.instanceof index, 3)) (hp : pc + 3 = pc')
    (k : ∀ T', Hs p l e R s m args below meth c Z a0 EL cw own n0 bytes maxL ret nm T' h C S sf → Go p e below P (T'.setTop (mkF m pc' L (.int 0 :: st)))) : Go p e below P (T.setTop (mkF m pc L (.ref a :: st))) := by
  subst hp
  obtain ⟨hM, vm0, k0, locs, X, h1, h2, h3, h4, h5, h6, h7, h8, h9, hO⟩ := id H
  obtain ⟨T', X', e', st'⟩ := RoadKit.instNo X H.exec h4 h5 w h1 E F (g := mkF m pc L (.ref a :: st)) rfl rfl (H.dec hd)
  exact Go.st st' (k T' ⟨hM, vm0, k0, locs, X', e', h2, h3, h4, h5, h6, h7, h8, h9, hO⟩)
theorem G.initO (H : Hs p l e R s m args below meth c Z a0 EL cw own n0 bytes maxL ret nm T h C S sf) {index : Nat} (w1 : (Cond.methodLink own index Lib.objectInit).before a0 Z = true) (w2 : (Cond.instanceMethod Lib.objectInit).before a0 Z = true) (w3 : (Cond.code Lib.objectInit ⟨#[0xb1]⟩ 1 none).before a0 Z = true) {a : Addr} {pc pc' : Nat} {L : Array Slot} {st : List Value} (hL : L.size = maxL) (hd : decode bytes pc = .ok (.invokespecial index, 3)) (hp : pc + 3 = pc') (hf : 1 ≤ R.frames) {W : Nat} (hW : (st.map fun v => v.category).sum = W) (hl : W + 12 ≤ R.locals)
    (k : ∀ T', Hs p l e R s m args below meth c Z a0 EL cw own n0 bytes maxL ret nm T' h C S sf → Go p e below P (T'.setTop (mkF m pc' L st))) : Go p e below P (T.setTop (mkF m pc L (.ref a :: st))) := by
  subst hp
  obtain ⟨hM, vm0, k0, locs, X, h1, h2, h3, h4, h5, h6, h7, h8, h9, hO⟩ := id H
  obtain ⟨T', X', e', st'⟩ := RoadKit.initO X H.exec h4 h5 w1 w2 w3 h1 (g := mkF m pc L (.ref a :: st)) rfl (by rw [hM.2.2.2.1]; exact hL) rfl (H.dec hd) hf (W := W) (by show 2 * 0 + _ ≤ _; omega) hl
  exact Go.st st' (k T' ⟨hM, vm0, k0, locs, X', e', h2, h3, h4, h5, h6, h7, h8, h9, hO⟩)
theorem G.arrlen (H : Hs p l e R s m args below meth c Z a0 EL cw own n0 bytes maxL ret nm T h C S sf) {a : Addr} {kc : ClassId} {ty : FieldType} {z : Int32} {vs : List Value} {dv : Value} (A : Arv Z h a kc ty z vs dv) {pc pc' : Nat} {L : Array Slot} {st : List Value} (hd : decode bytes pc = .ok (.arraylength, 1)) (hp : pc + 1 = pc') (k : Go p e below P (T.setTop (mkF m pc' L (.int z :: st)))) : Go p e below P (T.setTop (mkF m pc L (.ref a :: st))) := by
  subst hp
  obtain ⟨hM, vm0, k0, locs, X, h1, h2, h3, h4, h5, h6, h7, h8, h9, hO⟩ := id H
  obtain ⟨cl, Ar, q1, S1, q3, H1, G1⟩ := A
  refine Go.st (fun t kk => X.arraylength H.exec (cell := cl) (by rw [h1]; exact Ar.1) (State.isArrayOf_alike (s := Z) h4.alike Ar.2.1) (g := mkF m pc L (.ref a :: st)) rfl rfl (H.dec hd) t ?_) k
  rw [len_of S1 q3]; exact kk
theorem G.aloadN (H : Hs p l e R s m args below meth c Z a0 EL cw own n0 bytes maxL ret nm T h C S sf) {i : Fin 4} {v : Value} {pc pc' : Nat} {L : Array Slot} {st : List Value} (hd : decode bytes pc = .ok (.aload_n i, 1)) (hp : pc + 1 = pc') (hl : L[i.val]? = some (.val v)) (hv : v.isRef = true) (k : Go p e below P (T.setTop (mkF m pc' L (v :: st)))) : Go p e below P (T.setTop (mkF m pc L (st))) := by
  subst hp
  exact Go.st (fun t kk => XS.aloadN H.here H.exec (g := mkF m pc L (st)) rfl (H.dec hd) hl hv kk) k
theorem G.aload (H : Hs p l e R s m args below meth c Z a0 EL cw own n0 bytes maxL ret nm T h C S sf) {i : Nat} {v : Value} {pc pc' : Nat} {L : Array Slot} {st : List Value} (hd : decode bytes pc = .ok (.aload i, 2)) (hp : pc + 2 = pc') (hl : L[i]? = some (.val v)) (hv : v.isRef = true) (k : Go p e below P (T.setTop (mkF m pc' L (v :: st)))) : Go p e below P (T.setTop (mkF m pc L (st))) := by
  subst hp
  exact Go.st (fun t kk => XS.aload H.here H.exec (g := mkF m pc L (st)) rfl (H.dec hd) hl hv kk) k
theorem G.iloadN (H : Hs p l e R s m args below meth c Z a0 EL cw own n0 bytes maxL ret nm T h C S sf) {i : Fin 4} {v : Int32} {pc pc' : Nat} {L : Array Slot} {st : List Value} (hd : decode bytes pc = .ok (.iload_n i, 1)) (hp : pc + 1 = pc') (hl : L[i.val]? = some (.val (.int v))) (k : Go p e below P (T.setTop (mkF m pc' L (.int v :: st)))) : Go p e below P (T.setTop (mkF m pc L (st))) := by
  subst hp
  exact Go.st (fun t kk => XS.iloadN H.here H.exec (g := mkF m pc L (st)) rfl (H.dec hd) hl kk) k
theorem G.iload (H : Hs p l e R s m args below meth c Z a0 EL cw own n0 bytes maxL ret nm T h C S sf) {i : Nat} {v : Int32} {pc pc' : Nat} {L : Array Slot} {st : List Value} (hd : decode bytes pc = .ok (.iload i, 2)) (hp : pc + 2 = pc') (hl : L[i]? = some (.val (.int v))) (k : Go p e below P (T.setTop (mkF m pc' L (.int v :: st)))) : Go p e below P (T.setTop (mkF m pc L (st))) := by
  subst hp
  exact Go.st (fun t kk => XS.iload H.here H.exec (g := mkF m pc L (st)) rfl (H.dec hd) hl kk) k
theorem G.iconst (H : Hs p l e R s m args below meth c Z a0 EL cw own n0 bytes maxL ret nm T h C S sf) {i : Int} {v : Int32} {pc pc' : Nat} {L : Array Slot} {st : List Value} (hd : decode bytes pc = .ok (.iconst i, 1)) (hp : pc + 1 = pc') (hv : Int32.ofInt i = v) (k : Go p e below P (T.setTop (mkF m pc' L (.int v :: st)))) : Go p e below P (T.setTop (mkF m pc L (st))) := by
  subst hp; subst hv
  exact Go.st (fun t kk => XS.iconst H.here H.exec (g := mkF m pc L (st)) rfl (H.dec hd) kk) k
theorem G.bipush (H : Hs p l e R s m args below meth c Z a0 EL cw own n0 bytes maxL ret nm T h C S sf) {i : Int} {v : Int32} {pc pc' : Nat} {L : Array Slot} {st : List Value} (hd : decode bytes pc = .ok (.bipush i, 2)) (hp : pc + 2 = pc') (hv : (Int8.ofInt i).toInt32 = v) (k : Go p e below P (T.setTop (mkF m pc' L (.int v :: st)))) : Go p e below P (T.setTop (mkF m pc L (st))) := by
  subst hp; subst hv
  exact Go.st (fun t kk => XS.bipush H.here H.exec (g := mkF m pc L (st)) rfl (H.dec hd) kk) k
theorem G.sipush (H : Hs p l e R s m args below meth c Z a0 EL cw own n0 bytes maxL ret nm T h C S sf) {i : Int} {v : Int32} {pc pc' : Nat} {L : Array Slot} {st : List Value} (hd : decode bytes pc = .ok (.sipush i, 3)) (hp : pc + 3 = pc') (hv : (Int16.ofInt i).toInt32 = v) (k : Go p e below P (T.setTop (mkF m pc' L (.int v :: st)))) : Go p e below P (T.setTop (mkF m pc L (st))) := by
  subst hp; subst hv
  exact Go.st (fun t kk => XS.sipush H.here H.exec (g := mkF m pc L (st)) rfl (H.dec hd) kk) k
theorem G.aconstNull (H : Hs p l e R s m args below meth c Z a0 EL cw own n0 bytes maxL ret nm T h C S sf) {pc pc' : Nat} {L : Array Slot} {st : List Value} (hd : decode bytes pc = .ok (.aconst_null, 1)) (hp : pc + 1 = pc') (k : Go p e below P (T.setTop (mkF m pc' L (.null :: st)))) : Go p e below P (T.setTop (mkF m pc L (st))) := by
  subst hp
  exact Go.st (fun t kk => XS.aconstNull H.here H.exec (g := mkF m pc L (st)) rfl (H.dec hd) kk) k
theorem G.isub (H : Hs p l e R s m args below meth c Z a0 EL cw own n0 bytes maxL ret nm T h C S sf) {x y : Int32} {pc pc' : Nat} {L : Array Slot} {st : List Value} (hd : decode bytes pc = .ok (.isub, 1)) (hp : pc + 1 = pc') (k : Go p e below P (T.setTop (mkF m pc' L (.int (x - y) :: st)))) : Go p e below P (T.setTop (mkF m pc L (.int y :: .int x :: st))) := by
  subst hp
  exact Go.st (fun t kk => XS.isub H.here H.exec (g := mkF m pc L (.int y :: .int x :: st)) rfl (H.dec hd) rfl kk) k
theorem G.iand (H : Hs p l e R s m args below meth c Z a0 EL cw own n0 bytes maxL ret nm T h C S sf) {x y : Int32} {pc pc' : Nat} {L : Array Slot} {st : List Value} (hd : decode bytes pc = .ok (.iand, 1)) (hp : pc + 1 = pc') (k : Go p e below P (T.setTop (mkF m pc' L (.int (x &&& y) :: st)))) : Go p e below P (T.setTop (mkF m pc L (.int y :: .int x :: st))) := by
  subst hp
  exact Go.st (fun t kk => XS.iand H.here H.exec (g := mkF m pc L (.int y :: .int x :: st)) rfl (H.dec hd) rfl kk) k
theorem G.iushr (H : Hs p l e R s m args below meth c Z a0 EL cw own n0 bytes maxL ret nm T h C S sf) {x y : Int32} {pc pc' : Nat} {L : Array Slot} {st : List Value} (hd : decode bytes pc = .ok (.iushr, 1)) (hp : pc + 1 = pc') (k : Go p e below P (T.setTop (mkF m pc' L (.int (XT.ushr x y) :: st)))) : Go p e below P (T.setTop (mkF m pc L (.int y :: .int x :: st))) := by
  subst hp
  exact Go.st (fun t kk => XT.iushr H.here H.exec (g := mkF m pc L (.int y :: .int x :: st)) rfl (H.dec hd) rfl kk) k
theorem G.i2b (H : Hs p l e R s m args below meth c Z a0 EL cw own n0 bytes maxL ret nm T h C S sf) {x : Int32} {pc pc' : Nat} {L : Array Slot} {st : List Value} (hd : decode bytes pc = .ok (.i2b, 1)) (hp : pc + 1 = pc') (k : Go p e below P (T.setTop (mkF m pc' L (.int (x.toInt8.toInt32) :: st)))) : Go p e below P (T.setTop (mkF m pc L (.int x :: st))) := by
  subst hp
  exact Go.st (fun t kk => XT.i2b H.here H.exec (g := mkF m pc L (.int x :: st)) rfl (H.dec hd) rfl kk) k
theorem G.i2c (H : Hs p l e R s m args below meth c Z a0 EL cw own n0 bytes maxL ret nm T h C S sf) {x y : Int32} {pc pc' : Nat} {L : Array Slot} {st : List Value} (hd : decode bytes pc = .ok (.i2c, 1)) (hp : pc + 1 = pc') (hy : x.toUInt32.toUInt16.toUInt32.toInt32 = y) (k : Go p e below P (T.setTop (mkF m pc' L (.int y :: st)))) : Go p e below P (T.setTop (mkF m pc L (.int x :: st))) := by
  subst hp; subst hy
  exact Go.st (fun t kk => XT.i2c H.here H.exec (g := mkF m pc L (.int x :: st)) rfl (H.dec hd) rfl kk) k
theorem G.dup (H : Hs p l e R s m args below meth c Z a0 EL cw own n0 bytes maxL ret nm T h C S sf) {x : Value} {pc pc' : Nat} {L : Array Slot} {st : List Value} (hd : decode bytes pc = .ok (.dup, 1)) (hp : pc + 1 = pc') (hc : x.category = 1) (k : Go p e below P (T.setTop (mkF m pc' L (x :: x :: st)))) : Go p e below P (T.setTop (mkF m pc L (x :: st))) := by
  subst hp
  exact Go.st (fun t kk => XS.dup H.here H.exec (g := mkF m pc L (x :: st)) rfl (H.dec hd) rfl hc kk) k
theorem G.istoreN (H : Hs p l e R s m args below meth c Z a0 EL cw own n0 bytes maxL ret nm T h C S sf) {i : Fin 4} {x : Int32} {L' : Array Slot} {pc pc' : Nat} {L : Array Slot} {st : List Value} (hd : decode bytes pc = .ok (.istore_n i, 1)) (hp : pc + 1 = pc') (hl : storeLocals L i.val (.int x) = some L') (k : Go p e below P (T.setTop (mkF m pc' L' (st)))) : Go p e below P (T.setTop (mkF m pc L (.int x :: st))) := by
  subst hp
  exact Go.st (fun t kk => XS.istoreN H.here H.exec (g := mkF m pc L (.int x :: st)) rfl (H.dec hd) rfl hl kk) k
theorem G.istore (H : Hs p l e R s m args below meth c Z a0 EL cw own n0 bytes maxL ret nm T h C S sf) {i : Nat} {x : Int32} {L' : Array Slot} {pc pc' : Nat} {L : Array Slot} {st : List Value} (hd : decode bytes pc = .ok (.istore i, 2)) (hp : pc + 2 = pc') (hl : storeLocals L i (.int x) = some L') (k : Go p e below P (T.setTop (mkF m pc' L' (st)))) : Go p e below P (T.setTop (mkF m pc L (.int x :: st))) := by
  subst hp
  exact Go.st (fun t kk => XS.istore H.here H.exec (g := mkF m pc L (.int x :: st)) rfl (H.dec hd) rfl hl kk) k
theorem G.astoreN (H : Hs p l e R s m args below meth c Z a0 EL cw own n0 bytes maxL ret nm T h C S sf) {i : Fin 4} {x : Value} {L' : Array Slot} {pc pc' : Nat} {L : Array Slot} {st : List Value} (hd : decode bytes pc = .ok (.astore_n i, 1)) (hp : pc + 1 = pc') (hv : x.isRef = true) (hl : storeLocals L i.val x = some L') (k : Go p e below P (T.setTop (mkF m pc' L' (st)))) : Go p e below P (T.setTop (mkF m pc L (x :: st))) := by
  subst hp
  exact Go.st (fun t kk => XS.astoreN H.here H.exec (g := mkF m pc L (x :: st)) rfl (H.dec hd) rfl hv hl kk) k
theorem G.astore (H : Hs p l e R s m args below meth c Z a0 EL cw own n0 bytes maxL ret nm T h C S sf) {i : Nat} {x : Value} {L' : Array Slot} {pc pc' : Nat} {L : Array Slot} {st : List Value} (hd : decode bytes pc = .ok (.astore i, 2)) (hp : pc + 2 = pc') (hv : x.isRef = true) (hl : storeLocals L i x = some L') (k : Go p e below P (T.setTop (mkF m pc' L' (st)))) : Go p e below P (T.setTop (mkF m pc L (x :: st))) := by
  subst hp
  exact Go.st (fun t kk => XS.astore H.here H.exec (g := mkF m pc L (x :: st)) rfl (H.dec hd) rfl hv hl kk) k
theorem G.iinc (H : Hs p l e R s m args below meth c Z a0 EL cw own n0 bytes maxL ret nm T h C S sf) {i : Nat} {cst : Int} {x v : Int32} {L' : Array Slot} {pc pc' : Nat} {L : Array Slot} {st : List Value} (hd : decode bytes pc = .ok (.iinc i cst, 3)) (hp : pc + 3 = pc') (hl : L[i]? = some (.val (.int x))) (hv : x + Int32.ofInt cst = v) (hl' : storeLocals L i (.int v) = some L') (k : Go p e below P (T.setTop (mkF m pc' L' (st)))) : Go p e below P (T.setTop (mkF m pc L (st))) := by
  subst hp; subst hv
  exact Go.st (fun t kk => XS.iinc H.here H.exec (g := mkF m pc L (st)) rfl (H.dec hd) hl hl' kk) k
theorem G.goto (H : Hs p l e R s m args below meth c Z a0 EL cw own n0 bytes maxL ret nm T h C S sf) {o : Int} {pc pc' : Nat} {L : Array Slot} {st : List Value} (hd : decode bytes pc = .ok (.goto o, 3)) (ho : 0 ≤ (pc : Int) + o) (hp : ((pc : Int) + o).toNat = pc') (k : Go p e below P (T.setTop (mkF m pc' L (st)))) : Go p e below P (T.setTop (mkF m pc L (st))) :=
  Go.st (fun t kk => XS.goto H.here H.exec (g := mkF m pc L (st)) rfl (pc0 := pc) rfl (H.dec hd) ho hp kk) k
theorem G.ifYes (H : Hs p l e R s m args below meth c Z a0 EL cw own n0 bytes maxL ret nm T h C S sf) {cd : ClassFile.Cond} {x : Int32} {o : Int} {pc pc' : Nat} {L : Array Slot} {st : List Value} (hd : decode bytes pc = .ok (.ifCond cd o, 3)) (hc : ifCond.holds cd x = true) (ho : 0 ≤ (pc : Int) + o) (hp : ((pc : Int) + o).toNat = pc') (k : Go p e below P (T.setTop (mkF m pc' L (st)))) : Go p e below P (T.setTop (mkF m pc L (.int x :: st))) :=
  Go.st (fun t kk => XS.ifYes H.here H.exec (g := mkF m pc L (.int x :: st)) rfl (pc0 := pc) rfl (H.dec hd) rfl hc ho hp kk) k
theorem G.icmpYes (H : Hs p l e R s m args below meth c Z a0 EL cw own n0 bytes maxL ret nm T h C S sf) {cd : ClassFile.Cond} {x y : Int32} {o : Int} {pc pc' : Nat} {L : Array Slot} {st : List Value} (hd : decode bytes pc = .ok (.if_icmp cd o, 3)) (hc : if_icmp.holds cd x y = true) (ho : 0 ≤ (pc : Int) + o) (hp : ((pc : Int) + o).toNat = pc') (k : Go p e below P (T.setTop (mkF m pc' L (st)))) : Go p e below P (T.setTop (mkF m pc L (.int y :: .int x :: st))) :=
  Go.st (fun t kk => XS.icmpYes H.here H.exec (g := mkF m pc L (.int y :: .int x :: st)) rfl (pc0 := pc) rfl (H.dec hd) rfl hc ho hp kk) k
theorem G.ifnullYes (H : Hs p l e R s m args below meth c Z a0 EL cw own n0 bytes maxL ret nm T h C S sf) {o : Int} {pc pc' : Nat} {L : Array Slot} {st : List Value} (hd : decode bytes pc = .ok (.ifnull o, 3)) (ho : 0 ≤ (pc : Int) + o) (hp : ((pc : Int) + o).toNat = pc') (k : Go p e below P (T.setTop (mkF m pc' L (st)))) : Go p e below P (T.setTop (mkF m pc L (.null :: st))) :=
  Go.st (fun t kk => XS.ifnullYes H.here H.exec (g := mkF m pc L (.null :: st)) rfl (pc0 := pc) rfl (H.dec hd) rfl ho hp kk) k
theorem G.acmpYes (H : Hs p l e R s m args below meth c Z a0 EL cw own n0 bytes maxL ret nm T h C S sf) {cd : ClassFile.ACond} {x y : Value} {o : Int} {pc pc' : Nat} {L : Array Slot} {st : List Value} (hd : decode bytes pc = .ok (.if_acmp cd o, 3)) (hx' : x.isRef = true) (hy' : y.isRef = true) (hc : XT.acmp cd x y = true) (ho : 0 ≤ (pc : Int) + o) (hp : ((pc : Int) + o).toNat = pc') (k : Go p e below P (T.setTop (mkF m pc' L (st)))) : Go p e below P (T.setTop (mkF m pc L (y :: x :: st))) :=
  Go.st (fun t kk => XT.acmpYes H.here H.exec (g := mkF m pc L (y :: x :: st)) rfl (pc0 := pc) rfl (H.dec hd) rfl hx' hy' hc ho hp kk) k
theorem G.ifNo (H : Hs p l e R s m args below meth c Z a0 EL cw own n0 bytes maxL ret nm T h C S sf) {cd : ClassFile.Cond} {o : Int} {x : Int32} {pc pc' : Nat} {L : Array Slot} {st : List Value} (hd : decode bytes pc = .ok (.ifCond cd o, 3)) (hp : pc + 3 = pc') (hc : ifCond.holds cd x = false) (k : Go p e below P (T.setTop (mkF m pc' L (st)))) : Go p e below P (T.setTop (mkF m pc L (.int x :: st))) := by
  subst hp
  exact Go.st (fun t kk => XS.ifNo H.here H.exec (g := mkF m pc L (.int x :: st)) rfl (H.dec hd) rfl hc kk) k
theorem G.icmpNo (H : Hs p l e R s m args below meth c Z a0 EL cw own n0 bytes maxL ret nm T h C S sf) {cd : ClassFile.Cond} {o : Int} {x y : Int32} {pc pc' : Nat} {L : Array Slot} {st : List Value} (hd : decode bytes pc = .ok (.if_icmp cd o, 3)) (hp : pc + 3 = pc') (hc : if_icmp.holds cd x y = false) (k : Go p e below P (T.setTop (mkF m pc' L (st)))) : Go p e below P (T.setTop (mkF m pc L (.int y :: .int x :: st))) := by
  subst hp
  exact Go.st (fun t kk => XS.icmpNo H.here H.exec (g := mkF m pc L (.int y :: .int x :: st)) rfl (H.dec hd) rfl hc kk) k
theorem G.ifnullNo (H : Hs p l e R s m args below meth c Z a0 EL cw own n0 bytes maxL ret nm T h C S sf) {o : Int} {b : Addr} {pc pc' : Nat} {L : Array Slot} {st : List Value} (hd : decode bytes pc = .ok (.ifnull o, 3)) (hp : pc + 3 = pc') (k : Go p e below P (T.setTop (mkF m pc' L (st)))) : Go p e below P (T.setTop (mkF m pc L (.ref b :: st))) := by
  subst hp
  exact Go.st (fun t kk => XS.ifnullNo H.here H.exec (g := mkF m pc L (.ref b :: st)) rfl (H.dec hd) rfl kk) k
theorem G.acmpNo (H : Hs p l e R s m args below meth c Z a0 EL cw own n0 bytes maxL ret nm T h C S sf) {cd : ClassFile.ACond} {o : Int} {x y : Value} {pc pc' : Nat} {L : Array Slot} {st : List Value} (hd : decode bytes pc = .ok (.if_acmp cd o, 3)) (hp : pc + 3 = pc') (hx' : x.isRef = true) (hy' : y.isRef = true) (hc : XT.acmp cd x y = false) (k : Go p e below P (T.setTop (mkF m pc' L (st)))) : Go p e below P (T.setTop (mkF m pc L (y :: x :: st))) := by
  subst hp
  exact Go.st (fun t kk => XT.acmpNo H.here H.exec (g := mkF m pc L (y :: x :: st)) rfl (H.dec hd) rfl hx' hy' hc kk) k
theorem Hs.ext {T' : State} {h' : Heap} {C' S' : Nat} {vm0 : Vm} {k0 : Nat} {locs : List Loc} (H : Hs p l e R s m args below meth c Z a0 EL cw own n0 bytes maxL ret nm T h C S sf) (X' : Stand p l e R (s.setVm vm0) m args below meth c T' locs C' S') (e' : T'.heap = h') (E : Ext h h') (h2 : s.Since vm0 k0) (h3 : k0 ≤ h.size) (h4 : Z.Warmed39 vm0) (h5 : vm0.findClass own = some m.cls) (h6 : Fr n0 locs) (h7 : CHr Z EL s.vm s.heap vm0 h) (h8 : ∀ x ∈ sf, x < h.size ∧ Safe Z EL vm0 h x) (h9 : cw ∨ s.WarmedH vm0) (hO : Old Z n0 h) (hlt : h.size < h'.size) : Hs p l e R s m args below meth c Z a0 EL cw own n0 bytes maxL ret nm T' h' C' S' (h.size :: sf) :=
  ⟨H.1, vm0, k0, locs, X', e', h2, Nat.le_trans h3 E.1, h4, h5, h6, h7.trans (CHr.ext E h7.1), fun x hx => by
    rcases List.mem_cons.mp hx with rfl | hx
    · exact ⟨hlt, Safe.ext E h7.1 (Safe.new (Nat.le_refl _))⟩
    · exact ⟨Nat.lt_of_lt_of_le (h8 x hx).1 E.1, Safe.ext E h7.1 (h8 x hx).2⟩, h9, hO.ext E⟩
theorem G.new (H : Hs p l e R s m args below meth c Z a0 EL cw own n0 bytes maxL ret nm T h C S sf) {K : String} {index n : Nat} (w : (Cond.classLink own index K).before a0 Z = true) (wi : (Cond.instantiable K n).before a0 Z = true) (wz : (Cond.initialized K).before a0 Z = true) {pc pc' : Nat} {L : Array Slot} {st : List Value} (hd : decode bytes pc = .ok (.new index, 3)) (hp : pc + 3 = pc') (hc : C + 1 ≤ R.cells) (hl : S + n ≤ R.slots)
    (k : ∀ T' h' a, a = h.size → Hs p l e R s m args below meth c Z a0 EL cw own n0 bytes maxL ret nm T' h' (C + 1) (S + n) (a :: sf) → Ext h h' → Exa Z h' a K → (∀ {O nm' d : String} {ty : FieldType}, Laid Z a0 K O nm' d → parseFieldDescriptor d = some ty → Fld Z h' a O nm' d (defaultValue ty)) → Go p e below P (T'.setTop (mkF m pc' L (.ref a :: st)))) : Go p e below P (T.setTop (mkF m pc L st)) := by
  subst hp
  obtain ⟨hM, vm0, k0, locs, X, h1, h2, h3, h4, h5, h6, h7, h8, h9, hO⟩ := id H
  obtain ⟨T', h', X', e', E, A, D, -, st'⟩ := RoadKit.newO X H.exec h4 h5 w wi wz h1 (g := mkF m pc L st) rfl (H.dec hd) hc hl
  exact Go.st st' (k T' h' _ rfl (H.ext X' e' E h2 h3 h4 h5 h6 h7 h8 h9 hO A.lt) E A D)
theorem G.newP (H : Hs p l e R s m args below meth c Z a0 EL cw own n0 bytes maxL ret nm T h C S sf) {aty : ArrayType} (w : (Cond.arrayClass (newarray.typeOf aty)).before a0 Z = true) {z : Int32} {pc pc' : Nat} {L : Array Slot} {st : List Value} (hd : decode bytes pc = .ok (.newarray aty, 2)) (hp : pc + 2 = pc') (hn : ¬ z < 0) {cap : Nat} (hcap : z.toNatClampNeg ≤ cap) (hb : cap * 8 ≤ 536870912) (hc : C + 1 ≤ R.cells) (hl : S + cap ≤ R.slots) {vs : List Value} (hvs : List.replicate z.toNatClampNeg (defaultValue (newarray.typeOf aty)) = vs) {ad : String} (had : "[" ++ (newarray.typeOf aty).toString = ad)
    (k : ∀ T' h' a kc, a = h.size → Hs p l e R s m args below meth c Z a0 EL cw own n0 bytes maxL ret nm T' h' (C + 1) (S + cap) (a :: sf) → Ext h h' → Arv Z h' a kc (newarray.typeOf aty) z vs (defaultValue (newarray.typeOf aty)) → Exa Z h' a ad → Go p e below P (T'.setTop (mkF m pc' L (.ref a :: st)))) : Go p e below P (T.setTop (mkF m pc L (.int z :: st))) := by
  subst hp
  obtain ⟨hM, vm0, k0, locs, X, h1, h2, h3, h4, h5, h6, h7, h8, h9, hO⟩ := id H
  obtain ⟨T', h', cA, X', e', E, A, EX, st'⟩ := RoadKit.newPE X H.exec h4 w h1 (g := mkF m pc L (.int z :: st)) rfl (H.dec hd) rfl hn hcap hb hc hl had
  refine Go.st st' (k T' h' _ cA rfl (H.ext X' e' E h2 h3 h4 h5 h6 h7 h8 h9 hO A.lt) E ?_ EX)
  subst hvs
  exact (Arv.new A hn).pad (fun i => by simpa using pad_rep [] (defaultValue (newarray.typeOf aty)) z.toNatClampNeg i)
theorem Hs.wr {T' : State} {h' : Heap} {vm0 : Vm} {k0 : Nat} {locs : List Loc} {a : Addr} {sl : Nat} {v : Value} (H : Hs p l e R s m args below meth c Z a0 EL cw own n0 bytes maxL ret nm T h C S sf) (X' : Stand p l e R (s.setVm vm0) m args below meth c T' (locs ++ [⟨a, sl⟩]) C S) (e' : T'.heap = h') (W : Wr h h' a sl v) (q : n0 ≤ a) (sa : Safe Z EL vm0 h a) (h2 : s.Since vm0 k0) (h3 : k0 ≤ h.size) (h4 : Z.Warmed39 vm0) (h5 : vm0.findClass own = some m.cls) (h6 : Fr n0 locs) (h7 : CHr Z EL s.vm s.heap vm0 h) (h8 : ∀ x ∈ sf, x < h.size ∧ Safe Z EL vm0 h x) (h9 : cw ∨ s.WarmedH vm0) (hO : Old Z n0 h) : Hs p l e R s m args below meth c Z a0 EL cw own n0 bytes maxL ret nm T' h' C S sf :=
  ⟨H.1, vm0, k0, locs ++ [⟨a, sl⟩], X', e', h2, by rw [W.size]; exact h3, h4, h5, Fr.snoc X' h6 q, h7.trans (CHr.wr W sa h7.1), fun x hx => ⟨by rw [W.size]; exact (h8 x hx).1, Safe.wr W sa h7.1 (h8 x hx).2⟩, h9, hO.wr W q⟩
theorem G.putF (H : Hs p l e R s m args below meth c Z a0 EL cw own n0 bytes maxL ret nm T h C S sf) {R0 O n d K : String} {index kk : Nat} {ty : FieldType} (w : (Cond.fieldLink own index R0 n d).before a0 Z = true) (via : Via Z R0 O n d) {a : Addr} {v old : Value} (F : Fld Z h a O n d old) (E : Exa Z h a K) (Ly : (Cond.lays K O n d).before a0 Z = true ∨ ((Cond.laysFinal K O n d).before a0 Z = true ∧ own = O ∧ nm = "<init>")) (wi : (Cond.instantiable K kk).before a0 Z = true) (hty : parseFieldDescriptor d = some ty) (hn : narrow ty v = v) (hf : fits ty v = true) (hq : n0 ≤ a) (hsf : Sf Z EL h sf a) {pc pc' : Nat} {L : Array Slot} {st : List Value} (hd : decode bytes pc = .ok (.putfield index, 3)) (hp : pc + 3 = pc')
    (k : ∀ T' h', Hs p l e R s m args below meth c Z a0 EL cw own n0 bytes maxL ret nm T' h' C S sf → Wr h h' a (RoadKit.slotOf Z O n d) v → Go p e below P (T'.setTop (mkF m pc' L st))) : Go p e below P (T.setTop (mkF m pc L (v :: .ref a :: st))) := by
  subst hp
  obtain ⟨hM, vm0, k0, locs, X, h1, h2, h3, h4, h5, h6, h7, h8, h9, hO⟩ := id H
  obtain ⟨T', h', X', e', W, st'⟩ := RoadKit.putF X H.exec h4 (host := "") h5 (Or.inl w) via h1 F E (Ly.imp id (fun q => ⟨q.1, q.2.1, hM.2.2.2.2.2.2.1.trans q.2.2⟩)) wi hty hn hf (g := mkF m pc L (v :: .ref a :: st)) rfl rfl (H.dec hd)
  exact Go.st st' (k T' h' (H.wr X' e' W hq (hsf.safe h4 h8) h2 h3 h4 h5 h6 h7 h8 h9 hO) W)
theorem G.stC (H : Hs p l e R s m args below meth c Z a0 EL cw own n0 bytes maxL ret nm T h C S sf) {a : Addr} {kc : ClassId} {z : Int32} {vs : List Value} {dv : Value} (A : Arv Z h a kc .char z vs dv) {j x : Int32} (hj : ¬ j < 0 ∧ j < z) {i : Nat} (hi : j.toNatClampNeg = i) (hlt : i < vs.length) (hq : n0 ≤ a) {y : Int32} (hy : nar .char x = y) {pc pc' : Nat} {L : Array Slot} {st : List Value} (hd : decode bytes pc = .ok (.castore, 1)) (hp : pc + 1 = pc')
    (k : ∀ T' h', Hs p l e R s m args below meth c Z a0 EL cw own n0 bytes maxL ret nm T' h' C S sf → Wr h h' a i (.int y) → Arv Z h' a kc .char z (vs.set i (.int y)) dv → Go p e below P (T'.setTop (mkF m pc' L st))) : Go p e below P (T.setTop (mkF m pc L (.int x :: .int j :: .ref a :: st))) := by
  subst hp; subst hi; subst hy
  obtain ⟨hM, vm0, k0, locs, X, h1, h2, h3, h4, h5, h6, h7, h8, h9, hO⟩ := id H
  obtain ⟨cl, Ar, q1, S1, q3, H1, G1⟩ := A
  obtain ⟨T', h', X', e', W, st'⟩ := RoadKit.stC X H.exec h4 h1 Ar (inb_of S1 hj) (g := mkF m pc L (.int x :: .int j :: .ref a :: st)) rfl rfl (H.dec hd)
  exact Go.st st' (k T' h' (H.wr X' e' W hq (Safe.arr h4.alike Ar (by decide)) h2 h3 h4 h5 h6 h7 h8 h9 hO) W (Arv.set Ar q1 S1 q3 H1 G1 (fits_nar_char x) W _ rfl hlt))
theorem Hs.rebase {T' : State} {h' : Heap} {C' S' : Nat} {vm0 : Vm} {k1 : Nat} {locs : List Loc} (H : Hs p l e R s m args below meth c Z a0 EL cw own n0 bytes maxL ret nm T h C S sf) (hcw : cw) (X' : Stand p l e R (s.setVm T'.vm) m args below meth c T' locs C' S') (e' : T'.heap = h') (h2 : s.Since T'.vm k1) (h3 : k1 ≤ h'.size) (h4 : Z.Warmed39 T'.vm) (h5 : T'.vm.findClass own = some m.cls) (h6 : Fr n0 locs) (h7 : CHr Z EL s.vm s.heap vm0 h) (h7' : CHr Z EL vm0 h T'.vm h') (h8 : ∀ x ∈ sf, x < h.size ∧ Safe Z EL vm0 h x) (hO : Old Z n0 h') : Hs p l e R s m args below meth c Z a0 EL cw own n0 bytes maxL ret nm T' h' C' S' sf :=
  ⟨H.1, T'.vm, k1, locs, X', e', h2, h3, h4, h5, h6, h7.trans h7', fun x hx => ⟨Nat.lt_of_lt_of_le (h8 x hx).1 h7'.2.1, h7'.safe (h8 x hx).1 (h8 x hx).2⟩, Or.inl hcw, hO⟩
theorem G.ldcS (H : Hs p l e R s m args below meth c Z a0 EL cw own n0 bytes maxL ret nm T h C S sf) (hcw : cw) (wS : ∀ a ∈ Bundle.stringAtoms, a.before a0 Z = true) {index : Nat} {text : String} (w : (Cond.stringLink own index text).before a0 Z = true) (hmem : (own, index) ∈ EL) {vs : List Value} {z : Int32} (ht : (∀ c ∈ text.toList, c.toNat < 256) ∧ text.toList.map (fun c => Value.int (Jvm.Lit.byteI c.toNat.toUInt16)) = vs) (hz : ¬ z < 0) (hl : z.toNatClampNeg = vs.length) {n : Nat} (hn : 4 * text.toList.length ≤ n) (hbig : n ≤ 536870912) (hc : C + 2 ≤ R.cells) (hl' : S + (n + 4) ≤ R.slots) {pc pc' : Nat} {L : Array Slot} {st : List Value} (hd : decode bytes pc = .ok (.ldc index, 2)) (hp : pc + 2 = pc')
    (k : ∀ T' h' a b kb, Hs p l e R s m args below meth c Z a0 EL cw own n0 bytes maxL ret nm T' h' (C + 2) (S + (n + 4)) sf → Ext h h' → Exa Z h' a "java/lang/String" → Fld Z h' a "java/lang/String" "coder" "B" (.int 0) → Fld Z h' a "java/lang/String" "value" "[B" (.ref b) → Arv Z h' b kb .byte z vs (.int 0) → (∀ x ∈ sf, x ≠ a ∧ x ≠ b) → Go p e below P (T'.setTop (mkF m pc' L (.ref a :: st)))) : Go p e below P (T.setTop (mkF m pc L st)) := by
  subst hp
  obtain ⟨hM, vm0, k0, locs, X, h1, h2, h3, h4, h5, h6, h7, h8, h9, hO⟩ := id H
  obtain ⟨a, T', h', k1, b, kb, X', e', E, s2, s3, s4, s5, F1, F2, F3, F4, -, -, h7', -, hne, st'⟩ := RoadKit.ldcCH X H.exec h4 h5 w wS h1 h2 h3 hM.2.1 hmem h7.1 ht hz hl (g := mkF m pc L st) rfl (H.dec hd) hn hbig hc hl'
  exact Go.st st' (k T' h' a b kb (H.rebase hcw X' e' s2 s3 s4 s5 h6 h7 h7' h8 (hO.ext E)) E F1 F2 F3 F4 (fun x hx => hne x (h7'.safe (h8 x hx).1 (h8 x hx).2)))
def FinP (s : State) (below : List Frame) (Z : State) (EL : List (String × Nat)) (cw : Prop) (n0 Cm Sm : Nat) (Q : Option Value → Heap → List Addr → Prop) : State → Outcome → Prop := fun u o =>
  u.status = .running ∧ Ended u below o ∧ ∃ v L so, o = .returned v ∧ Q v u.heap so ∧ Old Z n0 u.heap ∧ Fr n0 L ∧ CHr Z EL s.vm s.heap u.vm u.heap ∧ (∀ x ∈ so, x < u.heap.size ∧ Safe Z EL u.vm u.heap x) ∧ ReturnedEndW s o u L Cm Sm ∧ (cw ∨ FrameEnd s o u L Cm Sm)
theorem Hs.leave (H : Hs p l e R s m args below meth c Z a0 EL cw own n0 bytes maxL ret nm T h C S sf) {Cm Sm : Nat} {Q : Option Value → Heap → List Addr → Prop} {v : Option Value} {so : List Addr} (hv : ret = none → v = none) (hQ : Q v h so) (hso : ∀ x ∈ so, x ∈ sf) (hC : C ≤ Cm) (hS : S ≤ Sm) :
    ∃ fs, (∀ (f : JFrame) (acts : List Action), f.method = m → f.locked = none → f.entered = [] → (doReturn e (T.setTop f) acts v).1 = T.setFrames fs) ∧ FinP s below Z EL cw n0 Cm Sm Q (T.setFrames fs) (.returned v) := by
  obtain ⟨hM, vm0, k0, locs, X, h1, h2, h3, h4, h5, h6, h7, h8, h9, hO⟩ := H
  obtain ⟨-, hEL, -, -, hret, hlocks, -, -⟩ := hM
  obtain ⟨fs, hr, hrun, hended, hW, hsame⟩ := X.leave (v := v) (fun q => hv (hret.symm.trans q)) hlocks
  have hk : k0 ≤ (T.setFrames fs).heap.size := by show k0 ≤ T.heap.size; rw [h1]; exact h3
  obtain ⟨w1, w2, w3⟩ := h2.ended (U := T.setFrames fs) hW hk hsame
  have A := CHv.at X h4 hEL h7.1
  refine ⟨fs, hr, hrun, hended, v, locs, so, rfl, ?_, ?_, h6, ?_, ?_, ⟨⟨v, rfl⟩, w1, w2, w3.mono hC hS⟩, ?_⟩
  · show Q v T.heap so; rw [h1]; exact hQ
  · show Old Z n0 T.heap; rw [h1]; exact hO
  · show CHr Z EL s.vm s.heap T.vm T.heap; rw [h1]; exact h7.trans A
  · intro x hx
    show x < T.heap.size ∧ Safe Z EL T.vm T.heap x
    rw [h1]; exact ⟨(h8 x (hso x hx)).1, A.safe (h8 x (hso x hx)).1 (h8 x (hso x hx)).2⟩
  · exact h9.imp id (fun q => ⟨⟨v, rfl⟩, State.WarmedH.trans (t := s.setVm vm0) q hW, w3.mono hC hS⟩)
theorem G.retG (H : Hs p l e R s m args below meth c Z a0 EL cw own n0 bytes maxL ret nm T h C S sf) {Cm Sm : Nat} {Q : Option Value → Heap → List Addr → Prop} {so : List Addr} {pc : Nat} {L : Array Slot} {w : Value} {t : FieldType} {i : Instr} {rest : List Value} (hret : ret = some t) (hn : narrow t w = w)
    (hi : (i = .ireturn ∧ (t = .int ∨ t = .boolean ∨ t = .byte ∨ t = .char ∨ t = .short) ∧ ∃ z, w = .int z) ∨ (i = .lreturn ∧ t = .long ∧ ∃ z, w = .long z) ∨ (i = .dreturn ∧ t = .double ∧ ∃ z, w = .double z) ∨ (i = .freturn ∧ t = .float ∧ ∃ z, w = .float z) ∨ (i = .areturn ∧ t.isReference = true ∧ w.isRef = true))
    (hd : decode bytes pc = .ok (i, 1)) (hso : ∀ x ∈ so, x ∈ sf) (hC : C ≤ Cm) (hS : S ≤ Sm) (hQ : Q (some w) h so) : Go p e below (FinP s below Z EL cw n0 Cm Sm Q) (T.setTop (mkF m pc L (w :: rest))) := by
  obtain ⟨fs, hr, hF⟩ := H.leave (Q := Q) (v := some w) (Cm := Cm) (Sm := Sm) (fun q => by rw [hret] at q; cases q) hQ hso hC hS
  obtain ⟨hM, vm0, k0, locs, X, -⟩ := id H
  exact ⟨_, _, retOut X H.exec (hM.2.2.2.2.1.trans hret) hn hi (H.dec hd) hr, hF⟩
theorem G.retN (H : Hs p l e R s m args below meth c Z a0 EL cw own n0 bytes maxL ret nm T h C S sf) {Cm Sm : Nat} {Q : Option Value → Heap → List Addr → Prop} {so : List Addr} {pc : Nat} {L : Array Slot} {z : Int32} {t : FieldType} {rest : List Value} (hret : ret = some t) (ht : t = .boolean ∨ t = .byte ∨ t = .char ∨ t = .short) (hd : decode bytes pc = .ok (.ireturn, 1)) (hso : ∀ x ∈ so, x ∈ sf) (hC : C ≤ Cm) (hS : S ≤ Sm) (hQ : Q (some (.int (nar t z))) h so) : Go p e below (FinP s below Z EL cw n0 Cm Sm Q) (T.setTop (mkF m pc L (.int z :: rest))) := by
  obtain ⟨fs, hr, hF⟩ := H.leave (Q := Q) (v := some (.int (nar t z))) (Cm := Cm) (Sm := Sm) (fun q => by rw [hret] at q; cases q) hQ hso hC hS
  obtain ⟨hM, vm0, k0, locs, X, -⟩ := id H
  exact ⟨_, _, RoadKit.retN X H.exec (hM.2.2.2.2.1.trans hret) ht (H.dec hd) hr, hF⟩
theorem G.retA (H : Hs p l e R s m args below meth c Z a0 EL cw own n0 bytes maxL ret nm T h C S sf) {Cm Sm : Nat} {Q : Option Value → Heap → List Addr → Prop} {so : List Addr} {pc : Nat} {L : Array Slot} {w : Value} {t : FieldType} {rest : List Value} (hret : ret = some t) (ht : t.isReference = true) (hw : w.isRef = true) (hd : decode bytes pc = .ok (.areturn, 1)) (hso : ∀ x ∈ so, x ∈ sf) (hC : C ≤ Cm) (hS : S ≤ Sm) (hQ : Q (some w) h so) : Go p e below (FinP s below Z EL cw n0 Cm Sm Q) (T.setTop (mkF m pc L (w :: rest))) :=
  G.retG H hret (by rcases ref_cases hw with rfl | ⟨a, rfl⟩ <;> cases t <;> first | rfl | cases ht) (Or.inr (Or.inr (Or.inr (Or.inr ⟨rfl, ht, hw⟩)))) hd hso hC hS hQ
theorem G.retV (H : Hs p l e R s m args below meth c Z a0 EL cw own n0 bytes maxL ret nm T h C S sf) {Cm Sm : Nat} {Q : Option Value → Heap → List Addr → Prop} {so : List Addr} {pc : Nat} {L : Array Slot} (hret : ret = none) (hd : decode bytes pc = .ok (.return_, 1)) (hso : ∀ x ∈ so, x ∈ sf) (hC : C ≤ Cm) (hS : S ≤ Sm) (hQ : Q none h so) : Go p e below (FinP s below Z EL cw n0 Cm Sm Q) (T.setTop (mkF m pc L [])) := by
  obtain ⟨fs, hr, hF⟩ := H.leave (Q := Q) (v := none) (Cm := Cm) (Sm := Sm) (fun _ => rfl) hQ hso hC hS
  obtain ⟨hM, vm0, k0, locs, X, -⟩ := id H
  exact ⟨_, _, X.returnOut H.exec (hM.2.2.2.2.1.trans hret) (H.dec hd) hr, hF⟩
def Met (Z : State) (a0 : Array Value) (EL : List (String × Nat)) (cw : Prop) (n0 : Nat) (l : Launch) (y : MethodName) (bytes : ByteArray) (maxL : Nat) (ret : Option FieldType) (rm : Room) (as' : Array Value) (h : Heap) (sfI : List Addr) (Q : Option Value → Heap → List Addr → Prop) : Prop :=
  ∀ ws, MetFree l y (head1 (Cond.code y bytes maxL ret :: ws) rm) (fun a U => a = as' ∧ Z.Warmed39 U.vm ∧ U.heap = h ∧ CHv Z EL U.vm h ∧ ∀ x ∈ sfI, x < h.size ∧ Safe Z EL U.vm h x) (fun _ _ _ _ _ => True)
    (fun _ U o U' => ∃ v L so, o = .returned v ∧ Q v U'.heap so ∧ Old Z n0 U'.heap ∧ Fr n0 L ∧ CHr Z EL U.vm U.heap U'.vm U'.heap ∧ (∀ x ∈ so, x < U'.heap.size ∧ Safe Z EL U'.vm U'.heap x) ∧ ReturnedEndW U o U' L rm.cells rm.slots ∧ (cw ∨ FrameEnd U o U' L rm.cells rm.slots))
theorem Met.of {y : MethodName} {rm : Room} {as' : Array Value} {sfI : List Addr} {Q : Option Value → Heap → List Addr → Prop} {L0 : Array Slot} (hEL : EW Z a0 EL) (hpn : plainFor y = true) (hO : Old Z n0 h) (hL : Jvm.Sym.laidSlots as'.toList ++ List.replicate (maxL - (Jvm.Sym.laidSlots as'.toList).length) .unset = L0.toList)
    (body : ∀ (p : Program) (e : Env) (s : State) (m : MethodId) (below : List Frame) (meth : Method) (c : Code) (T : State), Hs p l e rm s m as' below meth c Z a0 EL cw y.cls n0 bytes maxL ret y.name T h 0 0 sfI → Go p e below (FinP s below Z EL cw n0 rm.cells rm.slots Q) (T.setTop (mkF m 0 L0 []))) : Met Z a0 EL cw n0 l y bytes maxL ret rm as' h sfI Q := by
  intro ws
  refine MetFree.of_bodySF hpn hisR ?_
  intro p e s m args below meth c s₁ Bd hml hP hK
  obtain ⟨rfl, hZ, hh, hC, hs⟩ := hP
  have X0 : Stand p l e rm (s.setVm s.vm) m args below meth c s₁ [] 0 0 := Stand.of_body Bd
  have e0 : s₁.heap = h := by rw [← hh, Bd.state]; rfl
  have H : Hs p l e rm s m args below meth c Z a0 EL cw y.cls n0 bytes maxL ret y.name s₁ h 0 0 sfI :=
    ⟨⟨Bd.exec, hEL, Bd.bytes, hml, Bd.returns, Bd.notSynchronized, (name_of_methodNamed Bd.named Bd.method).1, by rw [hh, ← hO.1]; exact hO.2.1⟩, s.vm, s.heap.size, [], X0, e0, (State.WarmedH.refl s).since _, by rw [hh]; exact Nat.le_refl _, hZ, findClass_of_methodNamed Bd.named, Fr.nil n0, by rw [hh]; exact CHr.refl hC, hs, Or.inr (State.WarmedH.refl s), hO⟩
  obtain ⟨u, o, h1, h2, h3, v, L, so, r1, r2, rO, r3, r4, r5, r6, r7⟩ := body p e s m below meth c s₁ H
  exact ⟨u, o, (XT.entry hL).trans h1, h2, h3, v, L, so, r1, r2, rO, r3, r4, r5, r6, r7⟩
theorem Met.backS {y : MethodName} {rm : Room} {as' : Array Value} {sfI : List Addr} {Q : Option Value → Heap → List Addr → Prop} {vm0 : Vm} {len W : Nat} (M : Met Z a0 EL cw n0 l y bytes maxL ret rm as' h sfI Q) (hEL : EW Z a0 EL) (hZ : Z.Warmed39 vm0) (wc : (Cond.code y bytes maxL ret).before a0 Z = true) (wz : (Cond.initialized y.cls).before a0 Z = true) (hf : rm.frames + 1 ≤ R.frames) (hl : W + (maxL + 11) + rm.locals ≤ R.locals) (H : CHv Z EL vm0 h) (hs : ∀ x ∈ sfI, x < h.size ∧ Safe Z EL vm0 h x) :
    BackS l R p e below (s.setVm vm0) args y len W (fun A a => a = as' ∧ A.U.heap = h ∧ A.cells + rm.cells ≤ R.cells ∧ A.slots + rm.slots ≤ R.slots)
      (fun A _ v B => ∃ L so, Q v B.U.heap so ∧ Old Z n0 B.U.heap ∧ Fr n0 L ∧ B.locs = A.locs ++ L ∧ B.cells = A.cells + rm.cells ∧ B.slots = A.slots + rm.slots ∧ CHr Z EL vm0 h B.U.vm B.U.heap ∧ (∀ x ∈ so, x < B.U.heap.size ∧ Safe Z EL B.U.vm B.U.heap x) ∧ (cw ∨ (s.setVm vm0).WarmedH B.U.vm)) :=
  BackS.of_freeW (bytes := bytes) (maxL := maxL) (ret := ret)
    (E := fun _ first o t L k n => k = rm.cells ∧ n = rm.slots ∧ ∃ v so, o = .returned v ∧ Q v t.heap so ∧ Old Z n0 t.heap ∧ Fr n0 L ∧ CHr Z EL first.vm first.heap t.vm t.heap ∧ (∀ x ∈ so, x < t.heap.size ∧ Safe Z EL t.vm t.heap x) ∧ (cw ∨ first.WarmedH t.vm))
    (M []) hf hl
    (fun m meth c A a Y hp => have hU : Z.Warmed39 A.U.vm := wtrans (s := s.setVm vm0) hZ Y.warmed
      ⟨by show (Cond.and _ .tt).before a A.U = true; rw [Cond.before_and, mv hU wc]; rfl, mv hU wc, mv hU wz, hp.2.2.1, hp.2.2.2⟩)
    (fun m meth c A a g mk Y hp => by
      have A1 := CHv.at Y hZ hEL H
      exact ⟨hp.1, wtrans (s := s.setVm vm0) hZ Y.warmed, hp.2.1, A1.1, fun x hx => ⟨(hs x hx).1, A1.safe (hs x hx).1 (hs x hx).2⟩⟩)
    (fun _ _ _ _ _ _ _ _ _ => trivial)
    (fun _ _ _ _ ⟨v, L, so, h1, h2, hO, h3, h4, h5, h6, h7⟩ => ⟨L, _, _, h6, rfl, rfl, v, so, h1, h2, hO, h3, h4, h5, h7.imp id (fun q => q.2.1)⟩)
    (fun m meth c A a g mk v t L k n Y hp _ _ ⟨e1, e2, v', so, e3, e4, eO, e5, e6, e7, e8⟩ => by
      cases e3; subst e1 e2
      refine ⟨L, so, e4, eO, e5, rfl, rfl, rfl, (CHv.at Y hZ hEL H).trans ?_, e7, e8.imp id (fun q => State.WarmedH.trans (t := A.U) Y.warmed q)⟩
      rw [← hp.2.1]; exact e6)
/-- behind a call -/
theorem Hs.behind {vm0 vm₁ : Vm} {k0 : Nat} {locs : List Loc} {B : Pt} {L' : List Loc} {so : List Addr} {kc ks : Nat} (H : Hs p l e R s m args below meth c Z a0 EL cw own n0 bytes maxL ret nm T h C S sf) (h2 : s.Since vm0 k0) (h3 : k0 ≤ h.size) (h4 : Z.Warmed39 vm0) (h5 : vm0.findClass own = some m.cls) (h6 : Fr n0 locs) (h7 : CHr Z EL s.vm s.heap vm0 h) (h8 : ∀ x ∈ sf, x < h.size ∧ Safe Z EL vm0 h x) (h9 : cw ∨ s.WarmedH vm0)
    (X' : Stand p l e R ((s.setVm vm0).setVm B.U.vm) m args below meth c B.U B.locs B.cells B.slots) (hS : (s.setVm vm0).Since B.U.vm B.U.heap.size) (hg : h.size ≤ B.U.heap.size) (r1 : Fr n0 L') (r2 : B.locs = locs ++ L') (r3 : B.cells = C + kc) (r4 : B.slots = S + ks) (r5 : CHr Z EL vm0 h B.U.vm B.U.heap) (r6 : ∀ x ∈ so, x < B.U.heap.size ∧ Safe Z EL B.U.vm B.U.heap x) (r7 : cw ∨ (s.setVm vm0).WarmedH B.U.vm) (rO : Old Z n0 B.U.heap) : Hs p l e R s m args below meth c Z a0 EL cw own n0 bytes maxL ret nm B.U B.U.heap (C + kc) (S + ks) (so ++ sf) := by
  obtain ⟨Y, y1, y2, y3⟩ := rebS (Z := Z) (own := own) h2 h3 X' hS hg h4 h5
  refine ⟨H.1, B.U.vm, B.U.heap.size, B.locs, by rw [← r3, ← r4]; exact Y, rfl, y1, Nat.le_refl _, y2, y3, by rw [r2]; exact Fr.app h6 r1, h7.trans r5, fun x hx => ?_, ?_, rO⟩
  · rcases List.mem_append.mp hx with hx | hx
    · exact r6 x hx
    · exact ⟨Nat.lt_of_lt_of_le (h8 x hx).1 hg, r5.safe (h8 x hx).1 (h8 x hx).2⟩
  · rcases h9 with q | q
    · exact Or.inl q
    · exact r7.imp id (fun r => State.WarmedH.trans (t := s.setVm vm0) q r)
theorem G.callS (H : Hs p l e R s m args below meth c Z a0 EL cw own n0 bytes maxL ret nm T h C S sf) {y : MethodName} {yb : ByteArray} {ym : Nat} {yr : Option FieldType} {rm : Room} {as' : Array Value} {sfI : List Addr} {Q : Option Value → Heap → List Addr → Prop} (M : Met Z a0 EL cw n0 l y yb ym yr rm as' h sfI Q) {index : Nat} (w1 : (Cond.methodLink own index y).before a0 Z = true) (w2 : (Cond.static y).before a0 Z = true) (wz : (Cond.initialized y.cls).before a0 Z = true) (wc : (Cond.code y yb ym yr).before a0 Z = true) (hy : y.cls ≠ "java/lang/invoke/MethodHandle" ∧ y.cls ≠ "java/lang/invoke/VarHandle")
    {argsL rest st : List Value} {W : Nat} {pc pc' : Nat} {L : Array Slot} (hL : L.size = maxL) (has : argsL.toArray = as') (hlen : ∀ sig, parseMethodDescriptor y.desc = some sig → argsL.length = sig.parameters.length) (hst : st = argsL.reverse ++ rest) (hW : (rest.map fun v => v.category).sum = W) (hd : decode bytes pc = .ok (.invokestatic index, 3)) (hp : pc + 3 = pc') (hf : rm.frames + 1 ≤ R.frames) (hl : W + (ym + 11) + rm.locals ≤ R.locals) (hc : C + rm.cells ≤ R.cells) (hsl : S + rm.slots ≤ R.slots) (hsf : ∀ x ∈ sfI, x ∈ sf)
    (k : ∀ T' h' v so, Hs p l e R s m args below meth c Z a0 EL cw own n0 bytes maxL ret nm T' h' (C + rm.cells) (S + rm.slots) (so ++ sf) → Q v h' so → Go p e below P (T'.setTop (mkF m pc' L (v.toList ++ rest)))) : Go p e below P (T.setTop (mkF m pc L st)) := by
  subst hp; subst has
  obtain ⟨hM, vm0, k0, locs, X, h1, h2, h3, h4, h5, h6, h7, h8, h9, hO⟩ := id H
  obtain ⟨v, vm₁, B, hw, X', hS, hg, ⟨L', so, q1, rO, r1, r2, r3, r4, r5, r6, r7⟩, st'⟩ := RoadKit.callSS X H.exec h5 (mvT (s := s.setVm vm0) h4 w1) (mvT (s := s.setVm vm0) h4 w2) (mvT (s := s.setVm vm0) h4 wz) (mvT (s := s.setVm vm0) h4 wc) hy (M.backS (W := W) hM.2.1 h4 wc wz hf hl h7.1 (fun x hx => h8 x (hsf x hx))) (g := mkF m pc L st) rfl (by rw [hM.2.2.2.1]; exact hL) hlen hst (by show 2 * 0 + _ ≤ _; omega) (H.dec hd) (fun _ _ => ⟨rfl, h1, hc, hsl⟩)
  rw [h1] at hg
  exact Go.tr st' (k _ _ v so (H.behind (vm₁ := vm₁) h2 h3 h4 h5 h6 h7 h8 h9 X' hS hg r1 r2 r3 r4 r5 r6 r7 rO) q1)
theorem G.callI (H : Hs p l e R s m args below meth c Z a0 EL cw own n0 bytes maxL ret nm T h C S sf) {y : MethodName} {yb : ByteArray} {ym : Nat} {rm : Room} {as' : Array Value} {sfI : List Addr} {Q : Option Value → Heap → List Addr → Prop} (M : Met Z a0 EL cw n0 l y yb ym none rm as' h sfI Q) {index : Nat} (hy1 : y.name = "<init>") (w1 : (Cond.methodLink own index y).before a0 Z = true) (w2 : (Cond.instanceMethod y).before a0 Z = true) (wz : (Cond.initialized y.cls).before a0 Z = true) (wc : (Cond.code y yb ym none).before a0 Z = true) (hy : y.cls ≠ "java/lang/invoke/MethodHandle" ∧ y.cls ≠ "java/lang/invoke/VarHandle")
    {a : Addr} {argsL rest st : List Value} {W : Nat} {pc pc' : Nat} {L : Array Slot} (hL : L.size = maxL) (has : (Value.ref a :: argsL).toArray = as') (hlen : ∀ sig, parseMethodDescriptor y.desc = some sig → argsL.length = sig.parameters.length) (hst : st = argsL.reverse ++ .ref a :: rest) (hW : (rest.map fun v => v.category).sum = W) (hd : decode bytes pc = .ok (.invokespecial index, 3)) (hp : pc + 3 = pc') (hf : rm.frames + 1 ≤ R.frames) (hl : W + (ym + 11) + rm.locals ≤ R.locals) (hc : C + rm.cells ≤ R.cells) (hsl : S + rm.slots ≤ R.slots) (hsf : ∀ x ∈ sfI, x ∈ sf)
    (k : ∀ T' h' v so, Hs p l e R s m args below meth c Z a0 EL cw own n0 bytes maxL ret nm T' h' (C + rm.cells) (S + rm.slots) (so ++ sf) → Q v h' so → Go p e below P (T'.setTop (mkF m pc' L (v.toList ++ rest)))) : Go p e below P (T.setTop (mkF m pc L st)) := by
  subst hp; subst has
  obtain ⟨hM, vm0, k0, locs, X, h1, h2, h3, h4, h5, h6, h7, h8, h9, hO⟩ := id H
  obtain ⟨v, vm₁, B, hw, X', hS, hg, ⟨L', so, q1, rO, r1, r2, r3, r4, r5, r6, r7⟩, st'⟩ := X.specialBackS H.exec hy1 h5 (mvT (s := s.setVm vm0) h4 w1) (mvT (s := s.setVm vm0) h4 w2) (mvT (s := s.setVm vm0) h4 wc) hy (M.backS (W := W) hM.2.1 h4 wc wz hf hl h7.1 (fun x hx => h8 x (hsf x hx))) (g := mkF m pc L st) rfl (by rw [hM.2.2.2.1]; exact hL) (Steps.refl _) (a := a) hlen hst (by show 2 * 0 + _ ≤ _; omega) (H.dec hd) (fun _ _ => ⟨rfl, h1, hc, hsl⟩)
  rw [h1] at hg
  exact Go.tr st' (k _ _ v so (H.behind (vm₁ := vm₁) h2 h3 h4 h5 h6 h7 h8 h9 X' hS hg r1 r2 r3 r4 r5 r6 r7 rO) q1)
theorem G.callV (H : Hs p l e R s m args below meth c Z a0 EL cw own n0 bytes maxL ret nm T h C S sf) {y z : MethodName} {D : String} {yb : ByteArray} {ym : Nat} {yr : Option FieldType} {rm : Room} {as' : Array Value} {sfI : List Addr} {Q : Option Value → Heap → List Addr → Prop} (M : Met Z a0 EL cw n0 l z yb ym yr rm as' h sfI Q) {index : Nat} (w1 : (Cond.methodLink own index y).before a0 Z = true) (w2 : (Cond.declares y).before a0 Z = true) (wn : ∀ s' : State, Z.Warmed39 s'.vm → NotFace s' y) (w3 : (Cond.selects D y z).before a0 Z = true) (w4 : (Cond.instanceMethod z).before a0 Z = true) (wz : (Cond.initialized z.cls).before a0 Z = true) (wc : (Cond.code z yb ym yr).before a0 Z = true) (hy : y.cls ≠ "java/lang/invoke/MethodHandle" ∧ y.cls ≠ "java/lang/invoke/VarHandle")
    {a : Addr} (E : Exa Z h a D) {argsL rest st : List Value} {W : Nat} {pc pc' : Nat} {L : Array Slot} (hL : L.size = maxL) (has : (Value.ref a :: argsL).toArray = as') (hlen : ∀ sig, parseMethodDescriptor y.desc = some sig → argsL.length = sig.parameters.length) (hst : st = argsL.reverse ++ .ref a :: rest) (hW : (rest.map fun v => v.category).sum = W) (hd : decode bytes pc = .ok (.invokevirtual index, 3)) (hp : pc + 3 = pc') (hf : rm.frames + 1 ≤ R.frames) (hl : W + (ym + 11) + rm.locals ≤ R.locals) (hc : C + rm.cells ≤ R.cells) (hsl : S + rm.slots ≤ R.slots) (hsf : ∀ x ∈ sfI, x ∈ sf)
    (k : ∀ T' h' v so, Hs p l e R s m args below meth c Z a0 EL cw own n0 bytes maxL ret nm T' h' (C + rm.cells) (S + rm.slots) (so ++ sf) → Q v h' so → Go p e below P (T'.setTop (mkF m pc' L (v.toList ++ rest)))) : Go p e below P (T.setTop (mkF m pc L st)) := by
  subst hp; subst has
  obtain ⟨hM, vm0, k0, locs, X, h1, h2, h3, h4, h5, h6, h7, h8, h9, hO⟩ := id H
  obtain ⟨cq, kq, qa, qb, qc⟩ := isOf (s := s.setVm vm0) h4 h1 E
  obtain ⟨v, vm₁, B, hw, X', hS, hg, ⟨L', so, q1, rO, r1, r2, r3, r4, r5, r6, r7⟩, st'⟩ := X.virtualBackS H.exec h5 (mvT (s := s.setVm vm0) h4 w1) (mvT (s := s.setVm vm0) h4 w2) (wn (s.setVm vm0) h4) (mvT (s := s.setVm vm0) h4 w3) (mvT (s := s.setVm vm0) h4 w4) hy (M.backS (W := W) hM.2.1 h4 wc wz hf hl h7.1 (fun x hx => h8 x (hsf x hx))) qa qc (g := mkF m pc L st) rfl (by rw [hM.2.2.2.1]; exact hL) (Steps.refl _) hlen hst (by show 2 * 0 + _ ≤ _; omega) (H.dec hd) (fun _ _ => ⟨rfl, h1, hc, hsl⟩)
  rw [h1] at hg
  exact Go.tr st' (k _ _ v so (H.behind (vm₁ := vm₁) h2 h3 h4 h5 h6 h7 h8 h9 X' hS hg r1 r2 r3 r4 r5 r6 r7 rO) q1)
theorem nf_sel {y : MethodName} {D : String} (w : (Cond.selects D y y).before a0 Z = true) : ∀ s' : State, Z.Warmed39 s'.vm → NotFace s' y := fun s' hZ => notFace_of_selects (args := #[]) (mvT (s := s') hZ w)
theorem own_and255 (x : Int32) : ¬ (x &&& 255) < 0 ∧ ¬ (255 : Int32) < (x &&& 255) := by
  have h : (x &&& 255).toBitVec.toNat < 256 := by
    simp only [Int32.toBitVec_and, BitVec.toNat_and]
    exact Nat.lt_succ_of_le Nat.and_le_right
  have h2 : (x &&& 255).toInt = ((x &&& 255).toBitVec.toNat : Int) := by
    show (x &&& 255).toBitVec.toInt = _
    rw [BitVec.toInt_eq_toNat_of_lt (by omega)]
  rw [Int32.lt_iff_toInt_lt, Int32.lt_iff_toInt_lt, h2]
  have e0 : (0 : Int32).toInt = 0 := rfl
  have e1 : (255 : Int32).toInt = 255 := rfl
  omega
theorem own_u16 {x : Int32} (h : ¬ x < 0 ∧ ¬ (255 : Int32) < x) : ¬ x < 0 ∧ ¬ (65535 : Int32) < x := by
  obtain ⟨h0, h1⟩ := h
  rw [Int32.lt_iff_toInt_lt] at h0 h1
  refine ⟨by rw [Int32.lt_iff_toInt_lt]; exact h0, ?_⟩
  rw [Int32.lt_iff_toInt_lt]
  have e1 : (255 : Int32).toInt = 255 := rfl
  have e2 : (65535 : Int32).toInt = 65535 := rfl
  omega
theorem own_c16 {x : Int32} (h : ¬ x < 0 ∧ ¬ (65535 : Int32) < x) : x.toUInt32.toUInt16.toUInt32.toInt32 = x := by
  obtain ⟨h0, h1⟩ := h
  rw [Int32.lt_iff_toInt_lt] at h0 h1
  have e0 : (0 : Int32).toInt = 0 := rfl
  have e2 : (65535 : Int32).toInt = 65535 := rfl
  have hb : x.toBitVec.toNat < 65536 := by
    have q : x.toBitVec.toInt = x.toInt := rfl
    have r := BitVec.toInt_eq_toNat_cond x.toBitVec
    split at r <;> omega
  apply Int32.toBitVec_inj.mp
  apply BitVec.eq_of_toNat_eq
  have e : x.toUInt32.toUInt16.toUInt32.toInt32.toBitVec.toNat = x.toUInt32.toUInt16.toUInt32.toNat := rfl
  rw [e, UInt16.toNat_toUInt32, UInt32.toNat_toUInt16]
  show x.toBitVec.toNat % 2 ^ 16 = _
  omega
theorem own_narC {x : Int32} (h : ¬ x < 0 ∧ ¬ (65535 : Int32) < x) : nar .char x = x := own_c16 h
theorem own_andn (x k : Int32) (n : Nat) (hn : k.toBitVec.toNat = n) (h31 : n < 2 ^ 31) : 0 ≤ (x &&& k).toInt ∧ (x &&& k).toInt ≤ n := by
  have h : (x &&& k).toBitVec.toNat ≤ n := by
    simp only [Int32.toBitVec_and, BitVec.toNat_and]
    rw [← hn]; exact Nat.and_le_right
  have h2 : (x &&& k).toInt = ((x &&& k).toBitVec.toNat : Int) := by
    show (x &&& k).toBitVec.toInt = _
    rw [BitVec.toInt_eq_toNat_of_lt (by omega)]
  rw [h2]; omega
theorem own_and3 (x : Int32) : x &&& 3 = 0 ∨ x &&& 3 = 1 ∨ x &&& 3 = 2 ∨ x &&& 3 = 3 := by
  obtain ⟨h1, h2⟩ := own_andn x 3 3 rfl (by decide)
  generalize x &&& 3 = k at h1 h2
  have key : ∀ j : Int32, k.toInt = j.toInt → k = j := fun j h => Int32.toInt_inj.mp h
  have hs : k.toInt = 0 ∨ k.toInt = 1 ∨ k.toInt = 2 ∨ k.toInt = 3 := by omega
  rcases hs with h | h | h | h
  · exact Or.inl (key 0 h)
  · exact Or.inr (Or.inl (key 1 h))
  · exact Or.inr (Or.inr (Or.inl (key 2 h)))
  · exact Or.inr (Or.inr (Or.inr (key 3 h)))
theorem mG {α : Type} {L : List α} {a : α} {i : Nat} (q : L[i]? = some a) : a ∈ L := List.mem_of_getElem? q
theorem lB {n m : Nat} (q : Nat.ble n m = true := by rfl) : n ≤ m := Nat.le_of_ble_eq_true q
theorem cb0 : ∀ c ∈ ([] : List Int32), ¬ c < 0 ∧ ¬ (255 : Int32) < c := fun _ q => nomatch q
theorem cbS {x : Int32} {xs : List Int32} (q : ¬ x < 0 ∧ ¬ (255 : Int32) < x) (r : ∀ c ∈ xs, ¬ c < 0 ∧ ¬ (255 : Int32) < c) : ∀ c ∈ x :: xs, ¬ c < 0 ∧ ¬ (255 : Int32) < c := fun c hc => by
  rcases List.mem_cons.mp hc with rfl | hc
  · exact q
  · exact r c hc
/-- a Latin-1 String and its bytes -/
def Str (Z : State) (h : Heap) (a t : Addr) (kb : ClassId) (cs : List Int32) : Prop :=
  Exa Z h a "java/lang/String" ∧ Fld Z h a "java/lang/String" "coder" "B" (.int 0) ∧ Fld Z h a "java/lang/String" "value" "[B" (.ref t) ∧ Arv Z h t kb .byte (Int32.ofNat cs.length) (cs.map fun c => Value.int c.toInt8.toInt32) (.int 0) ∧ (∀ c ∈ cs, ¬ c < 0 ∧ ¬ (255 : Int32) < c) ∧ cs.length ≤ 4000
theorem Str.ext {h' : Heap} {a t : Addr} {kb : ClassId} {cs : List Int32} (E : Ext h h') (F : Str Z h a t kb cs) : Str Z h' a t kb cs := ⟨F.1.ext E, F.2.1.ext E, F.2.2.1.ext E, F.2.2.2.1.ext E, F.2.2.2.2⟩
theorem Str.keep {h' : Heap} {a t : Addr} {kb : ClassId} {cs : List Int32} {ws : List Addr} (F : Str Z h a t kb cs) (K : Keep h h' ws) (q : a ∉ ws) (r : t ∉ ws) : Str Z h' a t kb cs := ⟨F.1.keep K, F.2.1.keep K q, F.2.2.1.keep K q, F.2.2.2.1.keep K r, F.2.2.2.2⟩
theorem Str.other {h' : Heap} {a t w : Addr} {sl : Nat} {v : Value} {kb : ClassId} {cs : List Int32} (W : Wr h h' w sl v) (F : Str Z h a t kb cs) (q : a ≠ w) (r : t ≠ w) : Str Z h' a t kb cs := ⟨F.1.wr W, F.2.1.other W (Or.inl q), F.2.2.1.other W (Or.inl q), F.2.2.2.1.other W r, F.2.2.2.2⟩
theorem nf_rt {y : MethodName} (w : (Cond.noSuperclass y.cls).before a0 Z = true) : ∀ s' : State, Z.Warmed39 s'.vm → NotFace s' y := fun s' hZ => nf_top (args := #[]) (mvT (s := s') hZ w)
theorem G.pureV (H : Hs p l e R s m args below meth c Z a0 EL cw own n0 bytes maxL ret nm T h C S sf) {y z : MethodName} {D : String} {Qv : Option Value → Prop} {as' : Array Value} {W : Nat} (hB : ∀ s' : State, Z.Warmed39 s'.vm → Back l R p e below s' args z 3 W (fun P a => a = as' ∧ P.U.heap = h ∧ P.cells + 0 ≤ R.cells ∧ P.slots + 0 ≤ R.slots) (fun P _ v B => ∃ L, (Qv v ∧ L = [] ∧ B.U.heap = h) ∧ B.locs = P.locs ++ L ∧ B.cells = P.cells + 0 ∧ B.slots = P.slots + 0))
    {index : Nat} (w1 : (Cond.methodLink own index y).before a0 Z = true) (w2 : (Cond.declares y).before a0 Z = true) (wn : ∀ s' : State, Z.Warmed39 s'.vm → NotFace s' y) (w3 : (Cond.selects D y z).before a0 Z = true) (w4 : (Cond.instanceMethod z).before a0 Z = true) (hy : y.cls ≠ "java/lang/invoke/MethodHandle" ∧ y.cls ≠ "java/lang/invoke/VarHandle")
    {a : Addr} (E : Exa Z h a D) {argsL rest st : List Value} {pc pc' : Nat} {L : Array Slot} (hL : L.size = maxL) (has : (Value.ref a :: argsL).toArray = as') (hlen : ∀ sig, parseMethodDescriptor y.desc = some sig → argsL.length = sig.parameters.length) (hst : st = argsL.reverse ++ .ref a :: rest) (hW : (rest.map fun v => v.category).sum = W) (hd : decode bytes pc = .ok (.invokevirtual index, 3)) (hp : pc + 3 = pc') (hc : C ≤ R.cells) (hsl : S ≤ R.slots)
    (k : ∀ T' v, Hs p l e R s m args below meth c Z a0 EL cw own n0 bytes maxL ret nm T' h C S sf → Qv v → Go p e below P (T'.setTop (mkF m pc' L (v.toList ++ rest)))) : Go p e below P (T.setTop (mkF m pc L st)) := by
  subst hp; subst has
  obtain ⟨hM, vm0, k0, locs, X, h1, h2, h3, h4, h5, h6, h7, h8, h9, hO⟩ := id H
  obtain ⟨cq, kq, qa, qb, qc⟩ := isOf (s := s.setVm vm0) h4 h1 E
  obtain ⟨v, vm₁, B, hw, X', ⟨L', ⟨q1, q2, q3⟩, r2, r3, r4⟩, st'⟩ := X.virtualBack H.exec h5 (mvT (s := s.setVm vm0) h4 w1) (mvT (s := s.setVm vm0) h4 w2) (wn (s.setVm vm0) h4) (mvT (s := s.setVm vm0) h4 w3) (mvT (s := s.setVm vm0) h4 w4) hy (hB (s.setVm vm0) h4) qa qc (g := mkF m pc L st) rfl (by rw [hM.2.2.2.1]; exact hL) (Steps.refl _) hlen hst (by show 2 * 0 + _ ≤ _; omega) (H.dec hd) (fun _ _ => ⟨rfl, h1, hc, hsl⟩)
  subst q2
  refine Go.tr st' (k B.U v ⟨hM, vm0, k0, locs, ?_, q3, h2, h3, h4, h5, h6, h7, h8, h9, hO⟩ q1)
  have e1 : B.locs = locs := by rw [r2]; exact List.append_nil _
  have e2 : B.cells = C := r3
  have e3 : B.slots = S := r4
  rw [← e1, ← e2, ← e3]; exact X'
theorem G.instN (H : Hs p l e R s m args below meth c Z a0 EL cw own n0 bytes maxL ret nm T h C S sf) {index : Nat} {pc pc' : Nat} {L : Array Slot} {st : List Value} (hd : decode bytes pc = .ok (.instanceof index, 3)) (hp : pc + 3 = pc') (k : Go p e below P (T.setTop (mkF m pc' L (.int 0 :: st)))) : Go p e below P (T.setTop (mkF m pc L (.null :: st))) := by
  subst hp
  obtain ⟨hM, vm0, k0, locs, X, -⟩ := id H
  exact Go.st (X.instanceofNull H.exec (g := mkF m pc L (.null :: st)) rfl rfl (H.dec hd)) k
theorem Met.back {y : MethodName} {rm : Room} {as' : Array Value} {sfI : List Addr} {Q : Option Value → Heap → List Addr → Prop} {vm0 : Vm} {len W : Nat} (M : Met Z a0 EL False n0 l y bytes maxL ret rm as' h sfI Q) (hEL : EW Z a0 EL) (hZ : Z.Warmed39 vm0) (wc : (Cond.code y bytes maxL ret).before a0 Z = true) (wz : (Cond.initialized y.cls).before a0 Z = true) (hf : rm.frames + 1 ≤ R.frames) (hl : W + (maxL + 11) + rm.locals ≤ R.locals) (H : CHv Z EL vm0 h) (hs : ∀ x ∈ sfI, x < h.size ∧ Safe Z EL vm0 h x) :
    Back l R p e below (s.setVm vm0) args y len W (fun A a => a = as' ∧ A.U.heap = h ∧ A.cells + rm.cells ≤ R.cells ∧ A.slots + rm.slots ≤ R.slots)
      (fun A _ v B => ∃ L so, Q v B.U.heap so ∧ Old Z n0 B.U.heap ∧ Fr n0 L ∧ B.locs = A.locs ++ L ∧ B.cells = A.cells + rm.cells ∧ B.slots = A.slots + rm.slots ∧ CHr Z EL vm0 h B.U.vm B.U.heap ∧ (∀ x ∈ so, x < B.U.heap.size ∧ Safe Z EL B.U.vm B.U.heap x)) :=
  Back.of_free (bytes := bytes) (maxL := maxL) (ret := ret)
    (E := fun _ first o t L k n => k = rm.cells ∧ n = rm.slots ∧ ∃ v so, o = .returned v ∧ Q v t.heap so ∧ Old Z n0 t.heap ∧ Fr n0 L ∧ CHr Z EL first.vm first.heap t.vm t.heap ∧ (∀ x ∈ so, x < t.heap.size ∧ Safe Z EL t.vm t.heap x))
    (M []) hf hl
    (fun m meth c A a Y hp => have hU : Z.Warmed39 A.U.vm := wtrans (s := s.setVm vm0) hZ Y.warmed
      ⟨by show (Cond.and _ .tt).before a A.U = true; rw [Cond.before_and, mv hU wc]; rfl, mv hU wc, mv hU wz, hp.2.2.1, hp.2.2.2⟩)
    (fun m meth c A a g mk Y hp => by
      have A1 := CHv.at Y hZ hEL H
      exact ⟨hp.1, wtrans (s := s.setVm vm0) hZ Y.warmed, hp.2.1, A1.1, fun x hx => ⟨(hs x hx).1, A1.safe (hs x hx).1 (hs x hx).2⟩⟩)
    (fun _ _ _ _ _ _ _ _ _ => trivial)
    (fun _ _ _ _ ⟨v, L, so, h1, h2, hO, h3, h4, h5, h6, h7⟩ => ⟨L, _, _, h7.resolve_left (fun q => q), rfl, rfl, v, so, h1, h2, hO, h3, h4, h5⟩)
    (fun m meth c A a g mk v t L k n Y hp _ _ ⟨e1, e2, v', so, e3, e4, eO, e5, e6, e7⟩ => by
      cases e3; subst e1 e2
      refine ⟨L, so, e4, eO, e5, rfl, rfl, rfl, (CHv.at Y hZ hEL H).trans ?_, e7⟩
      rw [← hp.2.1]; exact e6)
theorem nsI_root {O K : String} {n : Nat} (w : (Cond.noSuperclass O).before a0 Z = true) (wk : (Cond.instantiable K n).before a0 Z = true) (hn : O ≠ K) : NS Z O K := by
  obtain ⟨c, k, h1, h2, h3, -, -⟩ := Cond.noSuperclass_spec w
  obtain ⟨t, kt, g1, -⟩ := Cond.instantiable_spec wk
  have ne := ids_ne h1 g1 hn
  refine ⟨c, t, h1, g1, fun fuel => ?_⟩
  cases fuel with
  | zero => rfl
  | succ f => simp [Vm.isSubclassAux, ne, h2, h3]
theorem nsI_no {D S' K : String} {n : Nat} (w : (Cond.superclass D S').before a0 Z = true) (wk : (Cond.instantiable K n).before a0 Z = true) (N : NS Z D K) (hn : D ≠ K) : ∃ c t, Z.vm.findClass D = some c ∧ Z.vm.findClass K = some t ∧ Z.vm.assignable c t = false := by
  obtain ⟨c, t, h0, g0, n3⟩ := N
  obtain ⟨p, k, kp, h1, h2, h3, h4, h5, -, h7⟩ := Cond.superclass_spec h0 w
  obtain ⟨t', kt, g1, g2, g5, g7, -⟩ := Cond.instantiable_spec wk
  cases g0.symm.trans g1
  have g8 : kt.isInterface = false := by cases q : kt.isInterface <;> simp [q] at g7 ⊢
  have ne := ids_ne h0 g0 hn
  refine ⟨c, t, h0, g0, ?_⟩
  show Z.vm.assignableAux (255 + 1) c t = false
  simp [Vm.assignableAux, ne, h2, g2, h5, g5, g8, Vm.isSubclass, n3]
end Kit
end Jvm.OwnKit
/- laws to paste: Road.backV, Road.eqW (cut by pick.py; bodies as the Statement names them) -/
namespace Jvm.Pilot.@@N@@
namespace StrChars
open Jvm Sem ClassFile Op Lib Jvm.Stand Jvm.Free.XT Jvm.Free.ALB Jvm.Free.JM Jvm.Free
open Jvm.Lib.Cold (StaticIs)
/-- a char array whose places are chars -/
def Ch (a : Addr) (A : Cell) (U : State) : Prop := Arr .char a A U ∧ Typed .char A
theorem Ch.mv {a : Addr} {A : Cell} {U U' : State} (h : Ch a A U) (hal : U.vm.Alike U'.vm) (hh : U'.heap = U.heap) : Ch a A U' := ⟨h.1.mv hal hh, h.2⟩
theorem Ch.keep {a : Addr} {A : Cell} {U U' : State} (h : Ch a A U) (hal : U.vm.Alike U'.vm) (hk : U'.heap[a]? = some A) : Ch a A U' := ⟨h.1.keep hal hk, h.2⟩
/-- what place i of a char[]'s cell holds -/
def cv (A : Cell) (i : Nat) : Int32 := match A.slots[i]? with | some (.int x) => x | _ => 0
theorem Ch.get {a : Addr} {A : Cell} {U : State} (h : Ch a A U) {i : Nat} (hi : i < A.slots.size) : A.slots[i]? = some (.int (cv A i)) := by
  have e := Array.getElem?_eq_getElem hi
  have f := h.2 i _ e
  unfold cv; rw [e]
  generalize A.slots[i] = v at f
  cases v <;> simp [fits] at f ⊢
/-- the byte that i2b leaves of a char -/
def lo8 (x : Int32) : Int32 := x.toInt8.toInt32
theorem fits_lo8 (y : Int32) : fits .byte (.int (lo8 y)) = true := by
  have h1 := y.toInt8.le_toInt
  have h2 := y.toInt8.toInt_lt
  simp only [lo8, fits, Bool.and_eq_true, decide_eq_true_eq, Int32.le_iff_toInt_le, Int8.toInt_toInt32, show (-128 : Int32).toInt = -128 from by decide, show (127 : Int32).toInt = 127 from by decide]
  omega
/-- A' is A but that each place j of lo .. hi - 1 holds f j -/
def Laid (A A' : Cell) (lo hi : Nat) (f : Nat → Value) : Prop := A'.cls = A.cls ∧ A'.vm = A.vm ∧ A'.slots.size = A.slots.size ∧ ∀ i, A'.slots[i]? = if lo ≤ i ∧ i < hi then some (f i) else A.slots[i]?
theorem Laid.zero (A : Cell) (lo : Nat) (f : Nat → Value) : Laid A A lo (lo + 0) f := ⟨rfl, rfl, rfl, fun i => by rw [if_neg (by omega)]⟩
theorem Laid.step {A Ak : Cell} {lo k : Nat} {f : Nat → Value} {v : Value} (h : Laid A Ak lo k f) (hlo : lo ≤ k) (hk : k < Ak.slots.size) (hv : v = f k) : Laid A (Ak.setSlot k v) lo (k + 1) f := by
  refine ⟨h.1, h.2.1, by simpa [Cell.setSlot] using h.2.2.1, fun i => ?_⟩
  by_cases e : k = i
  · subst e; rw [Cell.slots_setSlot_self v hk, if_pos (by omega), hv]
  · rw [Cell.slots_setSlot_ne v e, h.2.2.2 i]
    by_cases q : lo ≤ i ∧ i < k
    · rw [if_pos q, if_pos (by omega)]
    · rw [if_neg q, if_neg (by omega)]
def U16 : String := "java/lang/StringUTF16"
namespace Cmp5
def yN : MethodName := ⟨"java/lang/StringUTF16", "compress", "([CI[BII)I"⟩
abbrev yB : ByteArray := jdk_52_method_21_code
theorem d0 : decode yB 0 = .ok (.iconst 0, 1) := by decide +kernel
theorem d1 : decode yB 1 = .ok (.istore 5, 2) := by decide +kernel
theorem d3 : decode yB 3 = .ok (.iload 5, 2) := by decide +kernel
theorem d5 : decode yB 5 = .ok (.iload 4, 2) := by decide +kernel
theorem d7 : decode yB 7 = .ok (.if_icmp (.ge) 37, 3) := by decide +kernel
theorem d10 : decode yB 10 = .ok (.aload_n 0, 1) := by decide +kernel
theorem d11 : decode yB 11 = .ok (.iload_n 1, 1) := by decide +kernel
theorem d12 : decode yB 12 = .ok (.caload, 1) := by decide +kernel
theorem d13 : decode yB 13 = .ok (.istore 6, 2) := by decide +kernel
theorem d15 : decode yB 15 = .ok (.iload 6, 2) := by decide +kernel
theorem d17 : decode yB 17 = .ok (.sipush 255, 3) := by decide +kernel
theorem d20 : decode yB 20 = .ok (.if_icmp (.le) 6, 3) := by decide +kernel
theorem d26 : decode yB 26 = .ok (.aload_n 2, 1) := by decide +kernel
theorem d27 : decode yB 27 = .ok (.iload_n 3, 1) := by decide +kernel
theorem d28 : decode yB 28 = .ok (.iload 6, 2) := by decide +kernel
theorem d30 : decode yB 30 = .ok (.i2b, 1) := by decide +kernel
theorem d31 : decode yB 31 = .ok (.bastore, 1) := by decide +kernel
theorem d32 : decode yB 32 = .ok (.iinc 1 1, 3) := by decide +kernel
theorem d35 : decode yB 35 = .ok (.iinc 3 1, 3) := by decide +kernel
theorem d38 : decode yB 38 = .ok (.iinc 5 1, 3) := by decide +kernel
theorem d41 : decode yB 41 = .ok (.goto (-38), 3) := by decide +kernel
theorem d44 : decode yB 44 = .ok (.iload 4, 2) := by decide +kernel
theorem d46 : decode yB 46 = .ok (.ireturn, 1) := by decide +kernel
def site : List Cond := []
def tab : Cond := tabOf yN yB 7 (some .int) site
def P (b : Addr) (A : Cell) (d : Addr) (B : Cell) (o q len : Nat) (args : Array Value) (s : State) : Prop := args = #[.ref b, .int (Int32.ofNat o), .ref d, .int (Int32.ofNat q), .int (Int32.ofNat len)] ∧ Ch b A s ∧ Arr .byte d B s ∧ b ≠ d ∧ o + len ≤ A.slots.size ∧ q + len ≤ B.slots.size ∧ ∀ i, i < len → ¬ 255 < cv A (o + i)
def E (b : Addr) (A : Cell) (d : Addr) (B : Cell) (o q len : Nat) (r : Option Value) (s u : State) : Prop := r = some (.int (Int32.ofNat len)) ∧ ∃ B', Put d B' s u ∧ Laid B B' q (q + len) (fun j => Value.int (lo8 (cv A (o + (j - q)))))
/-- no char of the range above 255: len; the places written hold each char's low byte -/
theorem law (l : Launch) (b : Addr) (A : Cell) (d : Addr) (B : Cell) (o q len : Nat) : Law l yN 5 5 0 0 yB 7 (some .int) site (P b A d B o q len) (E b A d B o q len) (copyLocs d q len) 0 0 := by
  refine Law.of_walk (plainFor_of_name (by decide +kernel)) (by decide +kernel) (by decide +kernel) (by decide) (fun _ _ h => by rw [h.1]; rfl) (fun _ U U' hal hh h => ⟨h.1, h.2.1.mv hal hh, h.2.2.1.mv hal hh, h.2.2.2⟩) (fun r U U' V V' h1 hal h2 h => ⟨h.1, h.2.elim fun B' q => ⟨B', q.1.mv h1 h2, q.2⟩⟩) ?_
  intro p e s m args below meth c s₁ X0 hexec hbytes hml hret hlk hnm hown hh0 W hP
  obtain ⟨rfl, hA, hB, hne, l1, l2, hp⟩ := hP
  have c1 : Steps p.tables e below (s₁.setTop (entryFrame m #[.ref b, .int (Int32.ofNat o), .ref d, .int (Int32.ofNat q), .int (Int32.ofNat len)] 7)) (s₁.setTop (mkF m 0 #[.val (.ref b), .val (.int (Int32.ofNat o)), .val (.ref d), .val (.int (Int32.ofNat q)), .val (.int (Int32.ofNat len)), .unset, .unset] [])) := entry rfl
  have hA0 := hA.1.mv X0.warmed.alike hh0
  have hB0 := hB.mv X0.warmed.alike hh0
  have a31 := hA.1.2.2.2
  have c2 : Steps p.tables e below (s₁.setTop (entryFrame m #[.ref b, .int (Int32.ofNat o), .ref d, .int (Int32.ofNat q), .int (Int32.ofNat len)] 7)) (s₁.setTop (mkF m 3 #[.val (.ref b), .val (.int (Int32.ofNat o)), .val (.ref d), .val (.int (Int32.ofNat q)), .val (.int (Int32.ofNat len)), .val (.int 0), .unset] [])) := c1.trans (by
    refine iconstV X0.here hexec rfl 0 (hb hbytes d0) (by decide) ?_
    refine XS.istore X0.here hexec rfl (hb hbytes d1) rfl rfl ?_
    exact Steps.refl _)
  have loop : ∀ (r i : Nat), i + r = len → ∀ (z : Slot), (z = .unset ∨ ∃ w, z = .val w ∧ w.category = 1) → ∀ (Tl : State) (Bk : Cell), Stand p l e { frames := 0, locals := 0, cells := 0, slots := 0 } s m #[.ref b, .int (Int32.ofNat o), .ref d, .int (Int32.ofNat q), .int (Int32.ofNat len)] below meth c Tl ([] ++ copyLocs d q i) 0 0 → Put d Bk s₁ Tl → Laid B Bk q (q + i) (fun j => Value.int (lo8 (cv A (o + (j - q))))) →
      Steps p.tables e below (s₁.setTop (entryFrame m #[.ref b, .int (Int32.ofNat o), .ref d, .int (Int32.ofNat q), .int (Int32.ofNat len)] 7)) (Tl.setTop (mkF m 3 #[.val (.ref b), .val (.int (Int32.ofNat (o + i))), .val (.ref d), .val (.int (Int32.ofNat (q + i))), .val (.int (Int32.ofNat len)), .val (.int (Int32.ofNat i)), z] [])) → ∃ (T' : State) (B' : Cell) (z' : Slot), Stand p l e { frames := 0, locals := 0, cells := 0, slots := 0 } s m #[.ref b, .int (Int32.ofNat o), .ref d, .int (Int32.ofNat q), .int (Int32.ofNat len)] below meth c T' ([] ++ copyLocs d q len) 0 0 ∧ Put d B' s₁ T' ∧ Laid B B' q (q + len) (fun j => Value.int (lo8 (cv A (o + (j - q))))) ∧
      Steps p.tables e below (s₁.setTop (entryFrame m #[.ref b, .int (Int32.ofNat o), .ref d, .int (Int32.ofNat q), .int (Int32.ofNat len)] 7)) (T'.setTop (mkF m 3 #[.val (.ref b), .val (.int (Int32.ofNat (o + len))), .val (.ref d), .val (.int (Int32.ofNat (q + len))), .val (.int (Int32.ofNat len)), .val (.int (Int32.ofNat len)), z'] [])) := by
    intro r
    induction r with
    | zero =>
      intro i hi z hz Tl Bk Xl pl fl cl
      have hil : i = len := by omega
      rw [hil] at Xl fl cl
      exact ⟨Tl, Bk, z, Xl, pl, fl, cl⟩
    | succ r ih =>
      intro i hi z hz Tl Bk Xl pl fl cl
      have all := X0.warmed.alike.symm.trans Xl.warmed.alike
      have hAl := hA0.keep all (pl.other hne hA0.1)
      have hBk := hB0.like all pl.1 fl.1 fl.2.1 fl.2.2.1
      have hlt : q + i < Bk.slots.size := by rw [fl.2.2.1]; omega
      have c3 : Steps p.tables e below (s₁.setTop (entryFrame m #[.ref b, .int (Int32.ofNat o), .ref d, .int (Int32.ofNat q), .int (Int32.ofNat len)] 7)) (Tl.setTop (mkF m 12 #[.val (.ref b), .val (.int (Int32.ofNat (o + i))), .val (.ref d), .val (.int (Int32.ofNat (q + i))), .val (.int (Int32.ofNat len)), .val (.int (Int32.ofNat i)), z] [.int (Int32.ofNat (o + i)), .ref b])) := cl.trans (by
        refine XS.iload Xl.here hexec rfl (hb hbytes d3) rfl ?_
        refine XS.iload Xl.here hexec rfl (hb hbytes d5) rfl ?_
        refine XS.icmpNo Xl.here hexec rfl (hb hbytes d7) rfl (ii_ge_f (lt32 (by omega) (by omega))) ?_
        refine XS.aloadN Xl.here hexec rfl (hb hbytes d10) rfl rfl ?_
        refine XS.iloadN Xl.here hexec rfl (hb hbytes d11) rfl ?_
        exact Steps.refl _)
      have c4 : Steps p.tables e below (s₁.setTop (entryFrame m #[.ref b, .int (Int32.ofNat o), .ref d, .int (Int32.ofNat q), .int (Int32.ofNat len)] 7)) (Tl.setTop (mkF m 13 #[.val (.ref b), .val (.int (Int32.ofNat (o + i))), .val (.ref d), .val (.int (Int32.ofNat (q + i))), .val (.int (Int32.ofNat len)), .val (.int (Int32.ofNat i)), z] [.int (cv A (o + i))])) := c3.trans (by
        refine Xl.aget hexec hAl rfl (hA.get (i := o + i) (by omega)) rfl rfl (hb hbytes d12) ?_
        exact Steps.refl _)
      have c5 : Steps p.tables e below (s₁.setTop (entryFrame m #[.ref b, .int (Int32.ofNat o), .ref d, .int (Int32.ofNat q), .int (Int32.ofNat len)] 7)) (Tl.setTop (mkF m 15 #[.val (.ref b), .val (.int (Int32.ofNat (o + i))), .val (.ref d), .val (.int (Int32.ofNat (q + i))), .val (.int (Int32.ofNat len)), .val (.int (Int32.ofNat i)), .val (.int (cv A (o + i)))] [])) := c4.trans (by
        refine XS.istoreS Xl.here hexec rfl (hb hbytes d13) rfl rfl hz ?_
        exact Steps.refl _)
      have c6 : Steps p.tables e below (s₁.setTop (entryFrame m #[.ref b, .int (Int32.ofNat o), .ref d, .int (Int32.ofNat q), .int (Int32.ofNat len)] 7)) (Tl.setTop (mkF m 31 #[.val (.ref b), .val (.int (Int32.ofNat (o + i))), .val (.ref d), .val (.int (Int32.ofNat (q + i))), .val (.int (Int32.ofNat len)), .val (.int (Int32.ofNat i)), .val (.int (cv A (o + i)))] [.int (lo8 (cv A (o + i))), .int (Int32.ofNat (q + i)), .ref d])) := c5.trans (by
        refine XS.iload Xl.here hexec rfl (hb hbytes d15) rfl ?_
        refine sipushV Xl.here hexec rfl 255 (hb hbytes d17) (by decide) ?_
        refine XS.icmpYes Xl.here hexec rfl (pc0 := 20) rfl (hb hbytes d20) rfl (ii_le_t (hp i (by omega))) (by decide) rfl ?_
        refine XS.aloadN Xl.here hexec rfl (hb hbytes d26) rfl rfl ?_
        refine XS.iloadN Xl.here hexec rfl (hb hbytes d27) rfl ?_
        refine XS.iload Xl.here hexec rfl (hb hbytes d28) rfl ?_
        refine i2b Xl.here hexec rfl (hb hbytes d30) rfl ?_
        exact Steps.refl _)
      obtain ⟨T7, X7, p7, st7⟩ := Xl.aput hexec hBk rfl hlt rfl (fits_lo8 (cv A (o + i))) (g := (mkF m 31 #[.val (.ref b), .val (.int (Int32.ofNat (o + i))), .val (.ref d), .val (.int (Int32.ofNat (q + i))), .val (.int (Int32.ofNat len)), .val (.int (Int32.ofNat i)), .val (.int (cv A (o + i)))] [.int (lo8 (cv A (o + i))), .int (Int32.ofNat (q + i)), .ref d])) rfl (rest := []) rfl (hb hbytes d31)
      have c8 : Steps p.tables e below (s₁.setTop (entryFrame m #[.ref b, .int (Int32.ofNat o), .ref d, .int (Int32.ofNat q), .int (Int32.ofNat len)] 7)) (T7.setTop (mkF m 32 #[.val (.ref b), .val (.int (Int32.ofNat (o + i))), .val (.ref d), .val (.int (Int32.ofNat (q + i))), .val (.int (Int32.ofNat len)), .val (.int (Int32.ofNat i)), .val (.int (cv A (o + i)))] [])) := c6.trans (st7 _ (Steps.refl _))
      have c9 : Steps p.tables e below (s₁.setTop (entryFrame m #[.ref b, .int (Int32.ofNat o), .ref d, .int (Int32.ofNat q), .int (Int32.ofNat len)] 7)) (T7.setTop (mkF m 3 #[.val (.ref b), .val (.int (Int32.ofNat (o + i) + 1)), .val (.ref d), .val (.int (Int32.ofNat (q + i) + 1)), .val (.int (Int32.ofNat len)), .val (.int (Int32.ofNat i + 1)), .val (.int (cv A (o + i)))] [])) := c8.trans (by
        refine iincV X7.here hexec rfl 1 (hb hbytes d32) (by decide) rfl rfl ?_
        refine iincV X7.here hexec rfl 1 (hb hbytes d35) (by decide) rfl rfl ?_
        refine iincV X7.here hexec rfl 1 (hb hbytes d38) (by decide) rfl rfl ?_
        refine XS.goto X7.here hexec rfl (pc0 := 41) rfl (hb hbytes d41) (by decide) rfl ?_
        exact Steps.refl _)
      have c10 : Steps p.tables e below (s₁.setTop (entryFrame m #[.ref b, .int (Int32.ofNat o), .ref d, .int (Int32.ofNat q), .int (Int32.ofNat len)] 7)) (T7.setTop (mkF m 3 #[.val (.ref b), .val (.int (Int32.ofNat (o + (i + 1)))), .val (.ref d), .val (.int (Int32.ofNat (q + (i + 1)))), .val (.int (Int32.ofNat len)), .val (.int (Int32.ofNat (i + 1))), .val (.int (cv A (o + i)))] [])) := by
        have := c9
        rw [succ32, succ32, succ32] at this
        exact this
      exact ih (i + 1) (by omega) _ (Or.inr ⟨_, rfl, rfl⟩) T7 _ (by rw [copyLocs_step, ← List.append_assoc]; exact X7) (pl.trans p7) (fl.step (by omega) hlt (by simp)) c10
  obtain ⟨T9, B9, z9, X9, p9, f9, g9⟩ := loop len 0 (by omega) .unset (Or.inl rfl) s₁ B (by simpa [copyLocs] using X0) ⟨hB0.1, fun _ _ => rfl, rfl⟩ (Laid.zero _ _ _) c2
  have c11 : Steps p.tables e below (s₁.setTop (entryFrame m #[.ref b, .int (Int32.ofNat o), .ref d, .int (Int32.ofNat q), .int (Int32.ofNat len)] 7)) (T9.setTop (mkF m 46 #[.val (.ref b), .val (.int (Int32.ofNat (o + len))), .val (.ref d), .val (.int (Int32.ofNat (q + len))), .val (.int (Int32.ofNat len)), .val (.int (Int32.ofNat len)), z9] [.int (Int32.ofNat len)])) := g9.trans (by
    refine XS.iload X9.here hexec rfl (hb hbytes d3) rfl ?_
    refine XS.iload X9.here hexec rfl (hb hbytes d5) rfl ?_
    refine XS.icmpYes X9.here hexec rfl (pc0 := 7) rfl (hb hbytes d7) rfl (ii_ge_t (nlt32 (by omega) (Nat.le_refl _))) (by decide) rfl ?_
    refine XS.iload X9.here hexec rfl (hb hbytes d44) rfl ?_
    exact Steps.refl _)
  exact ⟨T9, some (.int (Int32.ofNat len)), _, _, _, X9, by simp, rfl, rfl, (fun h => by cases h), ⟨rfl, B9, p9.from hh0, f9⟩, fun fs hl => c11.trans (X9.ireturnOut hexec hret rfl (Or.inl rfl) (hb hbytes d46) hl)⟩
end Cmp5
namespace Cmp3
def yN : MethodName := ⟨"java/lang/StringUTF16", "compress", "([CII)[B"⟩
abbrev yB : ByteArray := jdk_52_method_16_code
theorem d0 : decode yB 0 = .ok (.iload_n 2, 1) := by decide +kernel
theorem d1 : decode yB 1 = .ok (.newarray .byte, 2) := by decide +kernel
theorem d3 : decode yB 3 = .ok (.astore_n 3, 1) := by decide +kernel
theorem d4 : decode yB 4 = .ok (.aload_n 0, 1) := by decide +kernel
theorem d5 : decode yB 5 = .ok (.iload_n 1, 1) := by decide +kernel
theorem d6 : decode yB 6 = .ok (.aload_n 3, 1) := by decide +kernel
theorem d7 : decode yB 7 = .ok (.iconst 0, 1) := by decide +kernel
theorem d8 : decode yB 8 = .ok (.iload_n 2, 1) := by decide +kernel
theorem d9 : decode yB 9 = .ok (.invokestatic 115, 3) := by decide +kernel
theorem d12 : decode yB 12 = .ok (.istore 4, 2) := by decide +kernel
theorem d14 : decode yB 14 = .ok (.iload 4, 2) := by decide +kernel
theorem d16 : decode yB 16 = .ok (.iload_n 2, 1) := by decide +kernel
theorem d17 : decode yB 17 = .ok (.if_icmp (.eq) 40, 3) := by decide +kernel
theorem d57 : decode yB 57 = .ok (.aload_n 3, 1) := by decide +kernel
theorem d58 : decode yB 58 = .ok (.areturn, 1) := by decide +kernel
def site : List Cond := [.arrayClass .byte, Cmp5.tab] ++ staticW U16 115 Cmp5.yN
def tab : Cond := tabOf yN yB 6 (some (.array .byte)) site
def P (b : Addr) (A : Cell) (o len : Nat) (args : Array Value) (s : State) : Prop := args = #[.ref b, .int (Int32.ofNat o), .int (Int32.ofNat len)] ∧ Ch b A s ∧ o + len ≤ A.slots.size ∧ len ≤ 536870912 ∧ ∀ i, i < len → ¬ 255 < cv A (o + i)
def E (b : Addr) (A : Cell) (o len : Nat) (r : Option Value) (s u : State) : Prop := NewArr .byte "[B" len (fun j => .int (lo8 (cv A (o + j)))) r s u ∧ u.heap.size = s.heap.size + 1
/-- no char of the range above 255: a new byte[] of their low bytes -/
theorem law (l : Launch) (b : Addr) (A : Cell) (o len : Nat) : Law l yN 3 3 1 18 yB 6 (some (.array .byte)) site (P b A o len) (E b A o len) [] 1 len := by
  refine Law.of_walk (plainFor_of_name (by decide +kernel)) (by decide +kernel) (by decide +kernel) (by decide) (fun _ _ h => by rw [h.1]; rfl) (fun _ U U' hal hh h => ⟨h.1, h.2.1.mv hal hh, h.2.2⟩) (fun r U U' V V' h1 hal h2 h => ⟨NewArr.mv r U U' V V' h1 hal h2 h.1, by rw [h1, h2]; exact h.2⟩) ?_
  intro p e s m args below meth c s₁ X0 hexec hbytes hml hret hlk hnm hown hh0 W hP
  obtain ⟨rfl, hA, l1, l2, hp⟩ := hP
  have a31 := hA.1.2.2.2
  have c1 : Steps p.tables e below (s₁.setTop (entryFrame m #[.ref b, .int (Int32.ofNat o), .int (Int32.ofNat len)] 6)) (s₁.setTop (mkF m 0 #[.val (.ref b), .val (.int (Int32.ofNat o)), .val (.int (Int32.ofNat len)), .unset, .unset, .unset] [])) := entry rfl
  have c2 : Steps p.tables e below (s₁.setTop (entryFrame m #[.ref b, .int (Int32.ofNat o), .int (Int32.ofNat len)] 6)) (s₁.setTop (mkF m 1 #[.val (.ref b), .val (.int (Int32.ofNat o)), .val (.int (Int32.ofNat len)), .unset, .unset, .unset] [.int (Int32.ofNat len)])) := c1.trans (by
    refine XS.iloadN X0.here hexec rfl (hb hbytes d0) rfl ?_
    exact Steps.refl _)
  obtain ⟨T3, B3, X3, ba3, bs3, bv3, bh3, bf3, st3⟩ := X0.anew hexec (atype := .byte) (wk W (.arrayClass .byte)) rfl (by show len * 1 ≤ _; omega) (by omega) (g := (mkF m 1 #[.val (.ref b), .val (.int (Int32.ofNat o)), .val (.int (Int32.ofNat len)), .unset, .unset, .unset] [.int (Int32.ofNat len)])) rfl (hb hbytes d1) (rest := []) rfl (Nat.le_refl _) (by show 0 + len ≤ len; omega)
  rw [hh0] at ba3 st3
  have kp3 : XT.Kept s T3 := (XT.Kept.of_eq hh0).push bh3
  have hA3 := hA.keep X3.warmed.alike (kp3 _ _ hA.1.1)
  have hne : b ≠ s.heap.size := hA.1.ne
  have c4 : Steps p.tables e below (s₁.setTop (entryFrame m #[.ref b, .int (Int32.ofNat o), .int (Int32.ofNat len)] 6)) (T3.setTop (mkF m 3 #[.val (.ref b), .val (.int (Int32.ofNat o)), .val (.int (Int32.ofNat len)), .unset, .unset, .unset] [.ref s.heap.size])) := c2.trans (st3 _ (Steps.refl _))
  have c5 : Steps p.tables e below (s₁.setTop (entryFrame m #[.ref b, .int (Int32.ofNat o), .int (Int32.ofNat len)] 6)) (T3.setTop (mkF m 9 #[.val (.ref b), .val (.int (Int32.ofNat o)), .val (.int (Int32.ofNat len)), .val (.ref s.heap.size), .unset, .unset] [.int (Int32.ofNat len), .int 0, .ref s.heap.size, .int (Int32.ofNat o), .ref b])) := c4.trans (by
    refine XS.astoreN X3.here hexec rfl (hb hbytes d3) rfl rfl rfl ?_
    refine XS.aloadN X3.here hexec rfl (hb hbytes d4) rfl rfl ?_
    refine XS.iloadN X3.here hexec rfl (hb hbytes d5) rfl ?_
    refine XS.aloadN X3.here hexec rfl (hb hbytes d6) rfl rfl ?_
    refine iconstV X3.here hexec rfl 0 (hb hbytes d7) (by decide) ?_
    refine XS.iloadN X3.here hexec rfl (hb hbytes d8) rfl ?_
    exact Steps.refl _)
  obtain ⟨v6, T6, X6, E6, g6⟩ := X3.callS hexec (Cmp5.law l b A s.heap.size B3 o 0 len) hown (wks W (staticW U16 115 Cmp5.yN)) (wk W Cmp5.tab) (W := 0) (Nat.le_of_ble_eq_true rfl) (Nat.le_of_ble_eq_true rfl) (Nat.le_refl _) (by show 0 + len + 0 ≤ len; omega) (g := (mkF m 9 #[.val (.ref b), .val (.int (Int32.ofNat o)), .val (.int (Int32.ofNat len)), .val (.ref s.heap.size), .unset, .unset] [.int (Int32.ofNat len), .int (Int32.ofNat 0), .ref s.heap.size, .int (Int32.ofNat o), .ref b])) rfl (by rw [hml]; rfl) c5 (argsL := [.ref b, .int (Int32.ofNat o), .ref s.heap.size, .int (Int32.ofNat 0), .int (Int32.ofNat len)]) (rest := []) rfl rfl (by show 2 * 0 + 0 ≤ _; decide) (hb hbytes d9) (⟨rfl, hA3, ba3, hne, l1, by rw [bs3]; simp, hp⟩)
  obtain ⟨rfl, B6, p6, f6⟩ := E6
  have c7 : Steps p.tables e below (s₁.setTop (entryFrame m #[.ref b, .int (Int32.ofNat o), .int (Int32.ofNat len)] 6)) (T6.setTop (mkF m 12 #[.val (.ref b), .val (.int (Int32.ofNat o)), .val (.int (Int32.ofNat len)), .val (.ref s.heap.size), .unset, .unset] [.int (Int32.ofNat len)])) := g6
  have c8 : Steps p.tables e below (s₁.setTop (entryFrame m #[.ref b, .int (Int32.ofNat o), .int (Int32.ofNat len)] 6)) (T6.setTop (mkF m 58 #[.val (.ref b), .val (.int (Int32.ofNat o)), .val (.int (Int32.ofNat len)), .val (.ref s.heap.size), .val (.int (Int32.ofNat len)), .unset] [.ref s.heap.size])) := c7.trans (by
    refine XS.istore X6.here hexec rfl (hb hbytes d12) rfl rfl ?_
    refine XS.iload X6.here hexec rfl (hb hbytes d14) rfl ?_
    refine XS.iloadN X6.here hexec rfl (hb hbytes d16) rfl ?_
    refine XS.icmpYes X6.here hexec rfl (pc0 := 17) rfl (hb hbytes d17) rfl (ii_eq_t rfl) (by decide) rfl ?_
    refine XS.aloadN X6.here hexec rfl (hb hbytes d57) rfl rfl ?_
    exact Steps.refl _)
  have X8 := X6.wide (L' := []) (cells' := 1) (slots' := len) (fun x hx hlt => by
    simp only [List.nil_append, copyLocs, List.mem_map, List.mem_range] at hx
    obtain ⟨i, -, rfl⟩ := hx
    exact absurd hlt (Nat.lt_irrefl _)) (Nat.le_refl _) (by omega)
  exact ⟨T6, some (.ref s.heap.size), _, _, _, X8, rfl, rfl, rfl, (fun h => by cases h), ⟨⟨rfl, B6, ba3.like (X3.warmed.alike.symm.trans X6.warmed.alike) p6.1 f6.1 f6.2.1 f6.2.2.1, f6.2.1.trans bv3, by rw [X6.warmed.alike.findClass, f6.1]; exact bf3, by rw [f6.2.2.1, bs3]; simp, fun j hj => by rw [f6.2.2.2 j, if_pos (by omega)]; rfl, kp3.put p6 (Nat.le_refl _)⟩, by rw [p6.2.2, bh3, hh0]; simp⟩, fun fs hl => c8.trans (X8.areturnOut hexec rfl hret rfl (hb hbytes d58) hl)⟩
end Cmp3
namespace CodL
def yN : MethodName := ⟨"java/lang/StringUTF16", "coderFromArrayLen", "([BI)B"⟩
abbrev yB : ByteArray := jdk_52_method_15_code
theorem d0 : decode yB 0 = .ok (.iload_n 1, 1) := by decide +kernel
theorem d1 : decode yB 1 = .ok (.aload_n 0, 1) := by decide +kernel
theorem d2 : decode yB 2 = .ok (.arraylength, 1) := by decide +kernel
theorem d3 : decode yB 3 = .ok (.isub, 1) := by decide +kernel
theorem d4 : decode yB 4 = .ok (.bipush 31, 2) := by decide +kernel
theorem d6 : decode yB 6 = .ok (.iushr, 1) := by decide +kernel
theorem d7 : decode yB 7 = .ok (.i2b, 1) := by decide +kernel
theorem d8 : decode yB 8 = .ok (.ireturn, 1) := by decide +kernel
def site : List Cond := []
def tab : Cond := tabOf yN yB 2 (some .byte) site
def P (d : Addr) (B : Cell) (args : Array Value) (s : State) : Prop := args = #[.ref d, .int (Int32.ofNat B.slots.size)] ∧ Arr .byte d B s
def E (r : Option Value) (s u : State) : Prop := XT.PureE (some (.int 0)) r s u
/-- an array as long as the number of chars: LATIN1 -/
theorem law (l : Launch) (d : Addr) (B : Cell) : Law l yN 2 2 0 0 yB 2 (some .byte) site (P d B) E [] 0 0 := by
  refine Law.of_walk (plainFor_of_name (by decide +kernel)) (by decide +kernel) (by decide +kernel) (by decide) (fun _ _ h => by rw [h.1]; rfl) (fun _ U U' hal hh h => ⟨h.1, h.2.mv hal hh⟩) (fun r U U' V V' h1 hal h2 h => XT.PureE.mv r U U' V V' h1 hal h2 h) ?_
  intro p e s m args below meth c s₁ X0 hexec hbytes hml hret hlk hnm hown hh0 W hP
  obtain ⟨rfl, hB⟩ := hP
  have hB0 := hB.mv X0.warmed.alike hh0
  have c1 : Steps p.tables e below (s₁.setTop (entryFrame m #[.ref d, .int (Int32.ofNat B.slots.size)] 2)) (s₁.setTop (mkF m 0 #[.val (.ref d), .val (.int (Int32.ofNat B.slots.size))] [])) := entry rfl
  have c2 : Steps p.tables e below (s₁.setTop (entryFrame m #[.ref d, .int (Int32.ofNat B.slots.size)] 2)) (s₁.setTop (mkF m 2 #[.val (.ref d), .val (.int (Int32.ofNat B.slots.size))] [.ref d, .int (Int32.ofNat B.slots.size)])) := c1.trans (by
    refine XS.iloadN X0.here hexec rfl (hb hbytes d0) rfl ?_
    refine XS.aloadN X0.here hexec rfl (hb hbytes d1) rfl rfl ?_
    exact Steps.refl _)
  have c3 : Steps p.tables e below (s₁.setTop (entryFrame m #[.ref d, .int (Int32.ofNat B.slots.size)] 2)) (s₁.setTop (mkF m 8 #[.val (.ref d), .val (.int (Int32.ofNat B.slots.size))] [.int (lo8 (ushr (Int32.ofNat B.slots.size - Int32.ofNat B.slots.size) 31))])) := c2.trans (by
    refine X0.alen hexec hB0 rfl rfl (hb hbytes d2) ?_
    refine XS.isub X0.here hexec rfl (hb hbytes d3) rfl ?_
    refine bipushV X0.here hexec rfl 31 (hb hbytes d4) (by decide) ?_
    refine iushr X0.here hexec rfl (hb hbytes d6) rfl ?_
    refine i2b X0.here hexec rfl (hb hbytes d7) rfl ?_
    exact Steps.refl _)
  have e0 : lo8 (ushr (Int32.ofNat B.slots.size - Int32.ofNat B.slots.size) 31) = 0 := by rw [Int32.sub_self]; decide
  rw [e0] at c3
  exact ⟨s₁, some (.int 0), _, _, _, X0, rfl, rfl, rfl, (fun h => by cases h), ⟨rfl, hh0⟩, fun fs hl => c3.trans (X0.ireturnOut hexec hret rfl (Or.inr (Or.inr (Or.inl rfl))) (hb hbytes d8) hl)⟩
end CodL
/-- the String at a is Latin-1 over a new byte[] (the heap's one new cell): the low bytes of the len chars of A from o on; every cell but a is kept -/
def Got (a : Addr) (D : Cell) (fV fC : Field) (A : Cell) (o len : Nat) (r : Option Value) (s u : State) : Prop := r = none ∧ ∃ D' V : Cell, Blank "java/lang/String" a D' u ∧ Same D D' [fV.slot, fC.slot] ∧ D'.slots[fV.slot]? = some (.ref s.heap.size) ∧ D'.slots[fC.slot]? = some (.int 0) ∧ Arr .byte s.heap.size V u ∧ V.vm = .none ∧ u.vm.findClass "[B" = some V.cls ∧ V.slots.size = len ∧ (∀ j, j < len → V.slots[j]? = some (.int (lo8 (cv A (o + j))))) ∧ (∀ (y : Addr) (c : Cell), y ≠ a → s.heap[y]? = some c → u.heap[y]? = some c) ∧ u.heap.size = s.heap.size + 1
theorem Got.mv {a : Addr} {D A : Cell} {fV fC : Field} {o len : Nat} : ∀ r (U U' V V' : State), U'.heap = U.heap → V.vm.Alike V'.vm → V'.heap = V.heap → Got a D fV fC A o len r U V → Got a D fV fC A o len r U' V' :=
  fun r U U' V V' h1 hal h2 ⟨e0, D', X, a1, a2, a3, a4, a5, a6, a7, a8, a9, a10, a11⟩ => ⟨e0, D', X, a1.mv hal h2, a2, by rw [h1]; exact a3, a4, by rw [h1]; exact a5.mv hal h2, a6, by rw [hal.findClass]; exact a7, a8, a9, by rw [h1, h2]; exact a10, by rw [h1, h2]; exact a11⟩
namespace New4
def yN : MethodName := ⟨"java/lang/String", "<init>", "([CIILjava/lang/Void;)V"⟩
abbrev yB : ByteArray := jdk_42_method_149_code
theorem d0 : decode yB 0 = .ok (.aload_n 0, 1) := by decide +kernel
theorem d1 : decode yB 1 = .ok (.invokespecial 1, 3) := by decide +kernel
theorem d4 : decode yB 4 = .ok (.iload_n 3, 1) := by decide +kernel
theorem d5 : decode yB 5 = .ok (.ifCond (.ne) 22, 3) := by decide +kernel
theorem d27 : decode yB 27 = .ok (.getstatic 38, 3) := by decide +kernel
theorem d30 : decode yB 30 = .ok (.ifCond (.eq) 28, 3) := by decide +kernel
theorem d33 : decode yB 33 = .ok (.aload_n 1, 1) := by decide +kernel
theorem d34 : decode yB 34 = .ok (.iload_n 2, 1) := by decide +kernel
theorem d35 : decode yB 35 = .ok (.iload_n 3, 1) := by decide +kernel
theorem d36 : decode yB 36 = .ok (.invokestatic 177, 3) := by decide +kernel
theorem d39 : decode yB 39 = .ok (.astore 5, 2) := by decide +kernel
theorem d41 : decode yB 41 = .ok (.aload_n 0, 1) := by decide +kernel
theorem d42 : decode yB 42 = .ok (.aload 5, 2) := by decide +kernel
theorem d44 : decode yB 44 = .ok (.iload_n 3, 1) := by decide +kernel
theorem d45 : decode yB 45 = .ok (.invokestatic 47, 3) := by decide +kernel
theorem d48 : decode yB 48 = .ok (.putfield 15, 3) := by decide +kernel
theorem d51 : decode yB 51 = .ok (.aload_n 0, 1) := by decide +kernel
theorem d52 : decode yB 52 = .ok (.aload 5, 2) := by decide +kernel
theorem d54 : decode yB 54 = .ok (.putfield 9, 3) := by decide +kernel
theorem d57 : decode yB 57 = .ok (.return_, 1) := by decide +kernel
def site : List Cond := [.fieldLink "java/lang/String" 38 "java/lang/String" "COMPACT_STRINGS" "Z", Cmp3.tab, CodL.tab, .laysFinal "java/lang/String" "java/lang/String" "value" "[B", .fieldLink "java/lang/String" 9 "java/lang/String" "value" "[B", .laysFinal "java/lang/String" "java/lang/String" "coder" "B", .fieldLink "java/lang/String" 15 "java/lang/String" "coder" "B"] ++ objW "java/lang/String" 1 ++ staticW "java/lang/String" 177 Cmp3.yN ++ staticW "java/lang/String" 47 CodL.yN
def tab : Cond := tabOf yN yB 6 none site
def P (a : Addr) (D : Cell) (fV fC : Field) (b : Addr) (A : Cell) (z : Int32) (o len : Nat) (args : Array Value) (s : State) : Prop := args = #[.ref a, .ref b, .int (Int32.ofNat o), .int (Int32.ofNat len), .null] ∧ Blank "java/lang/String" a D s ∧ Found "java/lang/String" "value" "[B" fV s ∧ Found "java/lang/String" "coder" "B" fC s ∧ Ch b A s ∧ StaticIs s "java/lang/String" "COMPACT_STRINGS" "Z" (.int z) ∧ ¬ z = 0 ∧ 0 < len ∧ o + len ≤ A.slots.size ∧ len ≤ 536870912 ∧ ∀ i, i < len → ¬ 255 < cv A (o + i)
def E (a : Addr) (D : Cell) (fV fC : Field) (A : Cell) (o len : Nat) (r : Option Value) (s u : State) : Prop := Got a D fV fC A o len r s u
/-- len > 0, no char of the range above 255: a Latin-1 String of their low bytes -/
theorem law (l : Launch) (a : Addr) (D : Cell) (fV fC : Field) (b : Addr) (A : Cell) (z : Int32) (o len : Nat) : Law l yN 5 4 2 35 yB 6 none site (P a D fV fC b A z o len) (E a D fV fC A o len) [⟨a, fC.slot⟩, ⟨a, fV.slot⟩] 1 len := by
  refine Law.of_walk (plainFor_of_name (by decide +kernel)) (by decide +kernel) (by decide +kernel) (by decide) (fun _ _ h => by rw [h.1]; rfl) (fun _ U U' hal hh h => ⟨h.1, h.2.1.mv hal hh, h.2.2.1.al hal, h.2.2.2.1.al hal, h.2.2.2.2.1.mv hal hh, h.2.2.2.2.2.1.there hal hh, h.2.2.2.2.2.2⟩) (fun r U U' V V' h1 hal h2 h => Got.mv r U U' V V' h1 hal h2 h) ?_
  intro p e s m args below meth c s₁ X0 hexec hbytes hml hret hlk hnm hown hh0 W hP
  obtain ⟨rfl, hB, f1, f2, hA, s1, hz, l0, l1, l2, hp⟩ := hP
  have a31 := hA.1.2.2.2
  have c1 : Steps p.tables e below (s₁.setTop (entryFrame m #[.ref a, .ref b, .int (Int32.ofNat o), .int (Int32.ofNat len), .null] 6)) (s₁.setTop (mkF m 0 #[.val (.ref a), .val (.ref b), .val (.int (Int32.ofNat o)), .val (.int (Int32.ofNat len)), .val .null, .unset] [])) := entry rfl
  have c2 : Steps p.tables e below (s₁.setTop (entryFrame m #[.ref a, .ref b, .int (Int32.ofNat o), .int (Int32.ofNat len), .null] 6)) (s₁.setTop (mkF m 1 #[.val (.ref a), .val (.ref b), .val (.int (Int32.ofNat o)), .val (.int (Int32.ofNat len)), .val .null, .unset] [.ref a])) := c1.trans (by
    refine XS.aloadN X0.here hexec rfl (hb hbytes d0) rfl rfl ?_
    exact Steps.refl _)
  obtain ⟨T3, X3, q3, st3⟩ := X0.oinit hexec hown (wks W (objW "java/lang/String" 1)) (g := (mkF m 1 #[.val (.ref a), .val (.ref b), .val (.int (Int32.ofNat o)), .val (.int (Int32.ofNat len)), .val .null, .unset] [.ref a])) rfl (by rw [hml]; rfl) (rest := []) rfl (hb hbytes d1) (W := 0) (by show 2 * 0 + 0 ≤ _; decide) (Nat.le_of_ble_eq_true rfl) (Nat.le_of_ble_eq_true rfl)
  have hh3 := q3.trans hh0
  have c4 : Steps p.tables e below (s₁.setTop (entryFrame m #[.ref a, .ref b, .int (Int32.ofNat o), .int (Int32.ofNat len), .null] 6)) (T3.setTop (mkF m 27 #[.val (.ref a), .val (.ref b), .val (.int (Int32.ofNat o)), .val (.int (Int32.ofNat len)), .val .null, .unset] [])) := (c2.trans (st3 _ (Steps.refl _))).trans (by
    refine XS.iloadN X3.here hexec rfl (hb hbytes d4) rfl ?_
    refine XS.ifYes X3.here hexec rfl (pc0 := 5) rfl (hb hbytes d5) rfl (i0_ne_t (nz32 (by omega) l0)) (by decide) rfl ?_
    exact Steps.refl _)
  obtain ⟨T5, X5, q5, st5⟩ := X3.sget hexec hown (wk W (.fieldLink "java/lang/String" 38 "java/lang/String" "COMPACT_STRINGS" "Z")) s1 (fun _ _ h => by rw [hh3]; exact h) (g := (mkF m 27 #[.val (.ref a), .val (.ref b), .val (.int (Int32.ofNat o)), .val (.int (Int32.ofNat len)), .val .null, .unset] [])) rfl (hb hbytes d27)
  have hh5 := q5.trans hh3
  have c6 : Steps p.tables e below (s₁.setTop (entryFrame m #[.ref a, .ref b, .int (Int32.ofNat o), .int (Int32.ofNat len), .null] 6)) (T5.setTop (mkF m 30 #[.val (.ref a), .val (.ref b), .val (.int (Int32.ofNat o)), .val (.int (Int32.ofNat len)), .val .null, .unset] [.int z])) := c4.trans (st5 _ (Steps.refl _))
  have c7 : Steps p.tables e below (s₁.setTop (entryFrame m #[.ref a, .ref b, .int (Int32.ofNat o), .int (Int32.ofNat len), .null] 6)) (T5.setTop (mkF m 36 #[.val (.ref a), .val (.ref b), .val (.int (Int32.ofNat o)), .val (.int (Int32.ofNat len)), .val .null, .unset] [.int (Int32.ofNat len), .int (Int32.ofNat o), .ref b])) := c6.trans (by
    refine XS.ifNo X5.here hexec rfl (hb hbytes d30) rfl (i0_eq_f hz) ?_
    refine XS.aloadN X5.here hexec rfl (hb hbytes d33) rfl rfl ?_
    refine XS.iloadN X5.here hexec rfl (hb hbytes d34) rfl ?_
    refine XS.iloadN X5.here hexec rfl (hb hbytes d35) rfl ?_
    exact Steps.refl _)
  obtain ⟨v8, T8, X8, E8, g8⟩ := X5.callS hexec (Cmp3.law l b A o len) hown (wks W (staticW "java/lang/String" 177 Cmp3.yN)) (wk W Cmp3.tab) (W := 0) (Nat.le_of_ble_eq_true rfl) (Nat.le_of_ble_eq_true rfl) (Nat.le_refl _) (by show 0 + len ≤ len; omega) (g := (mkF m 36 #[.val (.ref a), .val (.ref b), .val (.int (Int32.ofNat o)), .val (.int (Int32.ofNat len)), .val .null, .unset] [.int (Int32.ofNat len), .int (Int32.ofNat o), .ref b])) rfl (by rw [hml]; rfl) c7 (argsL := [.ref b, .int (Int32.ofNat o), .int (Int32.ofNat len)]) (rest := []) rfl rfl (by show 2 * 0 + 0 ≤ _; decide) (hb hbytes d36) (⟨rfl, hA.mv X5.warmed.alike hh5, l1, l2, hp⟩)
  obtain ⟨e8, z8⟩ := E8
  obtain ⟨rfl, N, n1, n2, n3, n4, n5, n6⟩ := NewArr.mv _ T5 s _ _ hh5.symm (Vm.Alike.refl _) rfl e8
  rw [hh5] at z8
  have hB1 := hB.keep X8.warmed.alike (n6 _ _ hB.1)
  have hne : s.heap.size ≠ a := (Nat.ne_of_lt (Array.getElem?_eq_some_iff.mp hB.1).1).symm
  have c9 : Steps p.tables e below (s₁.setTop (entryFrame m #[.ref a, .ref b, .int (Int32.ofNat o), .int (Int32.ofNat len), .null] 6)) (T8.setTop (mkF m 39 #[.val (.ref a), .val (.ref b), .val (.int (Int32.ofNat o)), .val (.int (Int32.ofNat len)), .val .null, .unset] [.ref s.heap.size])) := g8
  have c10 : Steps p.tables e below (s₁.setTop (entryFrame m #[.ref a, .ref b, .int (Int32.ofNat o), .int (Int32.ofNat len), .null] 6)) (T8.setTop (mkF m 45 #[.val (.ref a), .val (.ref b), .val (.int (Int32.ofNat o)), .val (.int (Int32.ofNat len)), .val .null, .val (.ref s.heap.size)] [.int (Int32.ofNat N.slots.size), .ref s.heap.size, .ref a])) := by
    have hc : Steps p.tables e below (s₁.setTop (entryFrame m #[.ref a, .ref b, .int (Int32.ofNat o), .int (Int32.ofNat len), .null] 6)) (T8.setTop (mkF m 45 #[.val (.ref a), .val (.ref b), .val (.int (Int32.ofNat o)), .val (.int (Int32.ofNat len)), .val .null, .val (.ref s.heap.size)] [.int (Int32.ofNat len), .ref s.heap.size, .ref a])) := c9.trans (by
      refine XS.astore X8.here hexec rfl (hb hbytes d39) rfl rfl rfl ?_
      refine XS.aloadN X8.here hexec rfl (hb hbytes d41) rfl rfl ?_
      refine XS.aload X8.here hexec rfl (hb hbytes d42) rfl rfl ?_
      refine XS.iloadN X8.here hexec rfl (hb hbytes d44) rfl ?_
      exact Steps.refl _)
    rw [n4]; exact hc
  obtain ⟨v11, T11, X11, E11, g11⟩ := X8.callS hexec (CodL.law l s.heap.size N) hown (wks W (staticW "java/lang/String" 47 CodL.yN)) (wk W CodL.tab) (W := 1) (Nat.le_of_ble_eq_true rfl) (Nat.le_of_ble_eq_true rfl) (Nat.le_refl _) (by show 0 + len + 0 ≤ len; omega) (g := (mkF m 45 #[.val (.ref a), .val (.ref b), .val (.int (Int32.ofNat o)), .val (.int (Int32.ofNat len)), .val .null, .val (.ref s.heap.size)] [.int (Int32.ofNat N.slots.size), .ref s.heap.size, .ref a])) rfl (by rw [hml]; rfl) c10 (argsL := [.ref s.heap.size, .int (Int32.ofNat N.slots.size)]) (rest := [.ref a]) rfl rfl (by show 2 * 0 + (1 + 0) ≤ _; decide) (hb hbytes d45) (⟨rfl, n1⟩)
  obtain ⟨rfl, q11⟩ := E11
  have hB11 := hB1.mv (X8.warmed.alike.symm.trans X11.warmed.alike) q11
  have c12 : Steps p.tables e below (s₁.setTop (entryFrame m #[.ref a, .ref b, .int (Int32.ofNat o), .int (Int32.ofNat len), .null] 6)) (T11.setTop (mkF m 48 #[.val (.ref a), .val (.ref b), .val (.int (Int32.ofNat o)), .val (.int (Int32.ofNat len)), .val .null, .val (.ref s.heap.size)] [.int 0, .ref a])) := g11
  obtain ⟨T13, X13, p13, bl13, sl13, st13⟩ := X11.finit hexec hown (wk W (.fieldLink "java/lang/String" 15 "java/lang/String" "coder" "B")) (Or.inr ⟨_, (wk W (.laysFinal "java/lang/String" "java/lang/String" "coder" "B"))⟩) (Or.inl ⟨rfl, hnm⟩) f2 (Or.inl rfl) hB11 (t := .byte) (by decide +kernel) rfl (g := (mkF m 48 #[.val (.ref a), .val (.ref b), .val (.int (Int32.ofNat o)), .val (.int (Int32.ofNat len)), .val .null, .val (.ref s.heap.size)] [.int 0, .ref a])) rfl (rest := []) rfl (hb hbytes d48)
  have c14 : Steps p.tables e below (s₁.setTop (entryFrame m #[.ref a, .ref b, .int (Int32.ofNat o), .int (Int32.ofNat len), .null] 6)) (T13.setTop (mkF m 54 #[.val (.ref a), .val (.ref b), .val (.int (Int32.ofNat o)), .val (.int (Int32.ofNat len)), .val .null, .val (.ref s.heap.size)] [.ref s.heap.size, .ref a])) := (c12.trans (st13 _ (Steps.refl _))).trans (by
    refine XS.aloadN X13.here hexec rfl (hb hbytes d51) rfl rfl ?_
    refine XS.aload X13.here hexec rfl (hb hbytes d52) rfl rfl ?_
    exact Steps.refl _)
  obtain ⟨T15, X15, p15, bl15, sl15, st15⟩ := X13.finit hexec hown (wk W (.fieldLink "java/lang/String" 9 "java/lang/String" "value" "[B")) (Or.inr ⟨_, (wk W (.laysFinal "java/lang/String" "java/lang/String" "value" "[B"))⟩) (Or.inl ⟨rfl, hnm⟩) f1 (Or.inl rfl) bl13 (t := (.array .byte)) (by decide +kernel) rfl (g := (mkF m 54 #[.val (.ref a), .val (.ref b), .val (.int (Int32.ofNat o)), .val (.int (Int32.ofNat len)), .val .null, .val (.ref s.heap.size)] [.ref s.heap.size, .ref a])) rfl (rest := []) rfl (hb hbytes d54)
  have c16 : Steps p.tables e below (s₁.setTop (entryFrame m #[.ref a, .ref b, .int (Int32.ofNat o), .int (Int32.ofNat len), .null] 6)) (T15.setTop (mkF m 57 #[.val (.ref a), .val (.ref b), .val (.int (Int32.ofNat o)), .val (.int (Int32.ofNat len)), .val .null, .val (.ref s.heap.size)] [])) := c14.trans (st15 _ (Steps.refl _))
  have ap := apart (Or.inr ⟨_, (wk W (.laysFinal "java/lang/String" "java/lang/String" "value" "[B"))⟩) (Or.inr ⟨_, (wk W (.laysFinal "java/lang/String" "java/lang/String" "coder" "B"))⟩) f1 f2 (t₁ := .array .byte) (t₂ := .byte) (by decide +kernel) (by decide +kernel) (by decide)
  have al := X8.warmed.alike.symm.trans X15.warmed.alike
  have n7 : T11.heap[s.heap.size]? = some N := by rw [q11]; exact n1.1
  exact ⟨T15, none, _, _, _, X15, by simp, rfl, by omega, (fun _ => rfl), ⟨rfl, _, N, bl15, ((Same.refl D _).set _ (by simp)).set _ (by simp), sl15, (Cell.slots_setSlot_ne _ ap).trans sl13, n1.keep al (p15.other hne (p13.other hne n7)), n2, by rw [al.findClass]; exact n3, n4, n5, fun y c h1 h2 => p15.other h1 (p13.other h1 (by rw [q11]; exact n6 y c h2)), by rw [p15.2.2, p13.2.2, q11]; exact z8⟩, fun fs hl => c16.trans (X15.returnOut hexec hret (hb hbytes d57) hl)⟩
end New4
namespace New1
def yN : MethodName := ⟨"java/lang/String", "<init>", "([C)V"⟩
abbrev yB : ByteArray := jdk_42_method_3_code
theorem d0 : decode yB 0 = .ok (.aload_n 0, 1) := by decide +kernel
theorem d1 : decode yB 1 = .ok (.aload_n 1, 1) := by decide +kernel
theorem d2 : decode yB 2 = .ok (.iconst 0, 1) := by decide +kernel
theorem d3 : decode yB 3 = .ok (.aload_n 1, 1) := by decide +kernel
theorem d4 : decode yB 4 = .ok (.arraylength, 1) := by decide +kernel
theorem d5 : decode yB 5 = .ok (.aconst_null, 1) := by decide +kernel
theorem d6 : decode yB 6 = .ok (.invokespecial 27, 3) := by decide +kernel
theorem d9 : decode yB 9 = .ok (.return_, 1) := by decide +kernel
def site : List Cond := [New4.tab] ++ initW "java/lang/String" 27 New4.yN
def tab : Cond := tabOf yN yB 2 none site
def P (a : Addr) (D : Cell) (fV fC : Field) (b : Addr) (A : Cell) (z : Int32) (args : Array Value) (s : State) : Prop := args = #[.ref a, .ref b] ∧ Blank "java/lang/String" a D s ∧ Found "java/lang/String" "value" "[B" fV s ∧ Found "java/lang/String" "coder" "B" fC s ∧ Ch b A s ∧ StaticIs s "java/lang/String" "COMPACT_STRINGS" "Z" (.int z) ∧ ¬ z = 0 ∧ 0 < A.slots.size ∧ A.slots.size ≤ 536870912 ∧ ∀ i, i < A.slots.size → ¬ 255 < cv A i
def E (a : Addr) (D : Cell) (fV fC : Field) (A : Cell) (r : Option Value) (s u : State) : Prop := Got a D fV fC A 0 A.slots.size r s u
/-- new String(chars), not empty, no char above 255: a Latin-1 String of their low bytes -/
theorem law (l : Launch) (a : Addr) (D : Cell) (fV fC : Field) (b : Addr) (A : Cell) (z : Int32) : Law l yN 2 1 3 52 yB 2 none site (P a D fV fC b A z) (E a D fV fC A) [⟨a, fC.slot⟩, ⟨a, fV.slot⟩] 1 A.slots.size := by
  refine Law.of_walk (plainFor_of_name (by decide +kernel)) (by decide +kernel) (by decide +kernel) (by decide) (fun _ _ h => by rw [h.1]; rfl) (fun _ U U' hal hh h => ⟨h.1, h.2.1.mv hal hh, h.2.2.1.al hal, h.2.2.2.1.al hal, h.2.2.2.2.1.mv hal hh, h.2.2.2.2.2.1.there hal hh, h.2.2.2.2.2.2⟩) (fun r U U' V V' h1 hal h2 h => Got.mv r U U' V V' h1 hal h2 h) ?_
  intro p e s m args below meth c s₁ X0 hexec hbytes hml hret hlk hnm hown hh0 W hP
  obtain ⟨rfl, hB, f1, f2, hA, s1, hz, l0, l2, hp⟩ := hP
  have c1 : Steps p.tables e below (s₁.setTop (entryFrame m #[.ref a, .ref b] 2)) (s₁.setTop (mkF m 0 #[.val (.ref a), .val (.ref b)] [])) := entry rfl
  have c2 : Steps p.tables e below (s₁.setTop (entryFrame m #[.ref a, .ref b] 2)) (s₁.setTop (mkF m 6 #[.val (.ref a), .val (.ref b)] [.null, .int (Int32.ofNat A.slots.size), .int 0, .ref b, .ref a])) := c1.trans (by
    refine XS.aloadN X0.here hexec rfl (hb hbytes d0) rfl rfl ?_
    refine XS.aloadN X0.here hexec rfl (hb hbytes d1) rfl rfl ?_
    refine iconstV X0.here hexec rfl 0 (hb hbytes d2) (by decide) ?_
    refine XS.aloadN X0.here hexec rfl (hb hbytes d3) rfl rfl ?_
    refine X0.alen hexec (hA.1.mv X0.warmed.alike hh0) rfl rfl (hb hbytes d4) ?_
    refine XS.aconstNull X0.here hexec rfl (hb hbytes d5) ?_
    exact Steps.refl _)
  obtain ⟨v3, T3, X3, E3, g3⟩ := X0.callN hexec (New4.law l a D fV fC b A z 0 A.slots.size) rfl hown (wks W (initW "java/lang/String" 27 New4.yN)) (W New4.tab (by simp only [site, List.mem_cons, List.mem_append, true_or, or_true])) (W := 0) (Nat.le_of_ble_eq_true rfl) (Nat.le_of_ble_eq_true rfl) (Nat.le_refl _) (by show 0 + A.slots.size ≤ A.slots.size; omega) (g := (mkF m 6 #[.val (.ref a), .val (.ref b)] [.null, .int (Int32.ofNat A.slots.size), .int (Int32.ofNat 0), .ref b, .ref a])) rfl (by rw [hml]; rfl) c2 (argsL := [.ref b, .int (Int32.ofNat 0), .int (Int32.ofNat A.slots.size), .null]) (rest := []) rfl rfl (by show 2 * 0 + 0 ≤ _; decide) (hb hbytes d6) (⟨rfl, hB.mv X0.warmed.alike hh0, f1.al X0.warmed.alike, f2.al X0.warmed.alike, hA.mv X0.warmed.alike hh0, s1.there X0.warmed.alike hh0, hz, l0, by omega, l2, fun i hi => by rw [Nat.zero_add]; exact hp i hi⟩)
  have e0 := Got.mv _ s₁ s _ _ hh0.symm (Vm.Alike.refl _) rfl E3
  obtain rfl := e0.1
  have c4 : Steps p.tables e below (s₁.setTop (entryFrame m #[.ref a, .ref b] 2)) (T3.setTop (mkF m 9 #[.val (.ref a), .val (.ref b)] [])) := g3
  exact ⟨T3, none, _, _, _, X3, by simp, rfl, by omega, (fun _ => rfl), e0, fun fs hl => c4.trans (X3.returnOut hexec hret (hb hbytes d9) hl)⟩
theorem pays {l : Launch} {R : Room} {p : Program} {e : Env} {below : List Frame} {s : State} {sargs : Array Value} {len W : Nat} (a : Addr) (D : Cell) (fV fC : Field) (b : Addr) (A : Cell) (z : Int32) (htab : tab.before sargs s = true) (hfr : 4 ≤ R.frames) (hlo : W + 65 ≤ R.locals) :
    Back l R p e below s sargs yN len W (fun A₁ a₁ => A₁.cells + 1 ≤ R.cells ∧ A₁.slots + A.slots.size ≤ R.slots ∧ P a D fV fC b A z a₁ A₁.U) (fun A₁ _ v₁ B₁ => E a D fV fC A v₁ A₁.U B₁.U ∧ B₁.locs = A₁.locs ++ [⟨a, fC.slot⟩, ⟨a, fV.slot⟩] ∧ B₁.cells = A₁.cells + 1 ∧ B₁.slots = A₁.slots + A.slots.size) :=
  (law l a D fV fC b A z).pays htab hfr (by omega)
end New1
/-- the byte, read back as charAt reads it, is the char -/
theorem lo8_mask {x : Int32} (h0 : ¬ x < 0) (h1 : ¬ 255 < x) : lo8 x &&& 255 = x := by
  have t : ∀ k : Fin 256, lo8 (Int32.ofNat k.val) &&& 255 = Int32.ofNat k.val := by decide +kernel
  rw [Int32.lt_iff_toInt_lt] at h0 h1
  have e0 : (0 : Int32).toInt = 0 := rfl
  have e1 : (255 : Int32).toInt = 255 := rfl
  obtain ⟨k, hk⟩ : ∃ k : Nat, x.toInt = k := ⟨x.toInt.toNat, by omega⟩
  have hx : x = Int32.ofNat k := Int32.toInt_inj.mp (by rw [hk, Int32.toInt_ofNat_small (by omega)])
  rw [hx]
  exact t ⟨k, by omega⟩
end StrChars
namespace StrChars.Road
open Jvm Sem ClassFile Op Lib Jvm.Stand Jvm.Free Jvm.Free.XT
open Jvm.Lib.Cold (StaticIs)
abbrev ST : String := "java/lang/String"
/-- every table word that New1's law asks, flat -/
abbrev words : List Jvm.Cond := [.code New1.yN New1.yB 2 none, .initialized ST, .methodLink ST 27 New4.yN, .instanceMethod New4.yN,
  .code New4.yN New4.yB 6 none, .fieldLink ST 38 ST "COMPACT_STRINGS" "Z", .laysFinal ST ST "value" "[B", .fieldLink ST 9 ST "value" "[B", .laysFinal ST ST "coder" "B", .fieldLink ST 15 ST "coder" "B",
  .methodLink ST 1 Lib.objectInit, .instanceMethod Lib.objectInit, .code Lib.objectInit ⟨#[0xb1]⟩ 1 none, .methodLink ST 177 Cmp3.yN, .static Cmp3.yN, .methodLink ST 47 CodL.yN, .static CodL.yN,
  .code Cmp3.yN Cmp3.yB 6 (some (.array .byte)), .initialized U16, .arrayClass .byte, .methodLink U16 115 Cmp5.yN, .static Cmp5.yN, .code Cmp5.yN Cmp5.yB 7 (some .int), .code CodL.yN CodL.yB 2 (some .byte)]
theorem tab_of {a : Array Value} {s : State} (h : ∀ w ∈ words, w.before a s = true) : New1.tab.before a s = true := by
  have h5 : Cmp5.tab.before a s = true := unparts (wk h (.code Cmp5.yN Cmp5.yB 7 (some .int))) (wks h (.initialized Cmp5.yN.cls :: Cmp5.site))
  have hc : CodL.tab.before a s = true := unparts (wk h (.code CodL.yN CodL.yB 2 (some .byte))) (wks h (.initialized CodL.yN.cls :: CodL.site))
  have q5 : ∀ w ∈ Cmp5.tab :: words, w.before a s = true := fun w hw => (List.mem_cons.mp hw).elim (fun e => e ▸ h5) (h w)
  have h3 : Cmp3.tab.before a s = true := unparts (wk q5 (.code Cmp3.yN Cmp3.yB 6 (some (.array .byte)))) (wks q5 (.initialized Cmp3.yN.cls :: Cmp3.site))
  have q3 : ∀ w ∈ Cmp3.tab :: CodL.tab :: words, w.before a s = true := fun w hw => (List.mem_cons.mp hw).elim (fun e => e ▸ h3) fun hw => (List.mem_cons.mp hw).elim (fun e => e ▸ hc) (h w)
  have h4 : New4.tab.before a s = true := unparts (wk q3 (.code New4.yN New4.yB 6 none)) (wks q3 (.initialized New4.yN.cls :: New4.site))
  have q4 : ∀ w ∈ New4.tab :: words, w.before a s = true := fun w hw => (List.mem_cons.mp hw).elim (fun e => e ▸ h4) (h w)
  exact unparts (wk q4 (.code New1.yN New1.yB 2 none)) (wks q4 (.initialized New1.yN.cls :: New1.site))
/-- the words ride from the start Z to the walk's own state -/
theorem moved {Z s : State} {a0 args : Array Value} (hZ : Z.Warmed39 s.vm) (hw : ∀ d ∈ words, d.before a0 Z = true) : ∀ d ∈ words, d.before args s = true := fun d hd => by
  have q := hw d hd
  have t : ∀ d ∈ words, d = .arrayClass .byte ∨ (d.onTables && d.keepsFace) = true := by decide +kernel
  rcases t d hd with rfl | t
  · exact RoadKit.mvA hZ q
  · exact RoadKit.mv hZ q t
/-- WHAT COMES BACK, over the tables of the start Z: h the heap at the call, h' behind it -/
def Q (Z : State) (x : Addr) (A : Cell) (h : Heap) (v : Option Value) (h' : Heap) (L : List Loc) : Prop := v = none ∧ (∀ y ∈ L, y.base = x) ∧ RoadKit.Keep h h' [x] ∧ h'.size = h.size + 1 ∧ RoadKit.Exa Z h' x ST ∧ RoadKit.Fld Z h' x ST "value" "[B" (.ref h.size) ∧ RoadKit.Fld Z h' x ST "coder" "B" (.int 0) ∧
  (∃ V : Cell, RoadKit.Arr Z h' h.size V .byte ∧ V.vm = .none ∧ Z.vm.findClass "[B" = some V.cls ∧ V.slots.size = A.slots.size ∧ ∀ j, j < A.slots.size → V.slots[j]? = some (.int (lo8 (cv A j)))) ∧
  ∀ (O n d : String) (w : Value), RoadKit.Fld Z h x O n d w → RoadKit.slotOf Z O n d ≠ RoadKit.slotOf Z ST "value" "[B" → RoadKit.slotOf Z O n d ≠ RoadKit.slotOf Z ST "coder" "B" → RoadKit.Fld Z h' x O n d w
/-- **new String(chars) AT A CALL, IN THE ROAD'S FORM**: for specialBack behind newO: x the fresh String, b the char[] with the cell A -/
theorem back {p : Program} {l : Launch} {e : Env} {R : Room} {s : State} {args : Array Value} {below : List Frame} {len W : Nat} {Z : State} {a0 : Array Value} {h : Heap} (hZ : Z.Warmed39 s.vm) (hw : ∀ d ∈ words, d.before a0 Z = true) {kI : Nat} (wi : (Jvm.Cond.instantiable ST kI).before a0 Z = true)
    {x b : Addr} {A : Cell} {z : Int32} {v0 c0 : Value} (E : RoadKit.Exa Z h x ST) (V : RoadKit.Fld Z h x ST "value" "[B" v0) (C : RoadKit.Fld Z h x ST "coder" "B" c0) (K : RoadKit.Arr Z h b A .char) (hty : Typed .char A) (S : RoadKit.Sta Z h ST "COMPACT_STRINGS" "Z" (.int z)) (hz : ¬ z = 0)
    (l0 : 0 < A.slots.size) (l2 : A.slots.size ≤ 536870912) (hp : ∀ i, i < A.slots.size → ¬ 255 < cv A i) (hfr : 4 ≤ R.frames) (hlo : W + 65 ≤ R.locals) :
    Back l R p e below s args New1.yN len W (fun P a => a = #[.ref x, .ref b] ∧ P.U.heap = h ∧ P.cells + 1 ≤ R.cells ∧ P.slots + A.slots.size ≤ R.slots)
      (fun P _ v B => ∃ L, Q Z x A h v B.U.heap L ∧ B.locs = P.locs ++ L ∧ B.cells = P.cells + 1 ∧ B.slots = P.slots + A.slots.size) := by
  intro m meth c P g ig mk a X hg hsize hdg hW hn hp'
  obtain ⟨rfl, rfl, r1, r2⟩ := hp'
  have al : Z.vm.Alike P.U.vm := hZ.alike.trans X.warmed.alike
  obtain ⟨D, cfV, kV, iV, fV, hD, gV, stV, knV, obV, asV, slV⟩ := id V
  obtain ⟨D', cfC, kC, iC, fC, hD', gC, stC, -, -, asC, slC⟩ := id C
  cases hD.symm.trans hD'
  obtain ⟨D2, kD, e1, e2, e3, e4, e5⟩ := id E
  cases hD.symm.trans e1
  obtain ⟨c2, k2, i1, i2, i3, -⟩ := Cond.instantiable_spec wi
  cases e2.symm.trans i1
  cases e3.symm.trans i2
  obtain ⟨kU, u1, u2⟩ := al.2.2 _ _ e3
  have hB : Blank ST x D P.U := ⟨hD, ⟨knV, fun q hq => by rw [hq] at obV; cases obV⟩, by rw [al.findClass]; exact e2, kU, u1, by rw [u2]; exact i3, by rw [u2]; exact e5 i3⟩
  have F1 : Found ST "value" "[B" fV P.U := ⟨SBG.found_only al ⟨cfV, kV, iV, gV⟩, stV⟩
  have F2 : Found ST "coder" "B" fC P.U := ⟨SBG.found_only al ⟨cfC, kC, iC, gC⟩, stC⟩
  have hA : Ch b A P.U := ⟨⟨K.1, State.isArrayOf_alike al K.2.1, K.2.2, by omega⟩, hty⟩
  have hS : StaticIs P.U ST "COMPACT_STRINGS" "Z" (.int z) := by
    obtain ⟨cfS, iS, kS, fS, st, cS, t1, t2, t3, t4, t5, t6, t7⟩ := S
    exact StaticIs.there (s := { Z with heap := P.U.heap }) ⟨cfS, iS, kS, fS, st, cS, t1, t2, t3, t4, t5, (fun q => by rw [q] at t6; cases t6), t7⟩ al rfl
  obtain ⟨v, B, X', ⟨⟨hv, E', V', q1, q2, q3, q4, q5, q6, q7, q8, q9, q10, q11⟩, hl, hc, hs⟩, st⟩ := New1.pays x D fV fC b A z (tab_of (moved hZ hw)) hfr hlo m meth c P g ig mk _ X hg hsize hdg hW hn ⟨r1, r2, rfl, hB, F1, F2, hA, hS, hz, l0, l2, hp⟩
  have al' : Z.vm.Alike B.U.vm := hZ.alike.trans X'.warmed.alike
  have hsz : E'.slots.size = D.slots.size := by
    obtain ⟨-, -, -, kB, w1, w2, w3⟩ := q1
    obtain ⟨kB', y1, y2⟩ := al'.2.2 _ _ e3
    rw [q2.2.1] at w1
    cases w1.symm.trans y1
    rw [w3, e5 i3, y2]
  refine ⟨v, B, X', ⟨_, ⟨hv, ?_, ⟨by omega, fun y cy hy hn' => q10 y cy (by simpa using hn') hy, fun y cy hy => ?_⟩, q11, ⟨E', _, q1.1, by rw [q2.2.1]; exact e2, by rw [q2.2.1]; exact e3, by rw [q2.1]; exact obV, fun _ => by rw [hsz]; exact e5 i3⟩,
    ⟨E', cfV, kV, iV, fV, q1.1, gV, stV, by rw [q2.1]; exact knV, by rw [q2.1]; exact obV, by rw [q2.2.1]; exact asV, q3⟩, ⟨E', cfC, kC, iC, fC, q1.1, gC, stC, by rw [q2.1]; exact knV, by rw [q2.1]; exact obV, by rw [q2.2.1]; exact asC, q4⟩,
    ⟨V', ⟨q5.1, State.isArrayOf_alike al'.symm q5.2.1, q5.2.2.1⟩, q6, by rw [← al'.findClass]; exact q7, q8, fun j hj => by have := q9 j hj; rwa [Nat.zero_add] at this⟩, fun O n d w F n1 n2 => ?_⟩, hl, hc, hs⟩, st⟩
  · intro y hy
    simp only [List.mem_cons, List.not_mem_nil, or_false] at hy
    rcases hy with rfl | rfl <;> rfl
  · by_cases q : y = x
    · subst q
      cases hD.symm.trans hy
      exact ⟨E', q1.1, q2.2.1, q2.1, hsz⟩
    · exact ⟨cy, q10 y cy q hy, rfl, rfl, rfl⟩
  · obtain ⟨D3, cf, k, i, f, g1, g2, g3, g4, g5, g6, g7⟩ := F
    cases hD.symm.trans g1
    simp only [RoadKit.slotOf, g2, gV, gC, Option.map_some, Option.getD_some] at n1 n2
    exact ⟨E', cf, k, i, f, q1.1, g2, g3, by rw [q2.1]; exact g4, by rw [q2.1]; exact g5, by rw [q2.2.1]; exact g6, by rw [q2.2.2 f.slot (by simp [n1, n2])]; exact g7⟩
end StrChars.Road
namespace StrChars.Road
open Jvm Sem ClassFile Op Lib Jvm.Stand Jvm.Free Jvm.Free.XT
/-- WHAT COMES BACK, the byte[] as a list of values -/
def QA (Z : State) (x : Addr) (zn : Int32) (cs : List Int32) (h : Heap) (v : Option Value) (h' : Heap) (L : List Loc) : Prop := v = none ∧ (∀ y ∈ L, y.base = x) ∧ RoadKit.Keep h h' [x] ∧ h'.size = h.size + 1 ∧ RoadKit.Exa Z h' x ST ∧ RoadKit.Fld Z h' x ST "value" "[B" (.ref h.size) ∧ RoadKit.Fld Z h' x ST "coder" "B" (.int 0) ∧
  (∃ kb, Z.vm.findClass "[B" = some kb ∧ RoadKit.Arv Z h' h.size kb .byte zn (cs.map fun c => .int (lo8 c)) (.int 0)) ∧
  ∀ (O n d : String) (w : Value), RoadKit.Fld Z h x O n d w → RoadKit.slotOf Z O n d ≠ RoadKit.slotOf Z ST "value" "[B" → RoadKit.slotOf Z O n d ≠ RoadKit.slotOf Z ST "coder" "B" → RoadKit.Fld Z h' x O n d w
/-- **new String(chars) AT A CALL, THE ARRAYS AS LISTS**: the char[] at b holds cs, not empty, no char above 255 -/
theorem backArv {p : Program} {l : Launch} {e : Env} {R : Room} {s : State} {args : Array Value} {below : List Frame} {len W : Nat} {Z : State} {a0 : Array Value} {h : Heap} (hZ : Z.Warmed39 s.vm) (hw : ∀ d ∈ words, d.before a0 Z = true) {kI : Nat} (wi : (Jvm.Cond.instantiable ST kI).before a0 Z = true)
    {x b : Addr} {k : ClassId} {zn z : Int32} {cs : List Int32} {dv v0 c0 : Value} (E : RoadKit.Exa Z h x ST) (V : RoadKit.Fld Z h x ST "value" "[B" v0) (C : RoadKit.Fld Z h x ST "coder" "B" c0) (K : RoadKit.Arv Z h b k .char zn (cs.map Value.int) dv) (S : RoadKit.Sta Z h ST "COMPACT_STRINGS" "Z" (.int z)) (hz : ¬ z = 0)
    (hlen : zn.toNatClampNeg = cs.length) (h0 : 0 < cs.length) (hbig : cs.length ≤ 536870912) (hall : ∀ c ∈ cs, ¬ 255 < c) (hfr : 4 ≤ R.frames) (hlo : W + 65 ≤ R.locals) :
    Back l R p e below s args New1.yN len W (fun P a => a = #[.ref x, .ref b] ∧ P.U.heap = h ∧ P.cells + 1 ≤ R.cells ∧ P.slots + cs.length ≤ R.slots)
      (fun P _ v B => ∃ L, QA Z x zn cs h v B.U.heap L ∧ B.locs = P.locs ++ L ∧ B.cells = P.cells + 1 ∧ B.slots = P.slots + cs.length) := by
  obtain ⟨A, K1, K2, K3, K4, K5, K6⟩ := K
  have e : A.slots.size = cs.length := K3.trans hlen
  have hat : ∀ (i : Nat) (hi : i < cs.length), A.slots[i]? = some (.int cs[i]) := fun i hi => by rw [K5 i (by omega)]; simp [List.getD_eq_getElem?_getD, hi]
  have hcv : ∀ (i : Nat) (hi : i < cs.length), cv A i = cs[i] := fun i hi => by unfold cv; rw [hat i hi]
  have hty : Typed .char A := fun i v hv => by
    have hi : i < A.slots.size := (Array.getElem?_eq_some_iff.mp hv).1
    have q := K5 i hi
    rw [hv] at q
    rw [Option.some.inj q]
    exact K6 i hi
  refine Back.mono (back hZ hw wi E V C K1 hty S hz (by omega) (by omega) (fun i hi => by rw [hcv i (by omega)]; exact hall _ (List.getElem_mem _)) hfr hlo) (fun P a hp => ⟨hp.1, hp.2.1, hp.2.2.1, by rw [e]; exact hp.2.2.2⟩) (fun P a v B hp hq => ?_)
  obtain ⟨L, ⟨q1, q2, q3, q4, q5, q6, q7, ⟨V', v1, v2, v3, v4, v5⟩, q9⟩, hl, hc, hs⟩ := hq
  refine ⟨L, ⟨q1, q2, q3, q4, q5, q6, q7, ⟨V'.cls, v3, V', v1, rfl, by rw [v4, e, hlen], K4, fun i hi => ?_, fun i hi => ?_⟩, q9⟩, hl, hc, by rw [hs, e]⟩
  · have hi' : i < cs.length := by omega
    rw [v5 i (by omega), hcv i hi']; simp [List.getD_eq_getElem?_getD, hi']
  · have hi' : i < cs.length := by omega
    simp only [List.getD_eq_getElem?_getD, List.getElem?_map, List.getElem?_eq_getElem hi', Option.map_some, Option.getD_some]
    exact fits_lo8 _
end StrChars.Road
namespace StrChars.Road
open Jvm Sem ClassFile Op Lib Jvm.Stand Jvm.Free Jvm.Free.XT
/-- WHAT COMES BACK, in the writer's own shape -/
def QV (Z : State) (x : Addr) (N : Int32) (bs : List Int32) (h : Heap) (n0 : Nat) (v : Option Value) (h' : Heap) (L : List Loc) : Prop := v = none ∧ RoadKit.Fr n0 L ∧ RoadKit.Keep h h' [x] ∧ RoadKit.Exa Z h' x ST ∧ RoadKit.Fld Z h' x ST "coder" "B" (.int 0) ∧
  ∃ (t : Addr) (kb : ClassId), n0 ≤ t ∧ h.size ≤ t ∧ ¬ t = x ∧ RoadKit.Fld Z h' x ST "value" "[B" (.ref t) ∧ RoadKit.Arv Z h' t kb .byte N (bs.map Value.int) (.int 0)
/-- **new String(chars) AT A CALL, FOR THE WRITER**: a char[] of n known ints, each 0 to 255 -/
theorem backV {p : Program} {l : Launch} {e : Env} {R : Room} {s : State} {args : Array Value} {below : List Frame} {len W : Nat} {Z : State} {a0 : Array Value} {h : Heap} (hZ : Z.Warmed39 s.vm) (hw : ∀ d ∈ words, d.before a0 Z = true) {kI : Nat} (wi : (Jvm.Cond.instantiable ST kI).before a0 Z = true)
    {x b : Addr} {kC : ClassId} {cs bs : List Int32} {d v0 c0 : Value} {z N : Int32} {n n0 : Nat} (hx0 : n0 ≤ x) (hh0 : n0 ≤ h.size) (E : RoadKit.Exa Z h x ST) (V : RoadKit.Fld Z h x ST "value" "[B" v0) (C : RoadKit.Fld Z h x ST "coder" "B" c0) (K : RoadKit.Arv Z h b kC .char N (cs.map Value.int) d) (S : RoadKit.Sta Z h ST "COMPACT_STRINGS" "Z" (.int z)) (hz : ¬ z = 0)
    (hn : cs.length = n) (hN : N = Int32.ofNat n) (l0 : 0 < n) (l2 : n ≤ 4000) (hp : ∀ c ∈ cs, ¬ c < 0 ∧ ¬ (255 : Int32) < c) (hb : bs = cs.map (fun c => c.toInt8.toInt32)) (hfr : 4 ≤ R.frames) (hlo : W + 65 ≤ R.locals) :
    Back l R p e below s args (⟨"java/lang/String", "<init>", "([C)V"⟩ : MethodName) len W (fun P a => a = #[.ref x, .ref b] ∧ P.U.heap = h ∧ P.cells + 1 ≤ R.cells ∧ P.slots + n ≤ R.slots)
      (fun P _ v B => ∃ L, QV Z x N bs h n0 v B.U.heap L ∧ B.locs = P.locs ++ L ∧ B.cells = P.cells + 1 ∧ B.slots = P.slots + n) := by
  subst hn hN hb
  refine Back.mono (backArv hZ hw wi E V C K S hz (n32 (by omega)) l0 (by omega) (fun c hc => (hp c hc).2) hfr hlo) (fun P a hp => hp) (fun P a v B hp hq => ?_)
  obtain ⟨L, ⟨q1, q2, q3, q4, q5, q6, q7, ⟨kb, v1, v2⟩, q9⟩, hl, hc, hs⟩ := hq
  exact ⟨L, ⟨q1, fun y hy => by rw [q2 y hy]; exact hx0, q3, q5, q7, h.size, kb, hh0, Nat.le_refl _, Nat.ne_of_gt E.lt, q6, by rw [List.map_map]; exact v2⟩, hl, hc, hs⟩
end StrChars.Road
namespace StrChars
open Jvm Sem ClassFile Op Lib Jvm.Stand Jvm.Free.XT Jvm.Free.ALB Jvm.Free.JM Jvm.Free
open Jvm.Lib.Cold (StaticIs)
def hi8 (x : Int32) : Int32 := lo8 (x >>> ((8 : Int32) &&& 31))
/-- what StringUTF16.getChar makes of two bytes -/
def pairCh (u v : Int32) : Int32 := (((u &&& 255) <<< ((0 : Int32) &&& 31)) ||| ((v &&& 255) <<< ((8 : Int32) &&& 31))).toUInt32.toUInt16.toUInt32.toInt32
theorem lo8_and (x : Int32) : (lo8 x &&& 255).toBitVec.toNat = x.toBitVec.toNat % 256 := by
  have h : (lo8 x).toBitVec = (x.toBitVec.signExtend 8).signExtend 32 := by rw [lo8, Int8.toBitVec_toInt32, Int32.toBitVec_toInt8]
  rw [Int32.toBitVec_and, BitVec.toNat_and, h]
  have e : ((x.toBitVec.signExtend 8).signExtend 32).toNat % 256 = x.toBitVec.toNat % 256 := by
    rw [BitVec.toNat_signExtend]
    have hlt := x.toBitVec.isLt
    simp only [BitVec.toNat_setWidth, BitVec.toNat_signExtend]
    split <;> split <;> omega
  rw [← e]
  exact Nat.and_two_pow_sub_one_eq_mod _ 8
theorem pair_says {c : Int32} (h0 : ¬ c < 0) (h1 : ¬ 65535 < c) : pairCh (lo8 c) (hi8 c) = c := by
  rw [Int32.lt_iff_toInt_lt] at h0 h1
  have e0 : (0 : Int32).toInt = 0 := rfl
  have e1 : (65535 : Int32).toInt = 65535 := rfl
  have hc : c.toInt = c.toBitVec.toNat := by
    have := c.toBitVec.isLt
    have e : c.toInt = c.toBitVec.toInt := rfl
    rw [e] at h0 h1
    rw [e]
    rw [BitVec.toInt_eq_toNat_cond] at h0 h1 ⊢
    split at h0 <;> split <;> omega
  have hn : c.toBitVec.toNat < 65536 := by omega
  have a1 := lo8_and c
  have a2 : (hi8 c &&& 255).toBitVec.toNat = c.toBitVec.toNat / 256 := by
    rw [hi8, lo8_and]
    have e : ((8 : Int32) &&& 31) = 8 := by decide
    rw [e, Int32.toBitVec_shiftRight]
    have e2 : ((8 : Int32).toBitVec.smod 32) = 8#32 := by decide
    rw [e2, BitVec.sshiftRight_eq', BitVec.toNat_sshiftRight_of_msb_false (by rw [BitVec.msb_eq_false_iff_two_mul_lt]; omega)]
    show c.toBitVec.toNat >>> 8 % 256 = _
    rw [Nat.shiftRight_eq_div_pow]
    omega
  unfold pairCh
  apply Int32.toBitVec_inj.mp
  apply BitVec.eq_of_toNat_eq
  have f0 : ((0 : Int32) &&& 31) = 0 := by decide
  have f8 : ((8 : Int32) &&& 31) = 8 := by decide
  rw [f0, f8]
  have g : (((lo8 c &&& 255) <<< (0 : Int32)) ||| ((hi8 c &&& 255) <<< (8 : Int32))).toBitVec.toNat = c.toBitVec.toNat := by
    rw [Int32.toBitVec_or, Int32.toBitVec_shiftLeft, Int32.toBitVec_shiftLeft]
    have s0 : ((0 : Int32).toBitVec.smod 32) = 0#32 := by decide
    have s8 : ((8 : Int32).toBitVec.smod 32) = 8#32 := by decide
    rw [s0, s8, BitVec.toNat_or]
    simp only [BitVec.shiftLeft_eq', BitVec.toNat_shiftLeft, a1, a2]
    show (c.toBitVec.toNat % 256) <<< 0 % 2 ^ 32 ||| (c.toBitVec.toNat / 256) <<< 8 % 2 ^ 32 = _
    rw [Nat.shiftLeft_zero, Nat.mod_eq_of_lt (show c.toBitVec.toNat % 256 < 2 ^ 32 by omega), Nat.mod_eq_of_lt (show (c.toBitVec.toNat / 256) <<< 8 < 2 ^ 32 by rw [Nat.shiftLeft_eq]; omega), Nat.or_comm, ← Nat.shiftLeft_add_eq_or_of_lt (by omega), Nat.shiftLeft_eq]
    omega
  show BitVec.toNat (((((lo8 c &&& 255) <<< (0 : Int32)) ||| ((hi8 c &&& 255) <<< (8 : Int32))).toBitVec.setWidth 16).setWidth 32) = _
  rw [BitVec.toNat_setWidth, BitVec.toNat_setWidth, g]
  omega
end StrChars
namespace StrChars
open Jvm Sem ClassFile Op Lib Jvm.Stand Jvm.Free.XT Jvm.Free.ALB Jvm.Free.JM Jvm.Free
open Jvm.Lib.Cold (StaticIs)
/-- the array's cell V codes the n chars f 0 .. f (n - 1) by the coder cd, as the JDK does: coder 1 just where some char is above 255 -/
def Cod (cd : Int32) (n : Nat) (f : Nat → Int32) (V : Cell) : Prop := (cd = 0 ∧ V.slots.size = n ∧ ∀ j, j < n → V.slots[j]? = some (.int (lo8 (f j))) ∧ ¬ 255 < f j) ∨ (cd = 1 ∧ V.slots.size = 2 * n ∧ (∀ j, j < n → V.slots[2 * j]? = some (.int (lo8 (f j))) ∧ V.slots[2 * j + 1]? = some (.int (hi8 (f j)))) ∧ ∃ j, j < n ∧ 255 < f j)
/-- **x is a String of the n chars f 0 .. f (n - 1)**, Latin-1 or UTF-16; its array at t has the cell V -/
def Txt (x t : Addr) (V : Cell) (cd : Int32) (n : Nat) (f : Nat → Int32) (U : State) : Prop := Exact "java/lang/String" x U ∧ Has x "java/lang/String" "value" "[B" (.ref t) U ∧ Has x "java/lang/String" "coder" "B" (.int cd) U ∧ XT.Arr .byte t V U ∧ Cod cd n f V ∧ ∀ j, j < n → ¬ f j < 0 ∧ ¬ 65535 < f j
theorem Txt.mv {x t : Addr} {V : Cell} {cd : Int32} {n : Nat} {f : Nat → Int32} {U U' : State} (h : Txt x t V cd n f U) (hal : U.vm.Alike U'.vm) (hh : U'.heap = U.heap) : Txt x t V cd n f U' := ⟨h.1.mv hal hh, h.2.1.mv hal hh, h.2.2.1.mv hal hh, h.2.2.2.1.mv hal hh, h.2.2.2.2⟩
end StrChars
namespace StrChars.Road
open Jvm Sem ClassFile Op Lib Jvm.Stand Jvm.Free Jvm.Free.XT
open Jvm.Lib.Cold (StaticIs)
theorem consq {a : Array Value} {s : State} {c : Jvm.Cond} {L : List Jvm.Cond} (h0 : c.before a s = true) (h : ∀ w ∈ L, w.before a s = true) : ∀ w ∈ c :: L, w.before a s = true := fun w hw => (List.mem_cons.mp hw).elim (fun e => e ▸ h0) (h w)
/-- the bytes of the chars cs, low before high -/
def wideBytes : List Int32 → List Value
  | [] => []
  | c :: cs => .int (lo8 c) :: .int (hi8 c) :: wideBytes cs
theorem wide_lo (d : Value) : ∀ (cs : List Int32) (j : Nat), j < cs.length → (wideBytes cs).getD (2 * j) d = .int (lo8 (cs.getD j 0))
  | [], j, h => absurd h (Nat.not_lt_zero j)
  | c :: cs, 0, _ => rfl
  | c :: cs, j + 1, h => by
    have q := wide_lo d cs j (by simpa using h)
    rw [show 2 * (j + 1) = 2 * j + 1 + 1 from by omega]
    simpa [wideBytes] using q
theorem wide_hi (d : Value) : ∀ (cs : List Int32) (j : Nat), j < cs.length → (wideBytes cs).getD (2 * j + 1) d = .int (hi8 (cs.getD j 0))
  | [], j, h => absurd h (Nat.not_lt_zero j)
  | c :: cs, 0, _ => rfl
  | c :: cs, j + 1, h => by
    have q := wide_hi d cs j (by simpa using h)
    rw [show 2 * (j + 1) + 1 = 2 * j + 1 + 1 + 1 from by omega]
    simpa [wideBytes] using q
theorem low_at (d : Value) (cs : List Int32) (j : Nat) (h : j < cs.length) : (cs.map fun c => Value.int (lo8 c)).getD j d = .int (lo8 (cs.getD j 0)) := by
  simp [List.getD_eq_getElem?_getD, h]
/-- an array of N2 bytes vs codes the chars cs by the coder cd -/
def CodA (cs : List Int32) (cd N2 : Int32) (vs : List Value) : Prop := (cd = 0 ∧ N2 = Int32.ofNat cs.length ∧ vs = (cs.map fun c => Value.int (lo8 c)) ∧ ∀ c ∈ cs, ¬ 255 < c) ∨ (cd = 1 ∧ N2 = Int32.ofNat (2 * cs.length) ∧ vs = wideBytes cs ∧ ∃ c ∈ cs, 255 < c)
theorem CodA.cod {cs : List Int32} {cd N2 : Int32} {vs : List Value} {V : Cell} (h : CodA cs cd N2 vs) (hn : 2 * cs.length < 2 ^ 31) (hs : V.slots.size = N2.toNatClampNeg) (hv : RoadKit.Has V vs (.int 0)) : Cod cd cs.length (fun j => cs.getD j 0) V := by
  rcases h with ⟨rfl, rfl, rfl, h⟩ | ⟨rfl, rfl, rfl, c, hc, hw⟩
  · rw [n32 (by omega)] at hs
    exact Or.inl ⟨rfl, hs, fun j hj => ⟨by rw [hv j (by omega), low_at _ _ _ hj], by
      have e : cs.getD j 0 = cs[j] := by simp [List.getD_eq_getElem?_getD, hj]
      show ¬ 255 < cs.getD j 0
      rw [e]; exact h _ (List.getElem_mem _)⟩⟩
  · rw [n32 (by omega)] at hs
    obtain ⟨j, hj, rfl⟩ := List.getElem_of_mem hc
    exact Or.inr ⟨rfl, hs, fun j hj => ⟨by rw [hv _ (by omega), wide_lo _ _ _ hj], by rw [hv _ (by omega), wide_hi _ _ _ hj]⟩, j, hj, by
      have e : cs.getD j 0 = cs[j] := by simp [List.getD_eq_getElem?_getD, hj]
      show 255 < cs.getD j 0
      rw [e]; exact hw⟩
/-- an object of exactly java/lang/String, its two fields found: as the laws ask it -/
theorem strObj {Z U : State} {a0 : Array Value} {kI : Nat} (wi : (Jvm.Cond.instantiable ST kI).before a0 Z = true) (al : Z.vm.Alike U.vm) {x : Addr} {v0 c0 : Value} (E : RoadKit.Exa Z U.heap x ST) (V : RoadKit.Fld Z U.heap x ST "value" "[B" v0) (C : RoadKit.Fld Z U.heap x ST "coder" "B" c0) :
    ∃ (D : Cell) (fV fC : Field), Blank ST x D U ∧ Found ST "value" "[B" fV U ∧ Found ST "coder" "B" fC U ∧ D.slots[fV.slot]? = some v0 ∧ D.slots[fC.slot]? = some c0 ∧ RoadKit.slotOf Z ST "value" "[B" = fV.slot ∧ RoadKit.slotOf Z ST "coder" "B" = fC.slot := by
  obtain ⟨D, cfV, kV, iV, fV, hD, gV, stV, knV, obV, asV, slV⟩ := V
  obtain ⟨D', cfC, kC, iC, fC, hD', gC, stC, -, -, asC, slC⟩ := C
  cases hD.symm.trans hD'
  obtain ⟨D2, kD, e1, e2, e3, e4, e5⟩ := E
  cases hD.symm.trans e1
  obtain ⟨c2, k2, i1, i2, i3, -⟩ := Cond.instantiable_spec wi
  cases e2.symm.trans i1
  cases e3.symm.trans i2
  obtain ⟨kU, u1, u2⟩ := al.2.2 _ _ e3
  exact ⟨D, fV, fC, ⟨hD, ⟨knV, fun q hq => by rw [hq] at obV; cases obV⟩, by rw [al.findClass]; exact e2, kU, u1, by rw [u2]; exact i3, by rw [u2]; exact e5 i3⟩, ⟨SBG.found_only al ⟨cfV, kV, iV, gV⟩, stV⟩, ⟨SBG.found_only al ⟨cfC, kC, iC, gC⟩, stC⟩, slV, slC, by simp [RoadKit.slotOf, gV], by simp [RoadKit.slotOf, gC]⟩
theorem sta_is {Z U : State} (al : Z.vm.Alike U.vm) {C n d : String} {v : Value} (S : RoadKit.Sta Z U.heap C n d v) : StaticIs U C n d v := by
  obtain ⟨cfS, iS, kS, fS, st, cS, t1, t2, t3, t4, t5, t6, t7⟩ := S
  exact StaticIs.there (s := { Z with heap := U.heap }) ⟨cfS, iS, kS, fS, st, cS, t1, t2, t3, t4, t5, (fun q => by rw [q] at t6; cases t6), t7⟩ al rfl
end StrChars.Road
namespace StrChars
open Jvm Sem ClassFile Op Lib Jvm.Stand Jvm.Free.XT Jvm.Free.ALB Jvm.Free.JM Jvm.Free
open Jvm.Lib.Cold (StaticIs)
/-- what place i of a byte[]'s cell holds -/
def yv (A : Cell) (i : Nat) : Int32 := match A.slots[i]? with | some (.int x) => x | _ => 0
theorem yv_get {a : Addr} {A : Cell} {U : State} (h : XT.Arr .byte a A U) (ht : Typed .byte A) {i : Nat} (hi : i < A.slots.size) : A.slots[i]? = some (.int (yv A i)) := by
  have e := Array.getElem?_eq_getElem hi
  have f := ht i _ e
  unfold yv; rw [e]
  generalize A.slots[i] = v at f
  cases v <;> simp [fits] at f ⊢
/-- the two arrays are equal, place for place -/
def EqC (A B : Cell) : Prop := A.slots.size = B.slots.size ∧ ∀ i, i < A.slots.size → yv A i = yv B i
/-- a boolean that says whether p -/
def Says01 (q : Prop) (r : Option Value) (s u : State) : Prop := ∃ v : Int32, r = some (.int v) ∧ u.heap = s.heap ∧ ((v = 1 ∧ q) ∨ (v = 0 ∧ ¬ q))
theorem Says01.mv {q : Prop} : ∀ r (U U' V V' : State), U'.heap = U.heap → V.vm.Alike V'.vm → V'.heap = V.heap → Says01 q r U V → Says01 q r U' V' :=
  fun r U U' V V' h1 _ h2 ⟨v, a, b, c⟩ => ⟨v, a, by rw [h1, h2]; exact b, c⟩
namespace LEq
def yN : MethodName := ⟨"java/lang/StringLatin1", "equals", "([B[B)Z"⟩
abbrev yB : ByteArray := jdk_43_method_13_code
theorem d0 : decode yB 0 = .ok (.aload_n 0, 1) := by decide +kernel
theorem d1 : decode yB 1 = .ok (.arraylength, 1) := by decide +kernel
theorem d2 : decode yB 2 = .ok (.aload_n 1, 1) := by decide +kernel
theorem d3 : decode yB 3 = .ok (.arraylength, 1) := by decide +kernel
theorem d4 : decode yB 4 = .ok (.if_icmp (.ne) 30, 3) := by decide +kernel
theorem d7 : decode yB 7 = .ok (.iconst 0, 1) := by decide +kernel
theorem d8 : decode yB 8 = .ok (.istore_n 2, 1) := by decide +kernel
theorem d9 : decode yB 9 = .ok (.iload_n 2, 1) := by decide +kernel
theorem d10 : decode yB 10 = .ok (.aload_n 0, 1) := by decide +kernel
theorem d11 : decode yB 11 = .ok (.arraylength, 1) := by decide +kernel
theorem d12 : decode yB 12 = .ok (.if_icmp (.ge) 20, 3) := by decide +kernel
theorem d15 : decode yB 15 = .ok (.aload_n 0, 1) := by decide +kernel
theorem d16 : decode yB 16 = .ok (.iload_n 2, 1) := by decide +kernel
theorem d17 : decode yB 17 = .ok (.baload, 1) := by decide +kernel
theorem d18 : decode yB 18 = .ok (.aload_n 1, 1) := by decide +kernel
theorem d19 : decode yB 19 = .ok (.iload_n 2, 1) := by decide +kernel
theorem d20 : decode yB 20 = .ok (.baload, 1) := by decide +kernel
theorem d21 : decode yB 21 = .ok (.if_icmp (.eq) 5, 3) := by decide +kernel
theorem d24 : decode yB 24 = .ok (.iconst 0, 1) := by decide +kernel
theorem d25 : decode yB 25 = .ok (.ireturn, 1) := by decide +kernel
theorem d26 : decode yB 26 = .ok (.iinc 2 1, 3) := by decide +kernel
theorem d29 : decode yB 29 = .ok (.goto (-20), 3) := by decide +kernel
theorem d32 : decode yB 32 = .ok (.iconst 1, 1) := by decide +kernel
theorem d33 : decode yB 33 = .ok (.ireturn, 1) := by decide +kernel
theorem d34 : decode yB 34 = .ok (.iconst 0, 1) := by decide +kernel
theorem d35 : decode yB 35 = .ok (.ireturn, 1) := by decide +kernel
def site : List Cond := []
def tab : Cond := tabOf yN yB 3 (some .boolean) site
def P (a : Addr) (A : Cell) (b : Addr) (B : Cell) (args : Array Value) (s : State) : Prop := args = #[.ref a, .ref b] ∧ XT.Arr .byte a A s ∧ Typed .byte A ∧ XT.Arr .byte b B s ∧ Typed .byte B
/-- whether two byte[] are equal, place for place -/
theorem law (l : Launch) (a : Addr) (A : Cell) (b : Addr) (B : Cell) : Law l yN 2 2 0 0 yB 3 (some .boolean) site (P a A b B) (Says01 (EqC A B)) [] 0 0 := by
  refine Law.of_walk (plainFor_of_name (by decide +kernel)) (by decide +kernel) (by decide +kernel) (by decide) (fun _ _ h => by rw [h.1]; rfl) (fun _ U U' hal hh h => ⟨h.1, h.2.1.mv hal hh, h.2.2.1, h.2.2.2.1.mv hal hh, h.2.2.2.2⟩) (fun r U U' V V' h1 hal h2 h => Says01.mv r U U' V V' h1 hal h2 h) ?_
  intro p e s m args below meth c s₁ X0 hexec hbytes hml hret hlk hnm hown hh0 W hP
  obtain ⟨rfl, hA, tA, hB, tB⟩ := hP
  have a31 := hA.2.2.2
  have b31 := hB.2.2.2
  have hA0 := hA.mv X0.warmed.alike hh0
  have hB0 := hB.mv X0.warmed.alike hh0
  have c1 : Steps p.tables e below (s₁.setTop (entryFrame m #[.ref a, .ref b] 3)) (s₁.setTop (mkF m 0 #[.val (.ref a), .val (.ref b), .unset] [])) := entry rfl
  have c2 : Steps p.tables e below (s₁.setTop (entryFrame m #[.ref a, .ref b] 3)) (s₁.setTop (mkF m 4 #[.val (.ref a), .val (.ref b), .unset] [.int (Int32.ofNat B.slots.size), .int (Int32.ofNat A.slots.size)])) := c1.trans (by
    refine XS.aloadN X0.here hexec rfl (hb hbytes d0) rfl rfl ?_
    refine X0.alen hexec hA0 rfl rfl (hb hbytes d1) ?_
    refine XS.aloadN X0.here hexec rfl (hb hbytes d2) rfl rfl ?_
    refine X0.alen hexec hB0 rfl rfl (hb hbytes d3) ?_
    exact Steps.refl _)
  by_cases hs : A.slots.size = B.slots.size
  · have c3 : Steps p.tables e below (s₁.setTop (entryFrame m #[.ref a, .ref b] 3)) (s₁.setTop (mkF m 9 #[.val (.ref a), .val (.ref b), .val (.int 0)] [])) := c2.trans (by
      refine XS.icmpNo X0.here hexec rfl (hb hbytes d4) rfl (ii_ne_f (by rw [hs])) ?_
      refine iconstV X0.here hexec rfl 0 (hb hbytes d7) (by decide) ?_
      refine XS.istoreN X0.here hexec rfl (hb hbytes d8) rfl rfl ?_
      exact Steps.refl _)
    have loop : ∀ (r i : Nat), i + r = A.slots.size → (∀ j, j < i → yv A j = yv B j) → Steps p.tables e below (s₁.setTop (entryFrame m #[.ref a, .ref b] 3)) (s₁.setTop (mkF m 9 #[.val (.ref a), .val (.ref b), .val (.int (Int32.ofNat i))] [])) → ∃ (pc : Nat) (Ls : Array Slot) (v : Int32), (pc = 25 ∨ pc = 33) ∧ ((v = 1 ∧ EqC A B) ∨ (v = 0 ∧ ¬ EqC A B)) ∧ Steps p.tables e below (s₁.setTop (entryFrame m #[.ref a, .ref b] 3)) (s₁.setTop (mkF m pc Ls [.int v])) := by
      intro r
      induction r with
      | zero =>
        intro i hi he cl
        exact ⟨33, _, 1, Or.inr rfl, Or.inl ⟨rfl, hs, fun j hj => he j (by omega)⟩, cl.trans (by
          refine XS.iloadN X0.here hexec rfl (hb hbytes d9) rfl ?_
          refine XS.aloadN X0.here hexec rfl (hb hbytes d10) rfl rfl ?_
          refine X0.alen hexec hA0 rfl rfl (hb hbytes d11) ?_
          refine XS.icmpYes X0.here hexec rfl (pc0 := 12) rfl (hb hbytes d12) rfl (ii_ge_t (nlt32 (by omega) (by omega))) (by decide) rfl ?_
          refine iconstV X0.here hexec rfl 1 (hb hbytes d32) (by decide) ?_
          exact Steps.refl _)⟩
      | succ r ih =>
        intro i hi he cl
        have c4 : Steps p.tables e below (s₁.setTop (entryFrame m #[.ref a, .ref b] 3)) (s₁.setTop (mkF m 21 #[.val (.ref a), .val (.ref b), .val (.int (Int32.ofNat i))] [.int (yv B i), .int (yv A i)])) := cl.trans (by
          refine XS.iloadN X0.here hexec rfl (hb hbytes d9) rfl ?_
          refine XS.aloadN X0.here hexec rfl (hb hbytes d10) rfl rfl ?_
          refine X0.alen hexec hA0 rfl rfl (hb hbytes d11) ?_
          refine XS.icmpNo X0.here hexec rfl (hb hbytes d12) rfl (ii_ge_f (lt32 (by omega) (by omega))) ?_
          refine XS.aloadN X0.here hexec rfl (hb hbytes d15) rfl rfl ?_
          refine XS.iloadN X0.here hexec rfl (hb hbytes d16) rfl ?_
          refine X0.aget hexec hA0 rfl (yv_get hA tA (i := i) (by omega)) rfl rfl (hb hbytes d17) ?_
          refine XS.aloadN X0.here hexec rfl (hb hbytes d18) rfl rfl ?_
          refine XS.iloadN X0.here hexec rfl (hb hbytes d19) rfl ?_
          refine X0.aget hexec hB0 rfl (yv_get hB tB (i := i) (by omega)) rfl rfl (hb hbytes d20) ?_
          exact Steps.refl _)
        by_cases hv : yv A i = yv B i
        · have c5 : Steps p.tables e below (s₁.setTop (entryFrame m #[.ref a, .ref b] 3)) (s₁.setTop (mkF m 9 #[.val (.ref a), .val (.ref b), .val (.int (Int32.ofNat i + 1))] [])) := c4.trans (by
            refine XS.icmpYes X0.here hexec rfl (pc0 := 21) rfl (hb hbytes d21) rfl (ii_eq_t hv) (by decide) rfl ?_
            refine iincV X0.here hexec rfl 1 (hb hbytes d26) (by decide) rfl rfl ?_
            refine XS.goto X0.here hexec rfl (pc0 := 29) rfl (hb hbytes d29) (by decide) rfl ?_
            exact Steps.refl _)
          rw [succ32] at c5
          exact ih (i + 1) (by omega) (fun j hj => by
            by_cases e : j = i
            · rw [e]; exact hv
            · exact he j (by omega)) c5
        · exact ⟨25, _, 0, Or.inl rfl, Or.inr ⟨rfl, fun q => hv (q.2 i (by omega))⟩, c4.trans (by
            refine XS.icmpNo X0.here hexec rfl (hb hbytes d21) rfl (ii_eq_f hv) ?_
            refine iconstV X0.here hexec rfl 0 (hb hbytes d24) (by decide) ?_
            exact Steps.refl _)⟩
    obtain ⟨pc, Ls, v, hpc, hv, cz⟩ := loop A.slots.size 0 (by omega) (fun j hj => absurd hj (Nat.not_lt_zero j)) c3
    have nv : narrow .boolean (.int v) = .int v := by rcases hv with ⟨rfl, -⟩ | ⟨rfl, -⟩ <;> rfl
    rcases hpc with rfl | rfl
    · exact ⟨s₁, some (.int v), _, _, _, X0, rfl, rfl, rfl, (fun h => by cases h), ⟨v, rfl, hh0, hv⟩, fun fs hl => cz.trans (X0.ireturnOut hexec hret nv (Or.inr (Or.inl rfl)) (hb hbytes d25) hl)⟩
    · exact ⟨s₁, some (.int v), _, _, _, X0, rfl, rfl, rfl, (fun h => by cases h), ⟨v, rfl, hh0, hv⟩, fun fs hl => cz.trans (X0.ireturnOut hexec hret nv (Or.inr (Or.inl rfl)) (hb hbytes d33) hl)⟩
  · have c3 : Steps p.tables e below (s₁.setTop (entryFrame m #[.ref a, .ref b] 3)) (s₁.setTop (mkF m 35 #[.val (.ref a), .val (.ref b), .unset] [.int 0])) := c2.trans (by
      refine XS.icmpYes X0.here hexec rfl (pc0 := 4) rfl (hb hbytes d4) rfl (ii_ne_t (ne32 a31 b31 hs)) (by decide) rfl ?_
      refine iconstV X0.here hexec rfl 0 (hb hbytes d34) (by decide) ?_
      exact Steps.refl _)
    exact ⟨s₁, some (.int 0), _, _, _, X0, rfl, rfl, rfl, (fun h => by cases h), ⟨0, rfl, hh0, Or.inr ⟨rfl, fun q => hs q.1⟩⟩, fun fs hl => c3.trans (X0.ireturnOut hexec hret rfl (Or.inr (Or.inl rfl)) (hb hbytes d35) hl)⟩
end LEq
theorem Cod.ty {cd : Int32} {n : Nat} {f : Nat → Int32} {V : Cell} (h : Cod cd n f V) : Typed .byte V := fun i v hv => by
  have hi : i < V.slots.size := (Array.getElem?_eq_some_iff.mp hv).1
  rcases h with ⟨-, k1, k2⟩ | ⟨-, k1, k2, -⟩
  · rw [(k2 i (by omega)).1] at hv; cases hv; exact fits_lo8 _
  · rcases Nat.mod_two_eq_zero_or_one i with e | e
    · obtain ⟨j, rfl⟩ : ∃ j, i = 2 * j := ⟨i / 2, by omega⟩
      rw [(k2 j (by omega)).1] at hv; cases hv; exact fits_lo8 _
    · obtain ⟨j, rfl⟩ : ∃ j, i = 2 * j + 1 := ⟨i / 2, by omega⟩
      rw [(k2 j (by omega)).2] at hv; cases hv; exact fits_lo8 _
/-- the same text -/
def SameT (n : Nat) (f : Nat → Int32) (k : Nat) (g : Nat → Int32) : Prop := n = k ∧ ∀ j, j < n → f j = g j
theorem lo8_inj {x y : Int32} (h0 : ¬ x < 0) (h1 : ¬ 255 < x) (k0 : ¬ y < 0) (k1 : ¬ 255 < y) (h : lo8 x = lo8 y) : x = y := by
  rw [← lo8_mask h0 h1, ← lo8_mask k0 k1, h]
/-- arrays coded by one coder are equal just where the texts are -/
theorem Cod.eqv {cd : Int32} {n k : Nat} {f g : Nat → Int32} {V V' : Cell} (h : Cod cd n f V) (h' : Cod cd k g V') (hf : ∀ j, j < n → ¬ f j < 0 ∧ ¬ 65535 < f j) (hg : ∀ j, j < k → ¬ g j < 0 ∧ ¬ 65535 < g j) : EqC V V' ↔ SameT n f k g := by
  have yvv : ∀ {W : Cell} {i : Nat} {x : Int32}, W.slots[i]? = some (.int x) → yv W i = x := fun q => by unfold yv; rw [q]
  rcases h with ⟨rfl, k1, k2⟩ | ⟨rfl, k1, k2, -⟩
  · rcases h' with ⟨-, m1, m2⟩ | ⟨e, -⟩
    · constructor
      · rintro ⟨e1, e2⟩
        refine ⟨by omega, fun j hj => ?_⟩
        have q := e2 j (by omega)
        rw [yvv (k2 j hj).1, yvv (m2 j (by omega)).1] at q
        exact lo8_inj (hf j hj).1 (k2 j hj).2 (hg j (by omega)).1 (m2 j (by omega)).2 q
      · rintro ⟨rfl, e2⟩
        refine ⟨by omega, fun j hj => ?_⟩
        rw [yvv (k2 j (by omega)).1, yvv (m2 j (by omega)).1, e2 j (by omega)]
    · exact absurd e (by decide)
  · rcases h' with ⟨e, -⟩ | ⟨-, m1, m2, -⟩
    · exact absurd e (by decide)
    · constructor
      · rintro ⟨e1, e2⟩
        refine ⟨by omega, fun j hj => ?_⟩
        have q1 := e2 (2 * j) (by omega)
        have q2 := e2 (2 * j + 1) (by omega)
        rw [yvv (k2 j hj).1, yvv (m2 j (by omega)).1] at q1
        rw [yvv (k2 j hj).2, yvv (m2 j (by omega)).2] at q2
        rw [← pair_says (hf j hj).1 (hf j hj).2, ← pair_says (hg j (by omega)).1 (hg j (by omega)).2, q1, q2]
      · rintro ⟨rfl, e2⟩
        refine ⟨by omega, fun i hi => ?_⟩
        rcases Nat.mod_two_eq_zero_or_one i with e | e
        · obtain ⟨j, rfl⟩ : ∃ j, i = 2 * j := ⟨i / 2, by omega⟩
          rw [yvv (k2 j (by omega)).1, yvv (m2 j (by omega)).1, e2 j (by omega)]
        · obtain ⟨j, rfl⟩ : ∃ j, i = 2 * j + 1 := ⟨i / 2, by omega⟩
          rw [yvv (k2 j (by omega)).2, yvv (m2 j (by omega)).2, e2 j (by omega)]
/-- two codings differ: so do the texts -/
theorem Cod.dif {cd cd' : Int32} {n k : Nat} {f g : Nat → Int32} {V V' : Cell} (h : Cod cd n f V) (h' : Cod cd' k g V') (hne : ¬ cd = cd') : ¬ SameT n f k g := by
  rintro ⟨rfl, e⟩
  rcases h with ⟨rfl, -, k2⟩ | ⟨rfl, -, -, j, hj, hw⟩
  · rcases h' with ⟨rfl, -⟩ | ⟨-, -, -, j, hj, hw⟩
    · exact hne rfl
    · exact (k2 j hj).2 (by rw [e j hj]; exact hw)
  · rcases h' with ⟨-, -, m2⟩ | ⟨rfl, -⟩
    · exact (m2 j hj).2 (by rw [← e j hj]; exact hw)
    · exact hne rfl
/-- an object of exactly C is an instance of C -/
theorem cinst {p : Program} {l : Launch} {e : Env} {R : Room} {s : State} {m : MethodId} {args : Array Value} {below : List Frame} {meth : Method} {c : Code} {T : State} {locs : List Loc} {cells slots : Nat} (X : Stand p l e R s m args below meth c T locs cells slots) (hexec : p.tables.exec = Jvm.exec) {own C : String} {index : Nat} (hown : s.vm.findClass own = some m.cls) (hlink : (Cond.classLink own index C).before args s = true) {a : Addr} (hE : Exact C a T)
    {g : JFrame} (hg : g.method = m) {rest : List Value} (hstack : g.stack = .ref a :: rest) (hdg : decode c.code g.pc = .ok (.instanceof index, 3)) :
    ∃ T', Stand p l e R s m args below meth c T' locs cells slots ∧ T'.heap = T.heap ∧ ∀ target, Steps p.tables e below (T'.setTop { g with pc := g.pc + 3, stack := .int 1 :: rest }) target → Steps p.tables e below (T.setTop g) target := by
  obtain ⟨cB, h1, D, h2, h3, h4⟩ := hE
  have h1' : s.vm.findClass C = some cB := by rw [← X.warmed.alike.findClass]; exact h1
  obtain ⟨vm', X', st⟩ := X.instanceofYes hexec hown hlink h2 h4 h1' (by rw [h3]; exact Jvm.Free.SB.assignable_self _ _) hg hstack hdg
  exact ⟨_, X', rfl, st⟩
theorem cself {p : Program} {l : Launch} {e : Env} {R : Room} {s : State} {m : MethodId} {args : Array Value} {below : List Frame} {meth : Method} {c : Code} {T : State} {locs : List Loc} {cells slots : Nat} (X : Stand p l e R s m args below meth c T locs cells slots) (hexec : p.tables.exec = Jvm.exec) {own C : String} {index : Nat} (hown : s.vm.findClass own = some m.cls) (hlink : (Cond.classLink own index C).before args s = true) {a : Addr} (hE : Exact C a T)
    {g : JFrame} (hg : g.method = m) {rest : List Value} (hstack : g.stack = .ref a :: rest) (hdg : decode c.code g.pc = .ok (.checkcast index, 3)) :
    ∃ T', Stand p l e R s m args below meth c T' locs cells slots ∧ T'.heap = T.heap ∧ ∀ target, Steps p.tables e below (T'.setTop { g with pc := g.pc + 3, stack := .ref a :: rest }) target → Steps p.tables e below (T.setTop g) target := by
  obtain ⟨cB, h1, D, h2, h3, h4⟩ := hE
  have h1' : s.vm.findClass C = some cB := by rw [← X.warmed.alike.findClass]; exact h1
  obtain ⟨vm', X', st⟩ := X.checkcastYes hexec hown hlink h2 h4 h1' (by rw [h3]; exact Jvm.Free.SB.assignable_self _ _) hg hstack hdg
  exact ⟨_, X', rfl, fun t h => st t (by rw [← hstack] at h; exact h)⟩
namespace SEq
def yN : MethodName := ⟨"java/lang/String", "equals", "(Ljava/lang/Object;)Z"⟩
abbrev yB : ByteArray := jdk_42_method_66_code
theorem d0 : decode yB 0 = .ok (.aload_n 0, 1) := by decide +kernel
theorem d1 : decode yB 1 = .ok (.aload_n 1, 1) := by decide +kernel
theorem d2 : decode yB 2 = .ok (.if_acmp (.ne) 5, 3) := by decide +kernel
theorem d5 : decode yB 5 = .ok (.iconst 1, 1) := by decide +kernel
theorem d6 : decode yB 6 = .ok (.ireturn, 1) := by decide +kernel
theorem d7 : decode yB 7 = .ok (.aload_n 1, 1) := by decide +kernel
theorem d8 : decode yB 8 = .ok (.instanceof 10, 3) := by decide +kernel
theorem d11 : decode yB 11 = .ok (.ifCond (.eq) 43, 3) := by decide +kernel
theorem d14 : decode yB 14 = .ok (.aload_n 1, 1) := by decide +kernel
theorem d15 : decode yB 15 = .ok (.checkcast 10, 3) := by decide +kernel
theorem d18 : decode yB 18 = .ok (.astore_n 2, 1) := by decide +kernel
theorem d19 : decode yB 19 = .ok (.getstatic 38, 3) := by decide +kernel
theorem d22 : decode yB 22 = .ok (.ifCond (.eq) 14, 3) := by decide +kernel
theorem d25 : decode yB 25 = .ok (.aload_n 0, 1) := by decide +kernel
theorem d26 : decode yB 26 = .ok (.getfield 15, 3) := by decide +kernel
theorem d29 : decode yB 29 = .ok (.aload_n 2, 1) := by decide +kernel
theorem d30 : decode yB 30 = .ok (.getfield 15, 3) := by decide +kernel
theorem d33 : decode yB 33 = .ok (.if_icmp (.ne) 21, 3) := by decide +kernel
theorem d36 : decode yB 36 = .ok (.aload_n 0, 1) := by decide +kernel
theorem d37 : decode yB 37 = .ok (.getfield 9, 3) := by decide +kernel
theorem d40 : decode yB 40 = .ok (.aload_n 2, 1) := by decide +kernel
theorem d41 : decode yB 41 = .ok (.getfield 9, 3) := by decide +kernel
theorem d44 : decode yB 44 = .ok (.invokestatic 541, 3) := by decide +kernel
theorem d47 : decode yB 47 = .ok (.ifCond (.eq) 7, 3) := by decide +kernel
theorem d50 : decode yB 50 = .ok (.iconst 1, 1) := by decide +kernel
theorem d51 : decode yB 51 = .ok (.goto 4, 3) := by decide +kernel
theorem d54 : decode yB 54 = .ok (.iconst 0, 1) := by decide +kernel
theorem d55 : decode yB 55 = .ok (.ireturn, 1) := by decide +kernel
def site : List Cond := [.classLink "java/lang/String" 10 "java/lang/String", .fieldLink "java/lang/String" 38 "java/lang/String" "COMPACT_STRINGS" "Z", .fieldLink "java/lang/String" 15 "java/lang/String" "coder" "B", .fieldLink "java/lang/String" 9 "java/lang/String" "value" "[B", LEq.tab] ++ staticW "java/lang/String" 541 LEq.yN
def tab : Cond := tabOf yN yB 3 (some .boolean) site
def P (x t : Addr) (V : Cell) (cd : Int32) (n : Nat) (f : Nat → Int32) (y t' : Addr) (V' : Cell) (cd' : Int32) (k : Nat) (g : Nat → Int32) (z : Int32) (args : Array Value) (s : State) : Prop := args = #[.ref x, .ref y] ∧ Txt x t V cd n f s ∧ Txt y t' V' cd' k g s ∧ StaticIs s "java/lang/String" "COMPACT_STRINGS" "Z" (.int z) ∧ ¬ z = 0
/-- equals(Object) of two Strings: whether the texts are the same -/
theorem law (l : Launch) (x t : Addr) (V : Cell) (cd : Int32) (n : Nat) (f : Nat → Int32) (y t' : Addr) (V' : Cell) (cd' : Int32) (k : Nat) (g : Nat → Int32) (z : Int32) : Law l yN 2 1 1 14 yB 3 (some .boolean) site (P x t V cd n f y t' V' cd' k g z) (Says01 (SameT n f k g)) [] 0 0 := by
  refine Law.of_walk (plainFor_of_name (by decide +kernel)) (by decide +kernel) (by decide +kernel) (by decide) (fun _ _ h => by rw [h.1]; rfl) (fun _ U U' hal hh h => ⟨h.1, h.2.1.mv hal hh, h.2.2.1.mv hal hh, h.2.2.2.1.there hal hh, h.2.2.2.2⟩) (fun r U U' V V' h1 hal h2 h => Says01.mv r U U' V V' h1 hal h2 h) ?_
  intro p e s m args below meth c s₁ X0 hexec hbytes hml hret hlk hnm hown hh0 W hP
  obtain ⟨rfl, hx, hy, s1, hz⟩ := hP
  have c1 : Steps p.tables e below (s₁.setTop (entryFrame m #[.ref x, .ref y] 3)) (s₁.setTop (mkF m 2 #[.val (.ref x), .val (.ref y), .unset] [.ref y, .ref x])) := Steps.trans (entry rfl) (by
    show Steps p.tables e below (s₁.setTop (mkF m 0 #[.val (.ref x), .val (.ref y), .unset] [])) _
    refine XS.aloadN X0.here hexec rfl (hb hbytes d0) rfl rfl ?_
    refine XS.aloadN X0.here hexec rfl (hb hbytes d1) rfl rfl ?_
    exact Steps.refl _)
  by_cases hxy : x = y
  · have c2 : Steps p.tables e below (s₁.setTop (entryFrame m #[.ref x, .ref y] 3)) (s₁.setTop (mkF m 6 #[.val (.ref x), .val (.ref y), .unset] [.int 1])) := c1.trans (by
      refine acmpNo X0.here hexec rfl (hb hbytes d2) rfl rfl rfl (by simp [acmp, hxy]) ?_
      refine iconstV X0.here hexec rfl 1 (hb hbytes d5) (by decide) ?_
      exact Steps.refl _)
    subst hxy
    have ec : cd = cd' := by
      obtain ⟨D, fd, a1, a2, a3⟩ := hx.2.2.1
      obtain ⟨D', fd', b1, b2, b3⟩ := hy.2.2.1
      cases a1.symm.trans b1
      obtain ⟨q1, q2, q3, q4⟩ := a2.1
      obtain ⟨r1, r2, r3, r4⟩ := b2.1
      cases q4.symm.trans r4
      cases a3.symm.trans b3; rfl
    have et : t = t' := by
      obtain ⟨D, fd, a1, a2, a3⟩ := hx.2.1
      obtain ⟨D', fd', b1, b2, b3⟩ := hy.2.1
      cases a1.symm.trans b1
      obtain ⟨q1, q2, q3, q4⟩ := a2.1
      obtain ⟨r1, r2, r3, r4⟩ := b2.1
      cases q4.symm.trans r4
      cases a3.symm.trans b3; rfl
    subst ec et
    have ev : V = V' := by cases hx.2.2.2.1.1.symm.trans hy.2.2.2.1.1; rfl
    subst ev
    have hs : SameT n f k g := (Cod.eqv hx.2.2.2.2.1 hy.2.2.2.2.1 hx.2.2.2.2.2 hy.2.2.2.2.2).mp ⟨rfl, fun _ _ => rfl⟩
    exact ⟨s₁, some (.int 1), _, _, _, X0, rfl, rfl, rfl, (fun h => by cases h), ⟨1, rfl, hh0, Or.inl ⟨rfl, hs⟩⟩, fun fs hl => c2.trans (X0.ireturnOut hexec hret rfl (Or.inr (Or.inl rfl)) (hb hbytes d6) hl)⟩
  · have c2 : Steps p.tables e below (s₁.setTop (entryFrame m #[.ref x, .ref y] 3)) (s₁.setTop (mkF m 8 #[.val (.ref x), .val (.ref y), .unset] [.ref y])) := c1.trans (by
      refine acmpYes X0.here hexec rfl (pc0 := 2) rfl (hb hbytes d2) rfl rfl rfl (by simp [acmp, hxy]) (by decide) rfl ?_
      refine XS.aloadN X0.here hexec rfl (hb hbytes d7) rfl rfl ?_
      exact Steps.refl _)
    obtain ⟨T3, X3, q3, st3⟩ := cinst X0 hexec hown (wk W (.classLink "java/lang/String" 10 "java/lang/String")) (hy.mv X0.warmed.alike hh0).1 (g := (mkF m 8 #[.val (.ref x), .val (.ref y), .unset] [.ref y])) rfl (rest := []) rfl (hb hbytes d8)
    have hh3 := q3.trans hh0
    have c4 : Steps p.tables e below (s₁.setTop (entryFrame m #[.ref x, .ref y] 3)) (T3.setTop (mkF m 15 #[.val (.ref x), .val (.ref y), .unset] [.ref y])) := (c2.trans (st3 _ (Steps.refl _))).trans (by
      refine XS.ifNo X3.here hexec rfl (hb hbytes d11) rfl (i0_eq_f (by decide)) ?_
      refine XS.aloadN X3.here hexec rfl (hb hbytes d14) rfl rfl ?_
      exact Steps.refl _)
    obtain ⟨T5, X5, q5, st5⟩ := cself X3 hexec hown (wk W (.classLink "java/lang/String" 10 "java/lang/String")) (hy.mv X3.warmed.alike hh3).1 (g := (mkF m 15 #[.val (.ref x), .val (.ref y), .unset] [.ref y])) rfl (rest := []) rfl (hb hbytes d15)
    have hh5 := q5.trans hh3
    have c6 : Steps p.tables e below (s₁.setTop (entryFrame m #[.ref x, .ref y] 3)) (T5.setTop (mkF m 19 #[.val (.ref x), .val (.ref y), .val (.ref y)] [])) := (c4.trans (st5 _ (Steps.refl _))).trans (by
      refine XS.astoreN X5.here hexec rfl (hb hbytes d18) rfl rfl rfl ?_
      exact Steps.refl _)
    obtain ⟨T7, X7, q7, st7⟩ := X5.sget hexec hown (wk W (.fieldLink "java/lang/String" 38 "java/lang/String" "COMPACT_STRINGS" "Z")) s1 (fun _ _ h => by rw [hh5]; exact h) (g := (mkF m 19 #[.val (.ref x), .val (.ref y), .val (.ref y)] [])) rfl (hb hbytes d19)
    have hh7 := q7.trans hh5
    have c8 : Steps p.tables e below (s₁.setTop (entryFrame m #[.ref x, .ref y] 3)) (T7.setTop (mkF m 26 #[.val (.ref x), .val (.ref y), .val (.ref y)] [.ref x])) := (c6.trans (st7 _ (Steps.refl _))).trans (by
      refine XS.ifNo X7.here hexec rfl (hb hbytes d22) rfl (i0_eq_f hz) ?_
      refine XS.aloadN X7.here hexec rfl (hb hbytes d25) rfl rfl ?_
      exact Steps.refl _)
    obtain ⟨T9, X9, q9, st9⟩ := X7.hget hexec hown (wk W (.fieldLink "java/lang/String" 15 "java/lang/String" "coder" "B")) (hx.mv X7.warmed.alike hh7).2.2.1 (g := (mkF m 26 #[.val (.ref x), .val (.ref y), .val (.ref y)] [.ref x])) rfl (rest := []) rfl (hb hbytes d26)
    have hh9 := q9.trans hh7
    have c10 : Steps p.tables e below (s₁.setTop (entryFrame m #[.ref x, .ref y] 3)) (T9.setTop (mkF m 30 #[.val (.ref x), .val (.ref y), .val (.ref y)] [.ref y, .int cd])) := (c8.trans (st9 _ (Steps.refl _))).trans (by
      refine XS.aloadN X9.here hexec rfl (hb hbytes d29) rfl rfl ?_
      exact Steps.refl _)
    obtain ⟨T11, X11, q11, st11⟩ := X9.hget hexec hown (wk W (.fieldLink "java/lang/String" 15 "java/lang/String" "coder" "B")) (hy.mv X9.warmed.alike hh9).2.2.1 (g := (mkF m 30 #[.val (.ref x), .val (.ref y), .val (.ref y)] [.ref y, .int cd])) rfl (rest := [.int cd]) rfl (hb hbytes d30)
    have hh11 := q11.trans hh9
    have c12 : Steps p.tables e below (s₁.setTop (entryFrame m #[.ref x, .ref y] 3)) (T11.setTop (mkF m 33 #[.val (.ref x), .val (.ref y), .val (.ref y)] [.int cd', .int cd])) := c10.trans (st11 _ (Steps.refl _))
    by_cases hcd : cd = cd'
    · subst hcd
      have c13 : Steps p.tables e below (s₁.setTop (entryFrame m #[.ref x, .ref y] 3)) (T11.setTop (mkF m 37 #[.val (.ref x), .val (.ref y), .val (.ref y)] [.ref x])) := c12.trans (by
        refine XS.icmpNo X11.here hexec rfl (hb hbytes d33) rfl (ii_ne_f rfl) ?_
        refine XS.aloadN X11.here hexec rfl (hb hbytes d36) rfl rfl ?_
        exact Steps.refl _)
      obtain ⟨T14, X14, q14, st14⟩ := X11.hget hexec hown (wk W (.fieldLink "java/lang/String" 9 "java/lang/String" "value" "[B")) (hx.mv X11.warmed.alike hh11).2.1 (g := (mkF m 37 #[.val (.ref x), .val (.ref y), .val (.ref y)] [.ref x])) rfl (rest := []) rfl (hb hbytes d37)
      have hh14 := q14.trans hh11
      have c15 : Steps p.tables e below (s₁.setTop (entryFrame m #[.ref x, .ref y] 3)) (T14.setTop (mkF m 41 #[.val (.ref x), .val (.ref y), .val (.ref y)] [.ref y, .ref t])) := (c13.trans (st14 _ (Steps.refl _))).trans (by
        refine XS.aloadN X14.here hexec rfl (hb hbytes d40) rfl rfl ?_
        exact Steps.refl _)
      obtain ⟨T16, X16, q16, st16⟩ := X14.hget hexec hown (wk W (.fieldLink "java/lang/String" 9 "java/lang/String" "value" "[B")) (hy.mv X14.warmed.alike hh14).2.1 (g := (mkF m 41 #[.val (.ref x), .val (.ref y), .val (.ref y)] [.ref y, .ref t])) rfl (rest := [.ref t]) rfl (hb hbytes d41)
      have hh16 := q16.trans hh14
      have c17 : Steps p.tables e below (s₁.setTop (entryFrame m #[.ref x, .ref y] 3)) (T16.setTop (mkF m 44 #[.val (.ref x), .val (.ref y), .val (.ref y)] [.ref t', .ref t])) := c15.trans (st16 _ (Steps.refl _))
      obtain ⟨v18, T18, X18, E18, g18⟩ := X16.callS hexec (LEq.law l t V t' V') hown (wks W (staticW "java/lang/String" 541 LEq.yN)) (wk W LEq.tab) (W := 0) (Nat.le_of_ble_eq_true rfl) (Nat.le_of_ble_eq_true rfl) (Nat.le_refl _) (Nat.le_refl _) (g := (mkF m 44 #[.val (.ref x), .val (.ref y), .val (.ref y)] [.ref t', .ref t])) rfl (by rw [hml]; rfl) c17 (argsL := [.ref t, .ref t']) (rest := []) rfl rfl (by show 2 * 0 + 0 ≤ _; decide) (hb hbytes d44) (⟨rfl, hx.2.2.2.1.mv X16.warmed.alike hh16, hx.2.2.2.2.1.ty, hy.2.2.2.1.mv X16.warmed.alike hh16, hy.2.2.2.2.1.ty⟩)
      obtain ⟨v, rfl, q18, hv⟩ := E18
      have iff := Cod.eqv hx.2.2.2.2.1 hy.2.2.2.2.1 hx.2.2.2.2.2 hy.2.2.2.2.2
      rcases hv with ⟨rfl, he⟩ | ⟨rfl, he⟩
      · have c19 : Steps p.tables e below (s₁.setTop (entryFrame m #[.ref x, .ref y] 3)) (T18.setTop (mkF m 55 #[.val (.ref x), .val (.ref y), .val (.ref y)] [.int 1])) := Steps.trans g18 (by
          refine XS.ifNo X18.here hexec rfl (hb hbytes d47) rfl (i0_eq_f (by decide)) ?_
          refine iconstV X18.here hexec rfl 1 (hb hbytes d50) (by decide) ?_
          refine XS.goto X18.here hexec rfl (pc0 := 51) rfl (hb hbytes d51) (by decide) rfl ?_
          exact Steps.refl _)
        exact ⟨T18, some (.int 1), _, _, _, X18, rfl, rfl, rfl, (fun h => by cases h), ⟨1, rfl, q18.trans hh16, Or.inl ⟨rfl, iff.mp he⟩⟩, fun fs hl => c19.trans (X18.ireturnOut hexec hret rfl (Or.inr (Or.inl rfl)) (hb hbytes d55) hl)⟩
      · have c19 : Steps p.tables e below (s₁.setTop (entryFrame m #[.ref x, .ref y] 3)) (T18.setTop (mkF m 55 #[.val (.ref x), .val (.ref y), .val (.ref y)] [.int 0])) := Steps.trans g18 (by
          refine XS.ifYes X18.here hexec rfl (pc0 := 47) rfl (hb hbytes d47) rfl (i0_eq_t rfl) (by decide) rfl ?_
          refine iconstV X18.here hexec rfl 0 (hb hbytes d54) (by decide) ?_
          exact Steps.refl _)
        exact ⟨T18, some (.int 0), _, _, _, X18, rfl, rfl, rfl, (fun h => by cases h), ⟨0, rfl, q18.trans hh16, Or.inr ⟨rfl, fun q => he (iff.mpr q)⟩⟩, fun fs hl => c19.trans (X18.ireturnOut hexec hret rfl (Or.inr (Or.inl rfl)) (hb hbytes d55) hl)⟩
    · have c13 : Steps p.tables e below (s₁.setTop (entryFrame m #[.ref x, .ref y] 3)) (T11.setTop (mkF m 55 #[.val (.ref x), .val (.ref y), .val (.ref y)] [.int 0])) := c12.trans (by
        refine XS.icmpYes X11.here hexec rfl (pc0 := 33) rfl (hb hbytes d33) rfl (ii_ne_t hcd) (by decide) rfl ?_
        refine iconstV X11.here hexec rfl 0 (hb hbytes d54) (by decide) ?_
        exact Steps.refl _)
      exact ⟨T11, some (.int 0), _, _, _, X11, rfl, rfl, rfl, (fun h => by cases h), ⟨0, rfl, hh11, Or.inr ⟨rfl, Cod.dif hx.2.2.2.2.1 hy.2.2.2.2.1 hcd⟩⟩, fun fs hl => c13.trans (X11.ireturnOut hexec hret rfl (Or.inr (Or.inl rfl)) (hb hbytes d55) hl)⟩
theorem pays {l : Launch} {R : Room} {p : Program} {e : Env} {below : List Frame} {s : State} {sargs : Array Value} {len W : Nat} (x t : Addr) (V : Cell) (cd : Int32) (n : Nat) (f : Nat → Int32) (y t' : Addr) (V' : Cell) (cd' : Int32) (k : Nat) (g : Nat → Int32) (z : Int32) (htab : tab.before sargs s = true) (hfr : 2 ≤ R.frames) (hlo : W + 28 ≤ R.locals) :
    Back l R p e below s sargs yN len W (fun A₁ a₁ => A₁.cells + 0 ≤ R.cells ∧ A₁.slots + 0 ≤ R.slots ∧ P x t V cd n f y t' V' cd' k g z a₁ A₁.U) (fun A₁ _ v₁ B₁ => Says01 (SameT n f k g) v₁ A₁.U B₁.U ∧ B₁.locs = A₁.locs ++ [] ∧ B₁.cells = A₁.cells + 0 ∧ B₁.slots = A₁.slots + 0) :=
  (law l x t V cd n f y t' V' cd' k g z).pays htab hfr (by omega)
end SEq
end StrChars
namespace StrChars.Road
open Jvm Sem ClassFile Op Lib Jvm.Stand Jvm.Free Jvm.Free.XT
open Jvm.Lib.Cold (StaticIs)
/-- the words of String.equals(Object) -/
abbrev wordsEq : List Jvm.Cond := [.code SEq.yN SEq.yB 3 (some .boolean), .initialized ST, .classLink ST 10 ST, .fieldLink ST 38 ST "COMPACT_STRINGS" "Z", .fieldLink ST 15 ST "coder" "B", .fieldLink ST 9 ST "value" "[B", .methodLink ST 541 LEq.yN, .static LEq.yN, .code LEq.yN LEq.yB 3 (some .boolean), .initialized "java/lang/StringLatin1"]
theorem tabEq_of {a : Array Value} {s : State} (h : ∀ w ∈ wordsEq, w.before a s = true) : SEq.tab.before a s = true := by
  have hl : LEq.tab.before a s = true := unparts (wk h (.code LEq.yN LEq.yB 3 (some .boolean))) (wks h (.initialized LEq.yN.cls :: LEq.site))
  have q := consq hl h
  exact unparts (wk q (.code SEq.yN SEq.yB 3 (some .boolean))) (wks q (.initialized SEq.yN.cls :: SEq.site))
theorem movedEq {Z s : State} {a0 args : Array Value} (hZ : Z.Warmed39 s.vm) (hw : ∀ d ∈ wordsEq, d.before a0 Z = true) : ∀ d ∈ wordsEq, d.before args s = true := fun d hd => by
  have t : ∀ d ∈ wordsEq, (d.onTables && d.keepsFace) = true := by decide +kernel
  exact RoadKit.mv hZ (hw d hd) (t d hd)
/-- the road's facts of a String, as the laws ask it -/
theorem txt_of {Z U : State} {a0 : Array Value} {kI : Nat} (wi : (Jvm.Cond.instantiable ST kI).before a0 Z = true) (al : Z.vm.Alike U.vm) {x t : Addr} {kb : ClassId} {cs : List Int32} {cd N2 : Int32} {vs : List Value} (E : RoadKit.Exa Z U.heap x ST) (V : RoadKit.Fld Z U.heap x ST "value" "[B" (.ref t)) (C : RoadKit.Fld Z U.heap x ST "coder" "B" (.int cd)) (K : RoadKit.Arv Z U.heap t kb .byte N2 vs (.int 0)) (hc : CodA cs cd N2 vs) (hb : ∀ c ∈ cs, ¬ c < 0 ∧ ¬ (65535 : Int32) < c) (l2 : cs.length ≤ 4000) :
    ∃ A, Txt x t A cd cs.length (fun j => cs.getD j 0) U := by
  obtain ⟨A, K1, K2, K3, K4, K5, K6⟩ := K
  have hcod := hc.cod (by omega) K3 K5
  obtain ⟨D, fV, fC, hB, F1, F2, g1, g2, -, -⟩ := strObj wi al E V C
  exact ⟨A, ⟨_, hB.2.2.1, D, hB.1, rfl, by cases q : D.vm <;> first | rfl | exact absurd q (hB.2.1.2 _)⟩, Has.of hB F1 g1, Has.of hB F2 g2, ⟨K1.1, State.isArrayOf_alike al K1.2.1, K1.2.2, by rcases hcod with ⟨-, q, -⟩ | ⟨-, q, -⟩ <;> omega⟩, hcod, fun j hj => by
    have e : cs.getD j 0 = cs[j] := by simp [List.getD_eq_getElem?_getD, hj]
    show ¬ cs.getD j 0 < 0 ∧ ¬ 65535 < cs.getD j 0
    rw [e]; exact hb _ (List.getElem_mem _)⟩
theorem same_list (cs ds : List Int32) : SameT cs.length (fun j => cs.getD j 0) ds.length (fun j => ds.getD j 0) ↔ cs = ds := by
  constructor
  · rintro ⟨e, q⟩
    refine List.ext_getElem e fun j h1 h2 => ?_
    have := q j h1
    simpa [List.getD_eq_getElem?_getD, h1, h2] using this
  · rintro rfl
    exact ⟨rfl, fun _ _ => rfl⟩
/-- **equals(Object) OF TWO SUCH STRINGS**: 1 just where the chars are the same -/
theorem eqW {p : Program} {l : Launch} {e : Env} {R : Room} {s : State} {args : Array Value} {below : List Frame} {len W : Nat} {Z : State} {a0 : Array Value} {h : Heap} (hZ : Z.Warmed39 s.vm) (hw : ∀ d ∈ wordsEq, d.before a0 Z = true) {kI : Nat} (wi : (Jvm.Cond.instantiable ST kI).before a0 Z = true)
    {x t : Addr} {kb : ClassId} {cs : List Int32} {cd N2 : Int32} {vs : List Value} (E : RoadKit.Exa Z h x ST) (V : RoadKit.Fld Z h x ST "value" "[B" (.ref t)) (C : RoadKit.Fld Z h x ST "coder" "B" (.int cd)) (K : RoadKit.Arv Z h t kb .byte N2 vs (.int 0)) (hc : CodA cs cd N2 vs) (hb : ∀ c ∈ cs, ¬ c < 0 ∧ ¬ (65535 : Int32) < c) (l2 : cs.length ≤ 4000)
    {y t' : Addr} {kb' : ClassId} {ds : List Int32} {cd' N2' : Int32} {vs' : List Value} (E' : RoadKit.Exa Z h y ST) (V' : RoadKit.Fld Z h y ST "value" "[B" (.ref t')) (C' : RoadKit.Fld Z h y ST "coder" "B" (.int cd')) (K' : RoadKit.Arv Z h t' kb' .byte N2' vs' (.int 0)) (hc' : CodA ds cd' N2' vs') (hb' : ∀ c ∈ ds, ¬ c < 0 ∧ ¬ (65535 : Int32) < c) (l2' : ds.length ≤ 4000)
    {z : Int32} (S : RoadKit.Sta Z h ST "COMPACT_STRINGS" "Z" (.int z)) (hz : ¬ z = 0) (hfr : 2 ≤ R.frames) (hlo : W + 28 ≤ R.locals) :
    Back l R p e below s args (⟨"java/lang/String", "equals", "(Ljava/lang/Object;)Z"⟩ : MethodName) len W (fun P a => a = #[.ref x, .ref y] ∧ P.U.heap = h ∧ P.cells + 0 ≤ R.cells ∧ P.slots + 0 ≤ R.slots)
      (fun P _ v B => ∃ L, (((v = some (.int 1) ∧ cs = ds) ∨ (v = some (.int 0) ∧ ¬ cs = ds)) ∧ L = [] ∧ B.U.heap = h) ∧ B.locs = P.locs ++ L ∧ B.cells = P.cells + 0 ∧ B.slots = P.slots + 0) := by
  intro m meth c P g ig mk a X hg hsize hdg hW hn hp'
  obtain ⟨rfl, rfl, r1, r2⟩ := hp'
  have al : Z.vm.Alike P.U.vm := hZ.alike.trans X.warmed.alike
  obtain ⟨A, hx⟩ := txt_of wi al E V C K hc hb l2
  obtain ⟨A', hy⟩ := txt_of wi al E' V' C' K' hc' hb' l2'
  obtain ⟨v, B, X', ⟨⟨w, hv, hh, hq⟩, hl, hk, hs⟩, st⟩ := SEq.pays x t A cd cs.length (fun j => cs.getD j 0) y t' A' cd' ds.length (fun j => ds.getD j 0) z (tabEq_of (movedEq hZ hw)) hfr hlo m meth c P g ig mk _ X hg hsize hdg hW hn ⟨r1, r2, rfl, hx, hy, sta_is al S, hz⟩
  refine ⟨v, B, X', ⟨[], ⟨?_, rfl, hh⟩, hl, hk, hs⟩, st⟩
  rcases hq with ⟨rfl, q⟩ | ⟨rfl, q⟩
  · exact Or.inl ⟨hv, (same_list cs ds).mp q⟩
  · exact Or.inr ⟨hv, fun e => q ((same_list cs ds).mpr e)⟩
end StrChars.Road
end Jvm.Pilot.@@N@@

namespace Jvm.Pilot.@@N@@
open Jvm Jvm.ClassFile Sem Op Lib Jvm.Free Jvm.Stand Jvm.LawKit Jvm.RoadKit Bundle Jvm.OwnKit
section StrKit
variable {p : Program} {l : Launch} {e : Env} {R : Room} {s : State} {m : MethodId} {args : Array Value} {below : List Frame} {meth : Method} {c : Code} {Z : State} {a0 : Array Value} {EL : List (String × Nat)} {cw : Prop} {own : String} {n0 : Nat} {bytes : ByteArray} {maxL : Nat} {ret : Option FieldType} {nm : String} {T : State} {h : Heap} {C S : Nat} {sf : List Addr} {P : State → Outcome → Prop}
theorem G.newStr (H : Hs p l e R s m args below meth c Z a0 EL cw own n0 bytes maxL ret nm T h C S sf) (hws : ∀ d ∈ StrChars.Road.words, d.before a0 Z = true) {kI : Nat} (wi : (Jvm.Cond.instantiable "java/lang/String" kI).before a0 Z = true) {index : Nat} (w1 : (Jvm.Cond.methodLink own index (⟨"java/lang/String", "<init>", "([C)V"⟩ : MethodName)).before a0 Z = true) (w2 : (Jvm.Cond.instanceMethod (⟨"java/lang/String", "<init>", "([C)V"⟩ : MethodName)).before a0 Z = true)
    {x b : Addr} {kC : ClassId} {cs : List Int32} {d v0 c0 : Value} {z N : Int32} {n : Nat} (g : n0 ≤ x) (E : Exa Z h x "java/lang/String") (V : Fld Z h x "java/lang/String" "value" "[B" v0) (Cd : Fld Z h x "java/lang/String" "coder" "B" c0) (K : Arv Z h b kC .char N (cs.map Value.int) d) (Sc : Sta Z Z.heap "java/lang/String" "COMPACT_STRINGS" "Z" (.int z)) (hz : ¬ z = 0)
    (hn : cs.length = n) (hN : N = Int32.ofNat n) (l0 : 0 < n) (l2 : n ≤ 4000) (hp : ∀ c ∈ cs, ¬ c < 0 ∧ ¬ (255 : Int32) < c) (hsf : Sf Z EL h sf x) {rest : List Value} {W : Nat} {pc pc' : Nat} {L : Array Slot} (hL : L.size = maxL) (hW : (rest.map fun v => v.category).sum = W) (hd : decode bytes pc = .ok (.invokespecial index, 3)) (hp' : pc + 3 = pc') (hfr : 4 ≤ R.frames) (hlo : W + 65 ≤ R.locals) (hc : C + 1 ≤ R.cells) (hsl : S + n ≤ R.slots)
    (k : ∀ T' h' t kb, h.size ≤ t → Hs p l e R s m args below meth c Z a0 EL cw own n0 bytes maxL ret nm T' h' (C + 1) (S + n) (t :: sf) → Keep h h' [x] → Str Z h' x t kb cs → Go p e below P (T'.setTop (mkF m pc' L rest))) : Go p e below P (T.setTop (mkF m pc L (.ref b :: .ref x :: rest))) := by
  subst hp'
  obtain ⟨hM, vm0, k0, locs, X, h1, h2, h3, h4, h5, h6, h7, h8, h9, hO⟩ := id H
  have wc : (Jvm.Cond.code StrChars.New1.yN StrChars.New1.yB 2 none).before a0 Z = true := hws _ (List.mem_of_getElem? (i := 0) rfl)
  obtain ⟨v, vm₁, B, hw, X', ⟨L', ⟨q1, q2, q3, q4, q5, t, kb, q6, q7, q8, q9, q10⟩, r2, r3, r4⟩, st'⟩ := X.specialBack H.exec (y := (⟨"java/lang/String", "<init>", "([C)V"⟩ : MethodName)) rfl h5 (mvT (s := s.setVm vm0) h4 w1) (mvT (s := s.setVm vm0) h4 w2) (mvT (s := s.setVm vm0) h4 wc) (by decide)
    (StrChars.Road.backV (W := W) (s := s.setVm vm0) h4 hws wi g H.le E V Cd K (Sta.ext hO.2 Sc) hz hn hN l0 l2 hp rfl hfr hlo) (g := mkF m pc L (.ref b :: .ref x :: rest)) rfl (by rw [hM.2.2.2.1]; exact hL) (Steps.refl _) (a := x) (argsL := [.ref b]) (rest := rest) (lenOf (show parseMethodDescriptor "([C)V" = some ⟨[.array .char], none⟩ by decide +kernel) rfl) rfl (by show 2 * 0 + _ ≤ _; omega) (H.dec hd) (fun _ _ => ⟨rfl, h1, hc, hsl⟩)
  subst q1
  have sx : ∀ y ∈ [x], Safe Z EL vm0 h y := fun y hy => by rw [List.mem_singleton.mp hy]; exact hsf.safe h4 h8
  have hC := CHr.keep q3 sx h7.1
  refine Go.tr st' (k B.U B.U.heap t kb q7 ⟨hM, vm0, k0, B.locs, by rw [← r3, ← r4]; exact X', rfl, h2, Nat.le_trans h3 q3.1, h4, h5, by rw [r2]; exact Fr.app h6 q2, h7.trans hC, fun y hy => ?_, h9, hO.keep q3 (fun y hy => by rw [List.mem_singleton.mp hy]; exact g)⟩ q3 ⟨q4, q5, q9, ?_, hp, by rw [hn]; exact l2⟩)
  · rcases List.mem_cons.mp hy with rfl | hy
    · exact ⟨q10.lt, Safe.keep q3 sx h7.1 (Safe.new q7)⟩
    · exact ⟨Nat.lt_of_lt_of_le (h8 y hy).1 q3.1, Safe.keep q3 sx h7.1 (h8 y hy).2⟩
  · rw [hn, ← hN]; rw [List.map_map] at q10; exact q10
end StrKit
end Jvm.Pilot.@@N@@
namespace Jvm.Pilot.@@N@@
open Jvm Jvm.ClassFile Sem Op Lib Jvm.Free Jvm.Stand Jvm.LawKit Jvm.RoadKit Bundle Jvm.OwnKit
section StrKit2
variable {p : Program} {l : Launch} {e : Env} {R : Room} {s : State} {m : MethodId} {args : Array Value} {below : List Frame} {meth : Method} {c : Code} {Z : State} {a0 : Array Value} {EL : List (String × Nat)} {cw : Prop} {own : String} {n0 : Nat} {bytes : ByteArray} {maxL : Nat} {ret : Option FieldType} {nm : String} {T : State} {h : Heap} {C S : Nat} {sf : List Addr} {P : State → Outcome → Prop}
theorem str_cod {a t : Addr} {kb : ClassId} {cs : List Int32} (F : Str Z h a t kb cs) : StrChars.Road.CodA cs 0 (Int32.ofNat cs.length) (cs.map fun c => Value.int c.toInt8.toInt32) := Or.inl ⟨rfl, rfl, rfl, fun c hc => (F.2.2.2.2.1 c hc).2⟩
theorem str_u16 {a t : Addr} {kb : ClassId} {cs : List Int32} (F : Str Z h a t kb cs) : ∀ c ∈ cs, ¬ c < 0 ∧ ¬ (65535 : Int32) < c := fun c hc => own_u16 (F.2.2.2.2.1 c hc)
theorem G.strEq (H : Hs p l e R s m args below meth c Z a0 EL cw own n0 bytes maxL ret nm T h C S sf) (hws : ∀ d ∈ StrChars.Road.wordsEq, d.before a0 Z = true) {kI : Nat} (wi : (Jvm.Cond.instantiable "java/lang/String" kI).before a0 Z = true) {index : Nat} {yc : String} (w1 : (Jvm.Cond.methodLink own index (⟨yc, "equals", "(Ljava/lang/Object;)Z"⟩ : MethodName)).before a0 Z = true) (hyc : yc ≠ "java/lang/invoke/MethodHandle" ∧ yc ≠ "java/lang/invoke/VarHandle") (w2 : (Jvm.Cond.declares (⟨yc, "equals", "(Ljava/lang/Object;)Z"⟩ : MethodName)).before a0 Z = true) (wn : ∀ s' : State, Z.Warmed39 s'.vm → NotFace s' (⟨yc, "equals", "(Ljava/lang/Object;)Z"⟩ : MethodName)) (w3 : (Jvm.Cond.selects "java/lang/String" (⟨yc, "equals", "(Ljava/lang/Object;)Z"⟩ : MethodName) (⟨"java/lang/String", "equals", "(Ljava/lang/Object;)Z"⟩ : MethodName)).before a0 Z = true) (w4 : (Jvm.Cond.instanceMethod (⟨"java/lang/String", "equals", "(Ljava/lang/Object;)Z"⟩ : MethodName)).before a0 Z = true)
    {x t y t' : Addr} {kb kb' : ClassId} {cs ds : List Int32} (F : Str Z h x t kb cs) (F' : Str Z h y t' kb' ds) {z : Int32} (Sc : Sta Z Z.heap "java/lang/String" "COMPACT_STRINGS" "Z" (.int z)) (hz : ¬ z = 0) {rest : List Value} {W : Nat} {pc pc' : Nat} {L : Array Slot} (hL : L.size = maxL) (hW : (rest.map fun v => v.category).sum = W) (hd : decode bytes pc = .ok (.invokevirtual index, 3)) (hp : pc + 3 = pc') (hfr : 2 ≤ R.frames) (hlo : W + 28 ≤ R.locals) (hc : C ≤ R.cells) (hsl : S ≤ R.slots)
    (k1 : ∀ T', Hs p l e R s m args below meth c Z a0 EL cw own n0 bytes maxL ret nm T' h C S sf → cs = ds → Go p e below P (T'.setTop (mkF m pc' L (.int 1 :: rest)))) (k0 : ∀ T', Hs p l e R s m args below meth c Z a0 EL cw own n0 bytes maxL ret nm T' h C S sf → ¬ cs = ds → Go p e below P (T'.setTop (mkF m pc' L (.int 0 :: rest)))) : Go p e below P (T.setTop (mkF m pc L (.ref y :: .ref x :: rest))) := by
  refine G.pureV H (Qv := fun v => (v = some (.int 1) ∧ cs = ds) ∨ (v = some (.int 0) ∧ ¬ cs = ds)) (W := W) (fun s' hZ' => StrChars.Road.eqW (s := s') hZ' hws wi F.1 F.2.2.1 F.2.1 F.2.2.2.1 (str_cod F) (str_u16 F) F.2.2.2.2.2 F'.1 F'.2.2.1 F'.2.1 F'.2.2.2.1 (str_cod F') (str_u16 F') F'.2.2.2.2.2 (Sta.ext H.old.2 Sc) hz hfr hlo) w1 w2 wn w3 w4 hyc F.1 (argsL := [.ref y]) (rest := rest) hL rfl (lenOf (show parseMethodDescriptor "(Ljava/lang/Object;)Z" = some ⟨[.object "java/lang/Object"], some .boolean⟩ by decide +kernel) rfl) rfl hW hd hp hc hsl ?_
  intro T' v H' hq
  rcases hq with ⟨rfl, q⟩ | ⟨rfl, q⟩
  · exact k1 T' H' q
  · exact k0 T' H' q
end StrKit2
end Jvm.Pilot.@@N@@
namespace Jvm.Pilot.@@N@@
open Jvm Jvm.ClassFile Sem Op Lib Jvm.Free Jvm.Stand Jvm.LawKit Jvm.RoadKit Bundle Jvm.OwnKit Jvm.Pilot.@@N@@.Jvm.D
abbrev ELs : List (String × Nat) := [("java/lang/String", 7)]
def Env1 (Z : State) (a0 : Array Value) (n0 : Nat) (uu0 : Int32) (uu1 : Value) : Prop := (∀ d ∈ tables_1, d.before a0 Z = true) ∧ EW Z a0 ELs ∧ Sta Z Z.heap "java/lang/String" "COMPACT_STRINGS" "Z" (.int uu0) ∧ ¬ uu0 = 0 ∧ Sta Z Z.heap "jdk/internal/util/Preconditions" "SIOOBE_FORMATTER" "Ljava/util/function/BiFunction;" uu1 ∧ uu1.isRef = true ∧ True
theorem EWl (V : Env1 Z a0 n0 uu0 uu1) : EW Z a0 ELs := V.2.1
theorem hv0 (V : Env1 Z a0 n0 uu0 uu1) : Sta Z Z.heap "java/lang/String" "COMPACT_STRINGS" "Z" (.int uu0) := V.2.2.1
theorem hv1 (V : Env1 Z a0 n0 uu0 uu1) : ¬ uu0 = 0 := V.2.2.2.1
theorem hv2 (V : Env1 Z a0 n0 uu0 uu1) : Sta Z Z.heap "jdk/internal/util/Preconditions" "SIOOBE_FORMATTER" "Ljava/util/function/BiFunction;" uu1 := V.2.2.2.2.1
theorem hv3 (V : Env1 Z a0 n0 uu0 uu1) : uu1.isRef = true := V.2.2.2.2.2.1
theorem wd0 (V : Env1 Z a0 n0 uu0 uu1) : (Jvm.Cond.classLink "com/example/schema_to_form/schematoform/record/ValuePathEqualsPinLaw" (26 : Nat) "com/example/schema_to_form/schematoform/record/ValuePath").before a0 Z = true := V.1 _ (List.mem_of_getElem? (i := 0) rfl)
theorem wd1 (V : Env1 Z a0 n0 uu0 uu1) : (Jvm.Cond.instantiable "com/example/schema_to_form/schematoform/record/ValuePath" (2 : Nat)).before a0 Z = true := V.1 _ (List.mem_of_getElem? (i := 1) rfl)
theorem wd2 (V : Env1 Z a0 n0 uu0 uu1) : (Jvm.Cond.initialized "com/example/schema_to_form/schematoform/record/ValuePath").before a0 Z = true := V.1 _ (List.mem_of_getElem? (i := 2) rfl)
theorem wd3 (V : Env1 Z a0 n0 uu0 uu1) : (Jvm.Cond.methodLink "com/example/schema_to_form/schematoform/record/ValuePathEqualsPinLaw" (28 : Nat) ({ cls := "com/example/schema_to_form/schematoform/record/ValuePathEqualsPinLaw", name := "slot", desc := "(I)Ljava/lang/String;" } : Jvm.MethodName)).before a0 Z = true := V.1 _ (List.mem_of_getElem? (i := 3) rfl)
theorem wd4 (V : Env1 Z a0 n0 uu0 uu1) : (Jvm.Cond.static ({ cls := "com/example/schema_to_form/schematoform/record/ValuePathEqualsPinLaw", name := "slot", desc := "(I)Ljava/lang/String;" } : Jvm.MethodName)).before a0 Z = true := V.1 _ (List.mem_of_getElem? (i := 4) rfl)
theorem wd5 (V : Env1 Z a0 n0 uu0 uu1) : (Jvm.Cond.initialized "com/example/schema_to_form/schematoform/record/ValuePathEqualsPinLaw").before a0 Z = true := V.1 _ (List.mem_of_getElem? (i := 5) rfl)
theorem wd6 (V : Env1 Z a0 n0 uu0 uu1) : (Jvm.Cond.code ({ cls := "com/example/schema_to_form/schematoform/record/ValuePathEqualsPinLaw", name := "slot", desc := "(I)Ljava/lang/String;" } : Jvm.MethodName) method_4_code (1 : Nat) (Option.some (Jvm.ClassFile.FieldType.object "java/lang/String"))).before a0 Z = true := V.1 _ (List.mem_of_getElem? (i := 6) rfl)
theorem wd7 (V : Env1 Z a0 n0 uu0 uu1) : (Jvm.Cond.methodLink "com/example/schema_to_form/schematoform/record/ValuePathEqualsPinLaw" (12 : Nat) ({ cls := "com/example/schema_to_form/schematoform/record/ValuePathEqualsPinLaw", name := "isNullSlot", desc := "(I)Z" } : Jvm.MethodName)).before a0 Z = true := V.1 _ (List.mem_of_getElem? (i := 7) rfl)
theorem wd8 (V : Env1 Z a0 n0 uu0 uu1) : (Jvm.Cond.static ({ cls := "com/example/schema_to_form/schematoform/record/ValuePathEqualsPinLaw", name := "isNullSlot", desc := "(I)Z" } : Jvm.MethodName)).before a0 Z = true := V.1 _ (List.mem_of_getElem? (i := 8) rfl)
theorem wd9 (V : Env1 Z a0 n0 uu0 uu1) : (Jvm.Cond.code ({ cls := "com/example/schema_to_form/schematoform/record/ValuePathEqualsPinLaw", name := "isNullSlot", desc := "(I)Z" } : Jvm.MethodName) method_3_code (1 : Nat) (Option.some Jvm.ClassFile.FieldType.boolean)).before a0 Z = true := V.1 _ (List.mem_of_getElem? (i := 9) rfl)
theorem wd10 (V : Env1 Z a0 n0 uu0 uu1) : (Jvm.Cond.methodLink "com/example/schema_to_form/schematoform/record/ValuePathEqualsPinLaw" (18 : Nat) ({ cls := "com/example/schema_to_form/schematoform/record/ValuePathEqualsPinLaw", name := "str", desc := "(I)Ljava/lang/String;" } : Jvm.MethodName)).before a0 Z = true := V.1 _ (List.mem_of_getElem? (i := 10) rfl)
theorem wd11 (V : Env1 Z a0 n0 uu0 uu1) : (Jvm.Cond.static ({ cls := "com/example/schema_to_form/schematoform/record/ValuePathEqualsPinLaw", name := "str", desc := "(I)Ljava/lang/String;" } : Jvm.MethodName)).before a0 Z = true := V.1 _ (List.mem_of_getElem? (i := 11) rfl)
theorem wd12 (V : Env1 Z a0 n0 uu0 uu1) : (Jvm.Cond.code ({ cls := "com/example/schema_to_form/schematoform/record/ValuePathEqualsPinLaw", name := "str", desc := "(I)Ljava/lang/String;" } : Jvm.MethodName) method_2_code (5 : Nat) (Option.some (Jvm.ClassFile.FieldType.object "java/lang/String"))).before a0 Z = true := V.1 _ (List.mem_of_getElem? (i := 12) rfl)
theorem wd13 (V : Env1 Z a0 n0 uu0 uu1) : (Jvm.Cond.classLink "com/example/schema_to_form/schematoform/record/ValuePathEqualsPinLaw" (7 : Nat) "java/lang/String").before a0 Z = true := V.1 _ (List.mem_of_getElem? (i := 13) rfl)
theorem wd14 (V : Env1 Z a0 n0 uu0 uu1) : (Jvm.Cond.instantiable "java/lang/String" (4 : Nat)).before a0 Z = true := V.1 _ (List.mem_of_getElem? (i := 14) rfl)
theorem wd15 (V : Env1 Z a0 n0 uu0 uu1) : (Jvm.Cond.initialized "java/lang/String").before a0 Z = true := V.1 _ (List.mem_of_getElem? (i := 15) rfl)
theorem wd16 (V : Env1 Z a0 n0 uu0 uu1) : (Jvm.Cond.arrayClass Jvm.ClassFile.FieldType.char).before a0 Z = true := V.1 _ (List.mem_of_getElem? (i := 16) rfl)
theorem wd17 (V : Env1 Z a0 n0 uu0 uu1) : (Jvm.Cond.methodLink "com/example/schema_to_form/schematoform/record/ValuePathEqualsPinLaw" (9 : Nat) ({ cls := "java/lang/String", name := "<init>", desc := "([C)V" } : Jvm.MethodName)).before a0 Z = true := V.1 _ (List.mem_of_getElem? (i := 17) rfl)
theorem wd18 (V : Env1 Z a0 n0 uu0 uu1) : (Jvm.Cond.instanceMethod ({ cls := "java/lang/String", name := "<init>", desc := "([C)V" } : Jvm.MethodName)).before a0 Z = true := V.1 _ (List.mem_of_getElem? (i := 18) rfl)
theorem wd19 (V : Env1 Z a0 n0 uu0 uu1) : (Jvm.Cond.code ({ cls := "java/lang/String", name := "<init>", desc := "([C)V" } : Jvm.MethodName) jdk_42_method_3_code (2 : Nat) (Option.none : Option Jvm.ClassFile.FieldType)).before a0 Z = true := V.1 _ (List.mem_of_getElem? (i := 19) rfl)
theorem wd20 (V : Env1 Z a0 n0 uu0 uu1) : (Jvm.Cond.methodLink "java/lang/String" (27 : Nat) ({ cls := "java/lang/String", name := "<init>", desc := "([CIILjava/lang/Void;)V" } : Jvm.MethodName)).before a0 Z = true := V.1 _ (List.mem_of_getElem? (i := 20) rfl)
theorem wd21 (V : Env1 Z a0 n0 uu0 uu1) : (Jvm.Cond.instanceMethod ({ cls := "java/lang/String", name := "<init>", desc := "([CIILjava/lang/Void;)V" } : Jvm.MethodName)).before a0 Z = true := V.1 _ (List.mem_of_getElem? (i := 21) rfl)
theorem wd23 (V : Env1 Z a0 n0 uu0 uu1) : (Jvm.Cond.code ({ cls := "java/lang/String", name := "<init>", desc := "([CIILjava/lang/Void;)V" } : Jvm.MethodName) jdk_42_method_149_code (6 : Nat) (Option.none : Option Jvm.ClassFile.FieldType)).before a0 Z = true := V.1 _ (List.mem_of_getElem? (i := 23) rfl)
theorem wd24 (V : Env1 Z a0 n0 uu0 uu1) : (Jvm.Cond.methodLink "java/lang/String" (1 : Nat) ({ cls := "java/lang/Object", name := "<init>", desc := "()V" } : Jvm.MethodName)).before a0 Z = true := V.1 _ (List.mem_of_getElem? (i := 24) rfl)
theorem wd25 (V : Env1 Z a0 n0 uu0 uu1) : (Jvm.Cond.instanceMethod ({ cls := "java/lang/Object", name := "<init>", desc := "()V" } : Jvm.MethodName)).before a0 Z = true := V.1 _ (List.mem_of_getElem? (i := 25) rfl)
theorem wd26 (V : Env1 Z a0 n0 uu0 uu1) : (Jvm.Cond.code ({ cls := "java/lang/Object", name := "<init>", desc := "()V" } : Jvm.MethodName) object_method_1_code (1 : Nat) (Option.none : Option Jvm.ClassFile.FieldType)).before a0 Z = true := V.1 _ (List.mem_of_getElem? (i := 26) rfl)
theorem wd27 (V : Env1 Z a0 n0 uu0 uu1) : (Jvm.Cond.stringLink "java/lang/String" (7 : Nat) "").before a0 Z = true := V.1 _ (List.mem_of_getElem? (i := 27) rfl)
theorem wd29 (V : Env1 Z a0 n0 uu0 uu1) : (Jvm.Cond.laysFinal "java/lang/String" "java/lang/String" "value" "[B").before a0 Z = true := V.1 _ (List.mem_of_getElem? (i := 29) rfl)
theorem wd30 (V : Env1 Z a0 n0 uu0 uu1) : (Jvm.Cond.laysFinal "java/lang/String" "java/lang/String" "coder" "B").before a0 Z = true := V.1 _ (List.mem_of_getElem? (i := 30) rfl)
theorem wd33 (V : Env1 Z a0 n0 uu0 uu1) : (Jvm.Cond.fieldLink "java/lang/String" (9 : Nat) "java/lang/String" "value" "[B").before a0 Z = true := V.1 _ (List.mem_of_getElem? (i := 33) rfl)
theorem wd34 (V : Env1 Z a0 n0 uu0 uu1) : (Jvm.Cond.fieldLink "java/lang/String" (15 : Nat) "java/lang/String" "coder" "B").before a0 Z = true := V.1 _ (List.mem_of_getElem? (i := 34) rfl)
theorem wd46 (V : Env1 Z a0 n0 uu0 uu1) : (Jvm.Cond.methodLink "com/example/schema_to_form/schematoform/record/ValuePathEqualsPinLaw" (31 : Nat) ({ cls := "com/example/schema_to_form/schematoform/record/ValuePath", name := "<init>", desc := "(Ljava/lang/String;Ljava/lang/String;)V" } : Jvm.MethodName)).before a0 Z = true := V.1 _ (List.mem_of_getElem? (i := 46) rfl)
theorem wd47 (V : Env1 Z a0 n0 uu0 uu1) : (Jvm.Cond.instanceMethod ({ cls := "com/example/schema_to_form/schematoform/record/ValuePath", name := "<init>", desc := "(Ljava/lang/String;Ljava/lang/String;)V" } : Jvm.MethodName)).before a0 Z = true := V.1 _ (List.mem_of_getElem? (i := 47) rfl)
theorem wd48 (V : Env1 Z a0 n0 uu0 uu1) : (Jvm.Cond.code ({ cls := "com/example/schema_to_form/schematoform/record/ValuePath", name := "<init>", desc := "(Ljava/lang/String;Ljava/lang/String;)V" } : Jvm.MethodName) prog_7_method_1_code (3 : Nat) (Option.none : Option Jvm.ClassFile.FieldType)).before a0 Z = true := V.1 _ (List.mem_of_getElem? (i := 48) rfl)
theorem wd49 (V : Env1 Z a0 n0 uu0 uu1) : (Jvm.Cond.methodLink "com/example/schema_to_form/schematoform/record/ValuePath" (1 : Nat) ({ cls := "java/lang/Object", name := "<init>", desc := "()V" } : Jvm.MethodName)).before a0 Z = true := V.1 _ (List.mem_of_getElem? (i := 49) rfl)
theorem wd50 (V : Env1 Z a0 n0 uu0 uu1) : (Jvm.Cond.fieldLink "com/example/schema_to_form/schematoform/record/ValuePath" (7 : Nat) "com/example/schema_to_form/schematoform/record/ValuePath" "slot" "Ljava/lang/String;").before a0 Z = true := V.1 _ (List.mem_of_getElem? (i := 50) rfl)
theorem wd51 (V : Env1 Z a0 n0 uu0 uu1) : (Jvm.Cond.laysFinal "com/example/schema_to_form/schematoform/record/ValuePath" "com/example/schema_to_form/schematoform/record/ValuePath" "slot" "Ljava/lang/String;").before a0 Z = true := V.1 _ (List.mem_of_getElem? (i := 51) rfl)
theorem wd52 (V : Env1 Z a0 n0 uu0 uu1) : (Jvm.Cond.fieldLink "com/example/schema_to_form/schematoform/record/ValuePath" (13 : Nat) "com/example/schema_to_form/schematoform/record/ValuePath" "name" "Ljava/lang/String;").before a0 Z = true := V.1 _ (List.mem_of_getElem? (i := 52) rfl)
theorem wd53 (V : Env1 Z a0 n0 uu0 uu1) : (Jvm.Cond.laysFinal "com/example/schema_to_form/schematoform/record/ValuePath" "com/example/schema_to_form/schematoform/record/ValuePath" "name" "Ljava/lang/String;").before a0 Z = true := V.1 _ (List.mem_of_getElem? (i := 53) rfl)
theorem wd54 (V : Env1 Z a0 n0 uu0 uu1) : (Jvm.Cond.methodLink "com/example/schema_to_form/schematoform/record/ValuePathEqualsPinLaw" (34 : Nat) ({ cls := "com/example/schema_to_form/schematoform/record/ValuePathEqualsPinLaw", name := "sameSlot", desc := "(II)Z" } : Jvm.MethodName)).before a0 Z = true := V.1 _ (List.mem_of_getElem? (i := 54) rfl)
theorem wd55 (V : Env1 Z a0 n0 uu0 uu1) : (Jvm.Cond.static ({ cls := "com/example/schema_to_form/schematoform/record/ValuePathEqualsPinLaw", name := "sameSlot", desc := "(II)Z" } : Jvm.MethodName)).before a0 Z = true := V.1 _ (List.mem_of_getElem? (i := 55) rfl)
theorem wd56 (V : Env1 Z a0 n0 uu0 uu1) : (Jvm.Cond.code ({ cls := "com/example/schema_to_form/schematoform/record/ValuePathEqualsPinLaw", name := "sameSlot", desc := "(II)Z" } : Jvm.MethodName) method_6_code (4 : Nat) (Option.some Jvm.ClassFile.FieldType.boolean)).before a0 Z = true := V.1 _ (List.mem_of_getElem? (i := 56) rfl)
theorem wd57 (V : Env1 Z a0 n0 uu0 uu1) : (Jvm.Cond.methodLink "com/example/schema_to_form/schematoform/record/ValuePathEqualsPinLaw" (22 : Nat) ({ cls := "com/example/schema_to_form/schematoform/record/ValuePathEqualsPinLaw", name := "sameStr", desc := "(II)Z" } : Jvm.MethodName)).before a0 Z = true := V.1 _ (List.mem_of_getElem? (i := 57) rfl)
theorem wd58 (V : Env1 Z a0 n0 uu0 uu1) : (Jvm.Cond.static ({ cls := "com/example/schema_to_form/schematoform/record/ValuePathEqualsPinLaw", name := "sameStr", desc := "(II)Z" } : Jvm.MethodName)).before a0 Z = true := V.1 _ (List.mem_of_getElem? (i := 58) rfl)
theorem wd59 (V : Env1 Z a0 n0 uu0 uu1) : (Jvm.Cond.code ({ cls := "com/example/schema_to_form/schematoform/record/ValuePathEqualsPinLaw", name := "sameStr", desc := "(II)Z" } : Jvm.MethodName) method_5_code (7 : Nat) (Option.some Jvm.ClassFile.FieldType.boolean)).before a0 Z = true := V.1 _ (List.mem_of_getElem? (i := 59) rfl)
theorem wd60 (V : Env1 Z a0 n0 uu0 uu1) : (Jvm.Cond.methodLink "com/example/schema_to_form/schematoform/record/ValuePathEqualsPinLaw" (37 : Nat) ({ cls := "com/example/schema_to_form/schematoform/record/ValuePath", name := "equals", desc := "(Ljava/lang/Object;)Z" } : Jvm.MethodName)).before a0 Z = true := V.1 _ (List.mem_of_getElem? (i := 60) rfl)
theorem wd61 (V : Env1 Z a0 n0 uu0 uu1) : (Jvm.Cond.declares ({ cls := "com/example/schema_to_form/schematoform/record/ValuePath", name := "equals", desc := "(Ljava/lang/Object;)Z" } : Jvm.MethodName)).before a0 Z = true := V.1 _ (List.mem_of_getElem? (i := 61) rfl)
theorem wd62 (V : Env1 Z a0 n0 uu0 uu1) : (Jvm.Cond.instanceMethod ({ cls := "com/example/schema_to_form/schematoform/record/ValuePath", name := "equals", desc := "(Ljava/lang/Object;)Z" } : Jvm.MethodName)).before a0 Z = true := V.1 _ (List.mem_of_getElem? (i := 62) rfl)
theorem wd63 (V : Env1 Z a0 n0 uu0 uu1) : (Jvm.Cond.selects "com/example/schema_to_form/schematoform/record/ValuePath" ({ cls := "com/example/schema_to_form/schematoform/record/ValuePath", name := "equals", desc := "(Ljava/lang/Object;)Z" } : Jvm.MethodName) ({ cls := "com/example/schema_to_form/schematoform/record/ValuePath", name := "equals", desc := "(Ljava/lang/Object;)Z" } : Jvm.MethodName)).before a0 Z = true := V.1 _ (List.mem_of_getElem? (i := 63) rfl)
theorem wd64 (V : Env1 Z a0 n0 uu0 uu1) : (Jvm.Cond.code ({ cls := "com/example/schema_to_form/schematoform/record/ValuePath", name := "equals", desc := "(Ljava/lang/Object;)Z" } : Jvm.MethodName) prog_7_method_4_code (2 : Nat) (Option.some Jvm.ClassFile.FieldType.boolean)).before a0 Z = true := V.1 _ (List.mem_of_getElem? (i := 64) rfl)
theorem wd65 (V : Env1 Z a0 n0 uu0 uu1) : (Jvm.Cond.classLink "com/example/schema_to_form/schematoform/record/ValuePath" (8 : Nat) "com/example/schema_to_form/schematoform/record/ValuePath").before a0 Z = true := V.1 _ (List.mem_of_getElem? (i := 65) rfl)
theorem wd67 (V : Env1 Z a0 n0 uu0 uu1) : (Jvm.Cond.methodLink "com/example/schema_to_form/schematoform/record/ValuePath" (16 : Nat) ({ cls := "java/util/Objects", name := "equals", desc := "(Ljava/lang/Object;Ljava/lang/Object;)Z" } : Jvm.MethodName)).before a0 Z = true := V.1 _ (List.mem_of_getElem? (i := 67) rfl)
theorem wd68 (V : Env1 Z a0 n0 uu0 uu1) : (Jvm.Cond.static ({ cls := "java/util/Objects", name := "equals", desc := "(Ljava/lang/Object;Ljava/lang/Object;)Z" } : Jvm.MethodName)).before a0 Z = true := V.1 _ (List.mem_of_getElem? (i := 68) rfl)
theorem wd69 (V : Env1 Z a0 n0 uu0 uu1) : (Jvm.Cond.initialized "java/util/Objects").before a0 Z = true := V.1 _ (List.mem_of_getElem? (i := 69) rfl)
theorem wd70 (V : Env1 Z a0 n0 uu0 uu1) : (Jvm.Cond.code ({ cls := "java/util/Objects", name := "equals", desc := "(Ljava/lang/Object;Ljava/lang/Object;)Z" } : Jvm.MethodName) jdk_31_method_2_code (2 : Nat) (Option.some Jvm.ClassFile.FieldType.boolean)).before a0 Z = true := V.1 _ (List.mem_of_getElem? (i := 70) rfl)
theorem wd71 (V : Env1 Z a0 n0 uu0 uu1) : (Jvm.Cond.methodLink "java/util/Objects" (14 : Nat) ({ cls := "java/lang/Object", name := "equals", desc := "(Ljava/lang/Object;)Z" } : Jvm.MethodName)).before a0 Z = true := V.1 _ (List.mem_of_getElem? (i := 71) rfl)
theorem wd72 (V : Env1 Z a0 n0 uu0 uu1) : (Jvm.Cond.declares ({ cls := "java/lang/Object", name := "equals", desc := "(Ljava/lang/Object;)Z" } : Jvm.MethodName)).before a0 Z = true := V.1 _ (List.mem_of_getElem? (i := 72) rfl)
theorem wd74 (V : Env1 Z a0 n0 uu0 uu1) : (Jvm.Cond.selects "java/lang/String" ({ cls := "java/lang/Object", name := "equals", desc := "(Ljava/lang/Object;)Z" } : Jvm.MethodName) ({ cls := "java/lang/String", name := "equals", desc := "(Ljava/lang/Object;)Z" } : Jvm.MethodName)).before a0 Z = true := V.1 _ (List.mem_of_getElem? (i := 74) rfl)
theorem wd75 (V : Env1 Z a0 n0 uu0 uu1) : (Jvm.Cond.instanceMethod ({ cls := "java/lang/String", name := "equals", desc := "(Ljava/lang/Object;)Z" } : Jvm.MethodName)).before a0 Z = true := V.1 _ (List.mem_of_getElem? (i := 75) rfl)
theorem wd76 (V : Env1 Z a0 n0 uu0 uu1) : (Jvm.Cond.code ({ cls := "java/lang/String", name := "equals", desc := "(Ljava/lang/Object;)Z" } : Jvm.MethodName) jdk_42_method_66_code (3 : Nat) (Option.some Jvm.ClassFile.FieldType.boolean)).before a0 Z = true := V.1 _ (List.mem_of_getElem? (i := 76) rfl)
theorem wd82 (V : Env1 Z a0 n0 uu0 uu1) : (Jvm.Cond.methodLink "com/example/schema_to_form/schematoform/record/ValuePath" (22 : Nat) ({ cls := "java/lang/String", name := "equals", desc := "(Ljava/lang/Object;)Z" } : Jvm.MethodName)).before a0 Z = true := V.1 _ (List.mem_of_getElem? (i := 82) rfl)
theorem wd83 (V : Env1 Z a0 n0 uu0 uu1) : (Jvm.Cond.declares ({ cls := "java/lang/String", name := "equals", desc := "(Ljava/lang/Object;)Z" } : Jvm.MethodName)).before a0 Z = true := V.1 _ (List.mem_of_getElem? (i := 83) rfl)
theorem wd84 (V : Env1 Z a0 n0 uu0 uu1) : (Jvm.Cond.selects "java/lang/String" ({ cls := "java/lang/String", name := "equals", desc := "(Ljava/lang/Object;)Z" } : Jvm.MethodName) ({ cls := "java/lang/String", name := "equals", desc := "(Ljava/lang/Object;)Z" } : Jvm.MethodName)).before a0 Z = true := V.1 _ (List.mem_of_getElem? (i := 84) rfl)
theorem wd85 (V : Env1 Z a0 n0 uu0 uu1) : (Jvm.Cond.superclass "java/lang/String" "java/lang/Object").before a0 Z = true := V.1 _ (List.mem_of_getElem? (i := 85) rfl)
theorem wd86 (V : Env1 Z a0 n0 uu0 uu1) : (Jvm.Cond.noSuperclass "java/lang/Object").before a0 Z = true := V.1 _ (List.mem_of_getElem? (i := 86) rfl)
set_option maxRecDepth 65536 in
theorem wS (V : Env1 Z a0 n0 uu0 uu1) : ∀ a ∈ Bundle.stringAtoms, a.before a0 Z = true := fun d hd => V.1 d ((by decide +kernel : ∀ d ∈ Bundle.stringAtoms, d ∈ tables_1) d hd)
theorem pd_0 : parseMethodDescriptor "(I)Z" = some ⟨[.int], (some .boolean)⟩ := by decide +kernel
theorem pd_1 : parseMethodDescriptor "([CIILjava/lang/Void;)V" = some ⟨[(.array .char), .int, .int, (.object "java/lang/Void")], none⟩ := by decide +kernel
theorem pd_2 : parseMethodDescriptor "([C)V" = some ⟨[(.array .char)], none⟩ := by decide +kernel
theorem pd_3 : parseMethodDescriptor "(I)Ljava/lang/String;" = some ⟨[.int], (some (.object "java/lang/String"))⟩ := by decide +kernel
theorem pd_4 : parseMethodDescriptor "(Ljava/lang/String;Ljava/lang/String;)V" = some ⟨[(.object "java/lang/String"), (.object "java/lang/String")], none⟩ := by decide +kernel
theorem pd_5 : parseMethodDescriptor "(Ljava/lang/Object;)Z" = some ⟨[(.object "java/lang/Object")], (some .boolean)⟩ := by decide +kernel
theorem pd_6 : parseMethodDescriptor "(Ljava/lang/Object;Ljava/lang/Object;)Z" = some ⟨[(.object "java/lang/Object"), (.object "java/lang/Object")], (some .boolean)⟩ := by decide +kernel
theorem pd_7 : parseMethodDescriptor "(II)Z" = some ⟨[.int, .int], (some .boolean)⟩ := by decide +kernel
set_option maxRecDepth 65536 in
theorem strw (V : Env1 Z a0 n0 uu0 uu1) : ∀ d ∈ StrChars.Road.words, d.before a0 Z = true := fun d hd => V.1 d ((by decide +kernel : ∀ d ∈ StrChars.Road.words, d ∈ tables_1) d hd)
set_option maxRecDepth 65536 in
theorem strwEq (V : Env1 Z a0 n0 uu0 uu1) : ∀ d ∈ StrChars.Road.wordsEq, d.before a0 Z = true := fun d hd => V.1 d ((by decide +kernel : ∀ d ∈ StrChars.Road.wordsEq, d ∈ tables_1) d hd)
theorem D6_0 : decode method_4_code 0 = .ok (.iload_n 0, 1) := by decide +kernel
theorem D6_1 : decode method_4_code 1 = .ok (.invokestatic 12, 3) := by decide +kernel
theorem D5_0 : decode method_3_code 0 = .ok (.iload_n 0, 1) := by decide +kernel
theorem D5_1 : decode method_3_code 1 = .ok (.bipush 26, 2) := by decide +kernel
theorem D5_3 : decode method_3_code 3 = .ok (.iushr, 1) := by decide +kernel
theorem D5_4 : decode method_3_code 4 = .ok (.iconst 1, 1) := by decide +kernel
theorem D5_5 : decode method_3_code 5 = .ok (.iand, 1) := by decide +kernel
theorem D5_6 : decode method_3_code 6 = .ok (.ifCond .eq 7, 3) := by decide +kernel
theorem D5_13 : decode method_3_code 13 = .ok (.iconst 0, 1) := by decide +kernel
theorem D5_14 : decode method_3_code 14 = .ok (.ireturn, 1) := by decide +kernel
theorem D5_9 : decode method_3_code 9 = .ok (.iconst 1, 1) := by decide +kernel
theorem D5_10 : decode method_3_code 10 = .ok (.goto 4, 3) := by decide +kernel
theorem D6_4 : decode method_4_code 4 = .ok (.ifCond .eq 5, 3) := by decide +kernel
theorem D6_9 : decode method_4_code 9 = .ok (.iload_n 0, 1) := by decide +kernel
theorem D6_10 : decode method_4_code 10 = .ok (.invokestatic 18, 3) := by decide +kernel
theorem D4_0 : decode method_2_code 0 = .ok (.iload_n 0, 1) := by decide +kernel
theorem D4_1 : decode method_2_code 1 = .ok (.iconst 3, 1) := by decide +kernel
theorem D4_2 : decode method_2_code 2 = .ok (.iand, 1) := by decide +kernel
theorem D4_3 : decode method_2_code 3 = .ok (.istore_n 1, 1) := by decide +kernel
theorem D4_4 : decode method_2_code 4 = .ok (.iload_n 0, 1) := by decide +kernel
theorem D4_5 : decode method_2_code 5 = .ok (.iconst 2, 1) := by decide +kernel
theorem D4_6 : decode method_2_code 6 = .ok (.iushr, 1) := by decide +kernel
theorem D4_7 : decode method_2_code 7 = .ok (.sipush 255, 3) := by decide +kernel
theorem D4_10 : decode method_2_code 10 = .ok (.iand, 1) := by decide +kernel
theorem D4_11 : decode method_2_code 11 = .ok (.i2c, 1) := by decide +kernel
theorem D4_12 : decode method_2_code 12 = .ok (.istore_n 2, 1) := by decide +kernel
theorem D4_13 : decode method_2_code 13 = .ok (.iload_n 0, 1) := by decide +kernel
theorem D4_14 : decode method_2_code 14 = .ok (.bipush 10, 2) := by decide +kernel
theorem D4_16 : decode method_2_code 16 = .ok (.iushr, 1) := by decide +kernel
theorem D4_17 : decode method_2_code 17 = .ok (.sipush 255, 3) := by decide +kernel
theorem D4_20 : decode method_2_code 20 = .ok (.iand, 1) := by decide +kernel
theorem D4_21 : decode method_2_code 21 = .ok (.i2c, 1) := by decide +kernel
theorem D4_22 : decode method_2_code 22 = .ok (.istore_n 3, 1) := by decide +kernel
theorem D4_23 : decode method_2_code 23 = .ok (.iload_n 0, 1) := by decide +kernel
theorem D4_24 : decode method_2_code 24 = .ok (.bipush 18, 2) := by decide +kernel
theorem D4_26 : decode method_2_code 26 = .ok (.iushr, 1) := by decide +kernel
theorem D4_27 : decode method_2_code 27 = .ok (.sipush 255, 3) := by decide +kernel
theorem D4_30 : decode method_2_code 30 = .ok (.iand, 1) := by decide +kernel
theorem D4_31 : decode method_2_code 31 = .ok (.i2c, 1) := by decide +kernel
theorem D4_32 : decode method_2_code 32 = .ok (.istore 4, 2) := by decide +kernel
theorem D4_34 : decode method_2_code 34 = .ok (.iload_n 1, 1) := by decide +kernel
theorem D4_35 : decode method_2_code 35 = .ok (.ifCond .ne 14, 3) := by decide +kernel
theorem D4_38 : decode method_2_code 38 = .ok (.new 7, 3) := by decide +kernel
theorem D4_41 : decode method_2_code 41 = .ok (.dup, 1) := by decide +kernel
theorem D4_42 : decode method_2_code 42 = .ok (.iconst 0, 1) := by decide +kernel
theorem D4_43 : decode method_2_code 43 = .ok (.newarray .char, 2) := by decide +kernel
theorem D4_45 : decode method_2_code 45 = .ok (.invokespecial 9, 3) := by decide +kernel
theorem D2_0 : decode jdk_42_method_3_code 0 = .ok (.aload_n 0, 1) := by decide +kernel
theorem D2_1 : decode jdk_42_method_3_code 1 = .ok (.aload_n 1, 1) := by decide +kernel
theorem D2_2 : decode jdk_42_method_3_code 2 = .ok (.iconst 0, 1) := by decide +kernel
theorem D2_3 : decode jdk_42_method_3_code 3 = .ok (.aload_n 1, 1) := by decide +kernel
theorem D2_4 : decode jdk_42_method_3_code 4 = .ok (.arraylength, 1) := by decide +kernel
theorem D2_5 : decode jdk_42_method_3_code 5 = .ok (.aconst_null, 1) := by decide +kernel
theorem D2_6 : decode jdk_42_method_3_code 6 = .ok (.invokespecial 27, 3) := by decide +kernel
theorem D1_0 : decode jdk_42_method_149_code 0 = .ok (.aload_n 0, 1) := by decide +kernel
theorem D1_1 : decode jdk_42_method_149_code 1 = .ok (.invokespecial 1, 3) := by decide +kernel
theorem D1_4 : decode jdk_42_method_149_code 4 = .ok (.iload_n 3, 1) := by decide +kernel
theorem D1_5 : decode jdk_42_method_149_code 5 = .ok (.ifCond .ne 22, 3) := by decide +kernel
theorem D1_8 : decode jdk_42_method_149_code 8 = .ok (.aload_n 0, 1) := by decide +kernel
theorem D1_9 : decode jdk_42_method_149_code 9 = .ok (.ldc 7, 2) := by decide +kernel
theorem D1_11 : decode jdk_42_method_149_code 11 = .ok (.getfield 9, 3) := by decide +kernel
theorem D1_14 : decode jdk_42_method_149_code 14 = .ok (.putfield 9, 3) := by decide +kernel
theorem D1_17 : decode jdk_42_method_149_code 17 = .ok (.aload_n 0, 1) := by decide +kernel
theorem D1_18 : decode jdk_42_method_149_code 18 = .ok (.ldc 7, 2) := by decide +kernel
theorem D1_20 : decode jdk_42_method_149_code 20 = .ok (.getfield 15, 3) := by decide +kernel
theorem D1_23 : decode jdk_42_method_149_code 23 = .ok (.putfield 15, 3) := by decide +kernel
theorem D1_26 : decode jdk_42_method_149_code 26 = .ok (.return_, 1) := by decide +kernel
theorem D2_9 : decode jdk_42_method_3_code 9 = .ok (.return_, 1) := by decide +kernel
theorem D4_48 : decode method_2_code 48 = .ok (.areturn, 1) := by decide +kernel
theorem D4_49 : decode method_2_code 49 = .ok (.iload_n 1, 1) := by decide +kernel
theorem D4_50 : decode method_2_code 50 = .ok (.iconst 1, 1) := by decide +kernel
theorem D4_51 : decode method_2_code 51 = .ok (.if_icmp .ne 18, 3) := by decide +kernel
theorem D4_54 : decode method_2_code 54 = .ok (.new 7, 3) := by decide +kernel
theorem D4_57 : decode method_2_code 57 = .ok (.dup, 1) := by decide +kernel
theorem D4_58 : decode method_2_code 58 = .ok (.iconst 1, 1) := by decide +kernel
theorem D4_59 : decode method_2_code 59 = .ok (.newarray .char, 2) := by decide +kernel
theorem D4_61 : decode method_2_code 61 = .ok (.dup, 1) := by decide +kernel
theorem D4_62 : decode method_2_code 62 = .ok (.iconst 0, 1) := by decide +kernel
theorem D4_63 : decode method_2_code 63 = .ok (.iload_n 2, 1) := by decide +kernel
theorem D4_64 : decode method_2_code 64 = .ok (.castore, 1) := by decide +kernel
theorem D4_65 : decode method_2_code 65 = .ok (.invokespecial 9, 3) := by decide +kernel
theorem D4_68 : decode method_2_code 68 = .ok (.areturn, 1) := by decide +kernel
theorem D4_69 : decode method_2_code 69 = .ok (.iload_n 1, 1) := by decide +kernel
theorem D4_70 : decode method_2_code 70 = .ok (.iconst 2, 1) := by decide +kernel
theorem D4_71 : decode method_2_code 71 = .ok (.if_icmp .ne 22, 3) := by decide +kernel
theorem D4_74 : decode method_2_code 74 = .ok (.new 7, 3) := by decide +kernel
theorem D4_77 : decode method_2_code 77 = .ok (.dup, 1) := by decide +kernel
theorem D4_78 : decode method_2_code 78 = .ok (.iconst 2, 1) := by decide +kernel
theorem D4_79 : decode method_2_code 79 = .ok (.newarray .char, 2) := by decide +kernel
theorem D4_81 : decode method_2_code 81 = .ok (.dup, 1) := by decide +kernel
theorem D4_82 : decode method_2_code 82 = .ok (.iconst 0, 1) := by decide +kernel
theorem D4_83 : decode method_2_code 83 = .ok (.iload_n 2, 1) := by decide +kernel
theorem D4_84 : decode method_2_code 84 = .ok (.castore, 1) := by decide +kernel
theorem D4_85 : decode method_2_code 85 = .ok (.dup, 1) := by decide +kernel
theorem D4_86 : decode method_2_code 86 = .ok (.iconst 1, 1) := by decide +kernel
theorem D4_87 : decode method_2_code 87 = .ok (.iload_n 3, 1) := by decide +kernel
theorem D4_88 : decode method_2_code 88 = .ok (.castore, 1) := by decide +kernel
theorem D4_89 : decode method_2_code 89 = .ok (.invokespecial 9, 3) := by decide +kernel
theorem D4_92 : decode method_2_code 92 = .ok (.areturn, 1) := by decide +kernel
theorem D4_93 : decode method_2_code 93 = .ok (.new 7, 3) := by decide +kernel
theorem D4_96 : decode method_2_code 96 = .ok (.dup, 1) := by decide +kernel
theorem D4_97 : decode method_2_code 97 = .ok (.iconst 3, 1) := by decide +kernel
theorem D4_98 : decode method_2_code 98 = .ok (.newarray .char, 2) := by decide +kernel
theorem D4_100 : decode method_2_code 100 = .ok (.dup, 1) := by decide +kernel
theorem D4_101 : decode method_2_code 101 = .ok (.iconst 0, 1) := by decide +kernel
theorem D4_102 : decode method_2_code 102 = .ok (.iload_n 2, 1) := by decide +kernel
theorem D4_103 : decode method_2_code 103 = .ok (.castore, 1) := by decide +kernel
theorem D4_104 : decode method_2_code 104 = .ok (.dup, 1) := by decide +kernel
theorem D4_105 : decode method_2_code 105 = .ok (.iconst 1, 1) := by decide +kernel
theorem D4_106 : decode method_2_code 106 = .ok (.iload_n 3, 1) := by decide +kernel
theorem D4_107 : decode method_2_code 107 = .ok (.castore, 1) := by decide +kernel
theorem D4_108 : decode method_2_code 108 = .ok (.dup, 1) := by decide +kernel
theorem D4_109 : decode method_2_code 109 = .ok (.iconst 2, 1) := by decide +kernel
theorem D4_110 : decode method_2_code 110 = .ok (.iload 4, 2) := by decide +kernel
theorem D4_112 : decode method_2_code 112 = .ok (.castore, 1) := by decide +kernel
theorem D4_113 : decode method_2_code 113 = .ok (.invokespecial 9, 3) := by decide +kernel
theorem D4_116 : decode method_2_code 116 = .ok (.areturn, 1) := by decide +kernel
theorem D6_13 : decode method_4_code 13 = .ok (.areturn, 1) := by decide +kernel
theorem D6_7 : decode method_4_code 7 = .ok (.aconst_null, 1) := by decide +kernel
theorem D6_8 : decode method_4_code 8 = .ok (.areturn, 1) := by decide +kernel
theorem D9_0 : decode prog_7_method_1_code 0 = .ok (.aload_n 0, 1) := by decide +kernel
theorem D9_1 : decode prog_7_method_1_code 1 = .ok (.invokespecial 1, 3) := by decide +kernel
theorem D9_4 : decode prog_7_method_1_code 4 = .ok (.aload_n 0, 1) := by decide +kernel
theorem D9_5 : decode prog_7_method_1_code 5 = .ok (.aload_n 1, 1) := by decide +kernel
theorem D9_6 : decode prog_7_method_1_code 6 = .ok (.putfield 7, 3) := by decide +kernel
theorem D9_9 : decode prog_7_method_1_code 9 = .ok (.aload_n 0, 1) := by decide +kernel
theorem D9_10 : decode prog_7_method_1_code 10 = .ok (.aload_n 2, 1) := by decide +kernel
theorem D9_11 : decode prog_7_method_1_code 11 = .ok (.putfield 13, 3) := by decide +kernel
theorem D9_14 : decode prog_7_method_1_code 14 = .ok (.return_, 1) := by decide +kernel
theorem D10_0 : decode prog_7_method_4_code 0 = .ok (.aload_n 1, 1) := by decide +kernel
theorem D10_1 : decode prog_7_method_4_code 1 = .ok (.instanceof 8, 3) := by decide +kernel
theorem D10_4 : decode prog_7_method_4_code 4 = .ok (.ifCond .eq 41, 3) := by decide +kernel
theorem D10_45 : decode prog_7_method_4_code 45 = .ok (.iconst 0, 1) := by decide +kernel
theorem D10_46 : decode prog_7_method_4_code 46 = .ok (.ireturn, 1) := by decide +kernel
theorem D10_7 : decode prog_7_method_4_code 7 = .ok (.aload_n 0, 1) := by decide +kernel
theorem D10_8 : decode prog_7_method_4_code 8 = .ok (.getfield 7, 3) := by decide +kernel
theorem D10_11 : decode prog_7_method_4_code 11 = .ok (.aload_n 1, 1) := by decide +kernel
theorem D10_12 : decode prog_7_method_4_code 12 = .ok (.checkcast 8, 3) := by decide +kernel
theorem D10_15 : decode prog_7_method_4_code 15 = .ok (.getfield 7, 3) := by decide +kernel
theorem D10_18 : decode prog_7_method_4_code 18 = .ok (.invokestatic 16, 3) := by decide +kernel
theorem D0_0 : decode jdk_31_method_2_code 0 = .ok (.aload_n 0, 1) := by decide +kernel
theorem D0_1 : decode jdk_31_method_2_code 1 = .ok (.aload_n 1, 1) := by decide +kernel
theorem D0_2 : decode jdk_31_method_2_code 2 = .ok (.if_acmp .eq 15, 3) := by decide +kernel
theorem D0_17 : decode jdk_31_method_2_code 17 = .ok (.iconst 1, 1) := by decide +kernel
theorem D0_18 : decode jdk_31_method_2_code 18 = .ok (.goto 4, 3) := by decide +kernel
theorem D0_22 : decode jdk_31_method_2_code 22 = .ok (.ireturn, 1) := by decide +kernel
theorem D10_21 : decode prog_7_method_4_code 21 = .ok (.ifCond .eq 24, 3) := by decide +kernel
theorem D10_24 : decode prog_7_method_4_code 24 = .ok (.aload_n 0, 1) := by decide +kernel
theorem D10_25 : decode prog_7_method_4_code 25 = .ok (.getfield 13, 3) := by decide +kernel
theorem D10_28 : decode prog_7_method_4_code 28 = .ok (.aload_n 1, 1) := by decide +kernel
theorem D10_29 : decode prog_7_method_4_code 29 = .ok (.checkcast 8, 3) := by decide +kernel
theorem D10_32 : decode prog_7_method_4_code 32 = .ok (.getfield 13, 3) := by decide +kernel
theorem D10_35 : decode prog_7_method_4_code 35 = .ok (.invokevirtual 22, 3) := by decide +kernel
theorem D3_0 : decode jdk_42_method_66_code 0 = .ok (.aload_n 0, 1) := by decide +kernel
theorem D3_1 : decode jdk_42_method_66_code 1 = .ok (.aload_n 1, 1) := by decide +kernel
theorem D3_2 : decode jdk_42_method_66_code 2 = .ok (.if_acmp .ne 5, 3) := by decide +kernel
theorem D3_5 : decode jdk_42_method_66_code 5 = .ok (.iconst 1, 1) := by decide +kernel
theorem D3_6 : decode jdk_42_method_66_code 6 = .ok (.ireturn, 1) := by decide +kernel
theorem D10_38 : decode prog_7_method_4_code 38 = .ok (.ifCond .eq 7, 3) := by decide +kernel
theorem D10_41 : decode prog_7_method_4_code 41 = .ok (.iconst 1, 1) := by decide +kernel
theorem D10_42 : decode prog_7_method_4_code 42 = .ok (.goto 4, 3) := by decide +kernel
theorem D8_0 : decode method_6_code 0 = .ok (.iload_n 0, 1) := by decide +kernel
theorem D8_1 : decode method_6_code 1 = .ok (.invokestatic 12, 3) := by decide +kernel
theorem D8_4 : decode method_6_code 4 = .ok (.istore_n 2, 1) := by decide +kernel
theorem D8_5 : decode method_6_code 5 = .ok (.iload_n 1, 1) := by decide +kernel
theorem D8_6 : decode method_6_code 6 = .ok (.invokestatic 12, 3) := by decide +kernel
theorem D8_9 : decode method_6_code 9 = .ok (.istore_n 3, 1) := by decide +kernel
theorem D8_10 : decode method_6_code 10 = .ok (.iload_n 2, 1) := by decide +kernel
theorem D8_11 : decode method_6_code 11 = .ok (.ifCond .ne 7, 3) := by decide +kernel
theorem D8_14 : decode method_6_code 14 = .ok (.iload_n 3, 1) := by decide +kernel
theorem D8_15 : decode method_6_code 15 = .ok (.ifCond .eq 17, 3) := by decide +kernel
theorem D8_32 : decode method_6_code 32 = .ok (.iload_n 0, 1) := by decide +kernel
theorem D8_33 : decode method_6_code 33 = .ok (.iload_n 1, 1) := by decide +kernel
theorem D8_34 : decode method_6_code 34 = .ok (.invokestatic 22, 3) := by decide +kernel
theorem D7_0 : decode method_5_code 0 = .ok (.iload_n 0, 1) := by decide +kernel
theorem D7_1 : decode method_5_code 1 = .ok (.iconst 3, 1) := by decide +kernel
theorem D7_2 : decode method_5_code 2 = .ok (.iand, 1) := by decide +kernel
theorem D7_3 : decode method_5_code 3 = .ok (.istore_n 2, 1) := by decide +kernel
theorem D7_4 : decode method_5_code 4 = .ok (.iload_n 1, 1) := by decide +kernel
theorem D7_5 : decode method_5_code 5 = .ok (.iconst 3, 1) := by decide +kernel
theorem D7_6 : decode method_5_code 6 = .ok (.iand, 1) := by decide +kernel
theorem D7_7 : decode method_5_code 7 = .ok (.istore_n 3, 1) := by decide +kernel
theorem D7_8 : decode method_5_code 8 = .ok (.iload_n 2, 1) := by decide +kernel
theorem D7_9 : decode method_5_code 9 = .ok (.iload_n 3, 1) := by decide +kernel
theorem D7_10 : decode method_5_code 10 = .ok (.if_icmp .eq 5, 3) := by decide +kernel
theorem D7_15 : decode method_5_code 15 = .ok (.iload_n 0, 1) := by decide +kernel
theorem D7_16 : decode method_5_code 16 = .ok (.iconst 2, 1) := by decide +kernel
theorem D7_17 : decode method_5_code 17 = .ok (.iushr, 1) := by decide +kernel
theorem D7_18 : decode method_5_code 18 = .ok (.sipush 255, 3) := by decide +kernel
theorem D7_21 : decode method_5_code 21 = .ok (.iand, 1) := by decide +kernel
theorem D7_22 : decode method_5_code 22 = .ok (.iload_n 1, 1) := by decide +kernel
theorem D7_23 : decode method_5_code 23 = .ok (.iconst 2, 1) := by decide +kernel
theorem D7_24 : decode method_5_code 24 = .ok (.iushr, 1) := by decide +kernel
theorem D7_25 : decode method_5_code 25 = .ok (.sipush 255, 3) := by decide +kernel
theorem D7_28 : decode method_5_code 28 = .ok (.iand, 1) := by decide +kernel
theorem D7_29 : decode method_5_code 29 = .ok (.if_icmp .ne 7, 3) := by decide +kernel
theorem D7_32 : decode method_5_code 32 = .ok (.iconst 1, 1) := by decide +kernel
theorem D7_33 : decode method_5_code 33 = .ok (.goto 4, 3) := by decide +kernel
theorem D7_37 : decode method_5_code 37 = .ok (.istore 4, 2) := by decide +kernel
theorem D7_39 : decode method_5_code 39 = .ok (.iload_n 0, 1) := by decide +kernel
theorem D7_40 : decode method_5_code 40 = .ok (.bipush 10, 2) := by decide +kernel
theorem D7_42 : decode method_5_code 42 = .ok (.iushr, 1) := by decide +kernel
theorem D7_43 : decode method_5_code 43 = .ok (.sipush 255, 3) := by decide +kernel
theorem D7_46 : decode method_5_code 46 = .ok (.iand, 1) := by decide +kernel
theorem D7_47 : decode method_5_code 47 = .ok (.iload_n 1, 1) := by decide +kernel
theorem D7_48 : decode method_5_code 48 = .ok (.bipush 10, 2) := by decide +kernel
theorem D7_50 : decode method_5_code 50 = .ok (.iushr, 1) := by decide +kernel
theorem D7_51 : decode method_5_code 51 = .ok (.sipush 255, 3) := by decide +kernel
theorem D7_54 : decode method_5_code 54 = .ok (.iand, 1) := by decide +kernel
theorem D7_55 : decode method_5_code 55 = .ok (.if_icmp .ne 7, 3) := by decide +kernel
theorem D7_58 : decode method_5_code 58 = .ok (.iconst 1, 1) := by decide +kernel
theorem D7_59 : decode method_5_code 59 = .ok (.goto 4, 3) := by decide +kernel
theorem D7_63 : decode method_5_code 63 = .ok (.istore 5, 2) := by decide +kernel
theorem D7_65 : decode method_5_code 65 = .ok (.iload_n 0, 1) := by decide +kernel
theorem D7_66 : decode method_5_code 66 = .ok (.bipush 18, 2) := by decide +kernel
theorem D7_68 : decode method_5_code 68 = .ok (.iushr, 1) := by decide +kernel
theorem D7_69 : decode method_5_code 69 = .ok (.sipush 255, 3) := by decide +kernel
theorem D7_72 : decode method_5_code 72 = .ok (.iand, 1) := by decide +kernel
theorem D7_73 : decode method_5_code 73 = .ok (.iload_n 1, 1) := by decide +kernel
theorem D7_74 : decode method_5_code 74 = .ok (.bipush 18, 2) := by decide +kernel
theorem D7_76 : decode method_5_code 76 = .ok (.iushr, 1) := by decide +kernel
theorem D7_77 : decode method_5_code 77 = .ok (.sipush 255, 3) := by decide +kernel
theorem D7_80 : decode method_5_code 80 = .ok (.iand, 1) := by decide +kernel
theorem D7_81 : decode method_5_code 81 = .ok (.if_icmp .ne 7, 3) := by decide +kernel
theorem D7_84 : decode method_5_code 84 = .ok (.iconst 1, 1) := by decide +kernel
theorem D7_85 : decode method_5_code 85 = .ok (.goto 4, 3) := by decide +kernel
theorem D7_89 : decode method_5_code 89 = .ok (.istore 6, 2) := by decide +kernel
theorem D7_91 : decode method_5_code 91 = .ok (.iload_n 2, 1) := by decide +kernel
theorem D7_92 : decode method_5_code 92 = .ok (.iconst 1, 1) := by decide +kernel
theorem D7_93 : decode method_5_code 93 = .ok (.if_icmp .lt 8, 3) := by decide +kernel
theorem D7_101 : decode method_5_code 101 = .ok (.iload_n 2, 1) := by decide +kernel
theorem D7_102 : decode method_5_code 102 = .ok (.iconst 2, 1) := by decide +kernel
theorem D7_103 : decode method_5_code 103 = .ok (.if_icmp .lt 8, 3) := by decide +kernel
theorem D7_111 : decode method_5_code 111 = .ok (.iload_n 2, 1) := by decide +kernel
theorem D7_112 : decode method_5_code 112 = .ok (.iconst 3, 1) := by decide +kernel
theorem D7_113 : decode method_5_code 113 = .ok (.if_icmp .lt 8, 3) := by decide +kernel
theorem D7_121 : decode method_5_code 121 = .ok (.iconst 1, 1) := by decide +kernel
theorem D7_122 : decode method_5_code 122 = .ok (.goto 4, 3) := by decide +kernel
theorem D7_126 : decode method_5_code 126 = .ok (.ireturn, 1) := by decide +kernel
theorem D7_116 : decode method_5_code 116 = .ok (.iload 6, 2) := by decide +kernel
theorem D7_118 : decode method_5_code 118 = .ok (.ifCond .eq 7, 3) := by decide +kernel
theorem D7_106 : decode method_5_code 106 = .ok (.iload 5, 2) := by decide +kernel
theorem D7_108 : decode method_5_code 108 = .ok (.ifCond .eq 17, 3) := by decide +kernel
theorem D7_96 : decode method_5_code 96 = .ok (.iload 4, 2) := by decide +kernel
theorem D7_98 : decode method_5_code 98 = .ok (.ifCond .eq 27, 3) := by decide +kernel
theorem D7_88 : decode method_5_code 88 = .ok (.iconst 0, 1) := by decide +kernel
theorem D7_125 : decode method_5_code 125 = .ok (.iconst 0, 1) := by decide +kernel
theorem D7_62 : decode method_5_code 62 = .ok (.iconst 0, 1) := by decide +kernel
theorem D7_36 : decode method_5_code 36 = .ok (.iconst 0, 1) := by decide +kernel
theorem D7_13 : decode method_5_code 13 = .ok (.iconst 0, 1) := by decide +kernel
theorem D7_14 : decode method_5_code 14 = .ok (.ireturn, 1) := by decide +kernel
theorem D8_37 : decode method_6_code 37 = .ok (.ireturn, 1) := by decide +kernel
theorem D0_5 : decode jdk_31_method_2_code 5 = .ok (.aload_n 0, 1) := by decide +kernel
theorem D0_6 : decode jdk_31_method_2_code 6 = .ok (.ifnull 15, 3) := by decide +kernel
theorem D0_9 : decode jdk_31_method_2_code 9 = .ok (.aload_n 0, 1) := by decide +kernel
theorem D0_10 : decode jdk_31_method_2_code 10 = .ok (.aload_n 1, 1) := by decide +kernel
theorem D0_11 : decode jdk_31_method_2_code 11 = .ok (.invokevirtual 14, 3) := by decide +kernel
theorem D0_14 : decode jdk_31_method_2_code 14 = .ok (.ifCond .eq 7, 3) := by decide +kernel
theorem D0_21 : decode jdk_31_method_2_code 21 = .ok (.iconst 0, 1) := by decide +kernel
theorem D8_18 : decode method_6_code 18 = .ok (.iload_n 2, 1) := by decide +kernel
theorem D8_19 : decode method_6_code 19 = .ok (.ifCond .eq 11, 3) := by decide +kernel
theorem D8_30 : decode method_6_code 30 = .ok (.iconst 0, 1) := by decide +kernel
theorem D8_31 : decode method_6_code 31 = .ok (.ireturn, 1) := by decide +kernel
theorem D3_7 : decode jdk_42_method_66_code 7 = .ok (.aload_n 1, 1) := by decide +kernel
theorem D3_8 : decode jdk_42_method_66_code 8 = .ok (.instanceof 10, 3) := by decide +kernel
theorem D3_11 : decode jdk_42_method_66_code 11 = .ok (.ifCond .eq 43, 3) := by decide +kernel
theorem D3_54 : decode jdk_42_method_66_code 54 = .ok (.iconst 0, 1) := by decide +kernel
theorem D3_55 : decode jdk_42_method_66_code 55 = .ok (.ireturn, 1) := by decide +kernel
theorem D8_22 : decode method_6_code 22 = .ok (.iload_n 3, 1) := by decide +kernel
theorem D8_23 : decode method_6_code 23 = .ok (.ifCond .eq 7, 3) := by decide +kernel
theorem D8_26 : decode method_6_code 26 = .ok (.iconst 1, 1) := by decide +kernel
theorem D8_27 : decode method_6_code 27 = .ok (.goto 4, 3) := by decide +kernel
def strOf (x : Int32) : List Int32 := if (x &&& 3) = 0 then [] else if (x &&& 3) = 1 then [((XT.ushr x 2) &&& 255)] else if (x &&& 3) = 2 then [((XT.ushr x 2) &&& 255), ((XT.ushr x 10) &&& 255)] else [((XT.ushr x 2) &&& 255), ((XT.ushr x 10) &&& 255), ((XT.ushr x 18) &&& 255)]
theorem own_strc {Z : State} {h : Heap} {a t : Addr} {kb : ClassId} {x : Int32} {cs : List Int32} (q : strOf x = cs) (S : Str Z h a t kb cs) : Str Z h a t kb (strOf x) := by rw [q]; exact S
theorem own_s0 {x : Int32} (h : (x &&& 3) = 0) : strOf x = [] := if_pos h
theorem own_s1 {x : Int32} (h : ¬ (x &&& 3) = 0) (h1 : (x &&& 3) = 1) : strOf x = [((XT.ushr x 2) &&& 255)] := (if_neg h).trans (if_pos h1)
theorem own_s2 {x : Int32} (h : ¬ (x &&& 3) = 0) (h1 : ¬ (x &&& 3) = 1) (h2 : (x &&& 3) = 2) : strOf x = [((XT.ushr x 2) &&& 255), ((XT.ushr x 10) &&& 255)] := (if_neg h).trans ((if_neg h1).trans (if_pos h2))
theorem own_s3 {x : Int32} (h : ¬ (x &&& 3) = 0) (h1 : ¬ (x &&& 3) = 1) (h2 : ¬ (x &&& 3) = 2) : strOf x = [((XT.ushr x 2) &&& 255), ((XT.ushr x 10) &&& 255), ((XT.ushr x 18) &&& 255)] := (if_neg h).trans ((if_neg h1).trans (if_neg h2))
theorem own_ltw12 {x : Int32} (h : x < 1) : x < 2 := by rw [Int32.lt_iff_toInt_lt] at *; have e1 : (1 : Int32).toInt = 1 := rfl; have e2 : (2 : Int32).toInt = 2 := rfl; omega
theorem own_ltw13 {x : Int32} (h : x < 1) : x < 3 := by rw [Int32.lt_iff_toInt_lt] at *; have e1 : (1 : Int32).toInt = 1 := rfl; have e2 : (3 : Int32).toInt = 3 := rfl; omega
theorem own_ltw23 {x : Int32} (h : x < 2) : x < 3 := by rw [Int32.lt_iff_toInt_lt] at *; have e1 : (2 : Int32).toInt = 2 := rfl; have e2 : (3 : Int32).toInt = 3 := rfl; omega
theorem own_same (x y : Int32) : strOf x = strOf y ↔ (x &&& 3 = y &&& 3) ∧ ((x &&& 3) < 1 ∨ ((XT.ushr x 2) &&& 255) = ((XT.ushr y 2) &&& 255)) ∧ ((x &&& 3) < 2 ∨ ((XT.ushr x 10) &&& 255) = ((XT.ushr y 10) &&& 255)) ∧ ((x &&& 3) < 3 ∨ ((XT.ushr x 18) &&& 255) = ((XT.ushr y 18) &&& 255)) := by
  have d01 : ¬ (1 : Int32) = 0 := by decide
  have d02 : ¬ (2 : Int32) = 0 := by decide
  have d03 : ¬ (3 : Int32) = 0 := by decide
  have d12 : ¬ (2 : Int32) = 1 := by decide
  have d13 : ¬ (3 : Int32) = 1 := by decide
  have d23 : ¬ (3 : Int32) = 2 := by decide
  unfold strOf
  generalize (XT.ushr x 2) &&& 255 = a0; generalize (XT.ushr x 10) &&& 255 = a1; generalize (XT.ushr x 18) &&& 255 = a2
  generalize (XT.ushr y 2) &&& 255 = b0; generalize (XT.ushr y 10) &&& 255 = b1; generalize (XT.ushr y 18) &&& 255 = b2
  rcases own_and3 x with h | h | h | h <;> rcases own_and3 y with k | k | k | k <;> rw [h, k] <;> simp +decide [d01, d02, d03, d12, d13, d23]
set_option maxRecDepth 65536 in
set_option maxHeartbeats 40000000 in
theorem m1_isNullSlot (V : Env1 Z a0 n0 uu0 uu1) (x0 : Int32) (h0 : Heap) (hO : Old Z n0 h0)  :
    Met Z a0 ELs True n0 l (⟨"com/example/schema_to_form/schematoform/record/ValuePathEqualsPinLaw", "isNullSlot", "(I)Z"⟩ : MethodName) method_3_code 1 (Option.some FieldType.boolean) ({ frames := 0, cells := 0, slots := 0, locals := 0 } : Room) #[(.int x0)] h0 [] (fun v h so => (((XT.ushr x0 26) &&& 1) = 0 ∧ v = some (.int 0) ∧ so = [] ∧ h0 = h) ∨ (¬ ((XT.ushr x0 26) &&& 1) = 0 ∧ v = some (.int 1) ∧ so = [] ∧ h0 = h)) := by
  refine Met.of (EWl V) (by first | decide +kernel | rfl) hO (L0 := #[.val (.int x0)]) rfl ?_
  intro p e s m below meth c T H
  show Go p e below _ (T.setTop (mkF m 0 #[.val (.int x0)] []))
  refine G.iloadN H D5_0 (pc' := 1) rfl rfl ?_
  refine G.bipush H D5_1 (pc' := 3) rfl (v := 26) rfl ?_
  refine G.iushr H D5_3 (pc' := 4) rfl ?_
  refine G.iconst H D5_4 (pc' := 5) rfl (v := 1) rfl ?_
  refine G.iand H D5_5 (pc' := 6) rfl ?_
  by_cases c1 : ((XT.ushr x0 26) &&& 1) = 0
  ·
    refine G.ifYes H D5_6 (XT.i0_eq_t c1) (by decide) (pc' := 13) rfl ?_
    refine G.iconst H D5_13 (pc' := 14) rfl (v := 0) rfl ?_
    exact G.retN H (t := .boolean) rfl (by decide) D5_14 (so := []) all0 (by decide) (by decide) (Or.inl ⟨c1, rfl, rfl, rfl⟩)
  ·
    refine G.ifNo H D5_6 (pc' := 9) rfl (XT.i0_eq_f c1) ?_
    refine G.iconst H D5_9 (pc' := 10) rfl (v := 1) rfl ?_
    refine G.goto H D5_10 (by decide) (pc' := 14) rfl ?_
    exact G.retN H (t := .boolean) rfl (by decide) D5_14 (so := []) all0 (by decide) (by decide) (Or.inr ⟨c1, rfl, rfl, rfl⟩)
set_option maxRecDepth 65536 in
set_option maxHeartbeats 40000000 in
theorem m2_init (V : Env1 Z a0 n0 uu0 uu1) (p0 : Addr) (p1 : Addr) (h0 : Heap) (hO : Old Z n0 h0) (f0 : Exa Z h0 p0 "java/lang/String") (f1 : Fld Z h0 p0 "java/lang/String" "value" "[B" .null) (g2 : n0 ≤ p0) (f3 : Fld Z h0 p0 "java/lang/String" "coder" "B" (.int 0)) :
    Met Z a0 ELs True n0 l (⟨"java/lang/String", "<init>", "([CIILjava/lang/Void;)V"⟩ : MethodName) jdk_42_method_149_code 6 (Option.none : Option FieldType) ({ frames := 1, cells := 4, slots := 8, locals := 12 } : Room) #[(.ref p0), (.ref p1), (.int 0), (.int 0), .null] h0 [p0] (fun v h so => (∃ b6 : Addr, ∃ k7 : ClassId, v = none ∧ so = [] ∧ Keep h0 h [p0] ∧ (∀ (O n d : String) (w : Value), Fld Z h0 p0 O n d w → RoadKit.slotOf Z O n d ≠ RoadKit.slotOf Z "java/lang/String" "value" "[B" → RoadKit.slotOf Z O n d ≠ RoadKit.slotOf Z "java/lang/String" "coder" "B" → Fld Z h p0 O n d w) ∧ Exa Z h p0 "java/lang/String" ∧ Fld Z h p0 "java/lang/String" "value" "[B" (.ref b6) ∧ Fld Z h p0 "java/lang/String" "coder" "B" (.int 0) ∧ Arv Z h b6 k7 .byte 0 [] (.int 0))) := by
  refine Met.of (EWl V) (by first | decide +kernel | rfl) hO (L0 := #[.val (.ref p0), .val (.ref p1), .val (.int 0), .val (.int 0), .val .null, .unset]) rfl ?_
  intro p e s m below meth c T H
  show Go p e below _ (T.setTop (mkF m 0 #[.val (.ref p0), .val (.ref p1), .val (.int 0), .val (.int 0), .val .null, .unset] []))
  refine G.aloadN H D1_0 (pc' := 1) rfl rfl rfl ?_
  refine G.initO H (wd24 V) (wd25 V) (wd26 V) rfl D1_1 (pc' := 4) rfl (by decide) (W := 0) rfl (by decide) ?_
  intro T1 H2
  refine G.iloadN H2 D1_4 (pc' := 5) rfl rfl ?_
  refine G.ifNo H2 D1_5 (pc' := 8) rfl (by decide) ?_
  refine G.aloadN H2 D1_8 (pc' := 9) rfl rfl rfl ?_
  refine G.ldcS H2 trivial (wS V) (wd27 V) (by decide) (vs := []) (z := 0) (by decide) (by decide) rfl (n := 0) (by decide) (by decide) (by decide) (by decide) D1_9 (pc' := 11) rfl ?_
  intro T3 h3_ a4 b6 k7 H3 E5 X8 F9 F10 A11 Q12
  have S13 : Str Z h3_ a4 b6 k7 [] := ⟨X8, F9, F10, A11, by decide, by decide⟩
  refine G.getF H3 (wd33 V) Via.refl F10 D1_11 (pc' := 14) rfl ?_
  intro T14 H15
  have F16 := (Exa.ext E5 f0)
  have F17 := (Fld.ext E5 f1)
  refine G.putF H15 (wd33 V) Via.refl F17 F16 (Or.inr ⟨(wd29 V), rfl, rfl⟩) (wd14 V) (ty := (.array .byte)) (by decide) rfl rfl g2 (Sf.mem (mG (i := 0) rfl)) D1_14 (pc' := 17) rfl ?_
  intro T18 h18_ H18 W19
  have F20 : Fld Z h18_ p0 "java/lang/String" "value" "[B" (.ref b6) := Fld.same W19 F17
  refine G.aloadN H18 D1_17 (pc' := 18) rfl rfl rfl ?_
  refine G.ldcS H18 trivial (wS V) (wd27 V) (by decide) (vs := []) (z := 0) (by decide) (by decide) rfl (n := 0) (by decide) (by decide) (by decide) (by decide) D1_18 (pc' := 20) rfl ?_
  intro T21 h21_ a22 b24 k25 H21 E23 X26 F27 F28 A29 Q30
  have S31 : Str Z h21_ a22 b24 k25 [] := ⟨X26, F27, F28, A29, by decide, by decide⟩
  refine G.getF H21 (wd34 V) Via.refl F27 D1_20 (pc' := 23) rfl ?_
  intro T32 H33
  have K34 : Keep h3_ h21_ [p0] := (Keep.ext (Keep.wr (Keep.refl h3_ [p0]) W19 (Or.inl (mG (i := 0) rfl))) E23)
  have F35 := (Exa.keep F16 K34)
  have F36 := (Fld.ext E23 (Fld.other W19 (Fld.ext E5 f3) (Or.inr (slot_ne (Or.inr (wd30 V)) (Or.inr (wd29 V)) (by decide) (t := .byte) (t' := (.array .byte)) (by decide) (by decide)))))
  refine G.putF H33 (wd34 V) Via.refl F36 F35 (Or.inr ⟨(wd30 V), rfl, rfl⟩) (wd14 V) (ty := .byte) (by decide) rfl rfl g2 (Sf.mem (mG (i := 0) rfl)) D1_23 (pc' := 26) rfl ?_
  intro T37 h37_ H37 W38
  have F39 : Fld Z h37_ p0 "java/lang/String" "coder" "B" (.int 0) := Fld.same W38 F36
  have F40 := (Exa.wr W38 F35)
  have F41 := (Fld.other W38 (Fld.ext E23 F20) (Or.inr (slot_ne (Or.inr (wd29 V)) (Or.inr (wd30 V)) (by decide) (t := (.array .byte)) (t' := .byte) (by decide) (by decide))))
  have K42 : Keep h3_ h37_ [p0] := (Keep.wr (Keep.ext (Keep.wr (Keep.refl h3_ [p0]) W19 (Or.inl (mG (i := 0) rfl))) E23) W38 (Or.inl (mG (i := 0) rfl)))
  have F43 := (Arv.keep A11 K42 (ninS (Ne.symm (Q12 _ (mG (i := 0) rfl)).2) nin0))
  have K44 : Keep h0 h37_ [p0] := (Keep.wr (Keep.ext (Keep.wr (Keep.ext (Keep.refl h0 [p0]) E5) W19 (Or.inl (mG (i := 0) rfl))) E23) W38 (Or.inl (mG (i := 0) rfl)))
  exact G.retV H37 rfl D1_26 (so := []) all0 (by decide) (by decide) ⟨b6, k7, rfl, rfl, K44, (fun O n d w F hn0 hn1 => (Fld.other W38 (Fld.ext E23 (Fld.other W19 (Fld.ext E5 F) (Or.inr hn0))) (Or.inr hn1))), F40, F41, F39, F43⟩
set_option maxRecDepth 65536 in
set_option maxHeartbeats 40000000 in
theorem m3_init (V : Env1 Z a0 n0 uu0 uu1) (p0 : Addr) (p1 : Addr) (c0 : ClassId) (h0 : Heap) (hO : Old Z n0 h0) (f0 : Arv Z h0 p1 c0 .char 0 [] (.int 0)) (f1 : Exa Z h0 p0 "java/lang/String") (f2 : Fld Z h0 p0 "java/lang/String" "value" "[B" .null) (g3 : n0 ≤ p0) (f4 : Fld Z h0 p0 "java/lang/String" "coder" "B" (.int 0)) :
    Met Z a0 ELs True n0 l (⟨"java/lang/String", "<init>", "([C)V"⟩ : MethodName) jdk_42_method_3_code 2 (Option.none : Option FieldType) ({ frames := 2, cells := 4, slots := 8, locals := 29 } : Room) #[(.ref p0), (.ref p1)] h0 [p0] (fun v h so => (∃ a5 : Addr, ∃ k6 : ClassId, v = none ∧ so = [] ∧ Keep h0 h [p0] ∧ (∀ (O n d : String) (w : Value), Fld Z h0 p0 O n d w → RoadKit.slotOf Z O n d ≠ RoadKit.slotOf Z "java/lang/String" "value" "[B" → RoadKit.slotOf Z O n d ≠ RoadKit.slotOf Z "java/lang/String" "coder" "B" → Fld Z h p0 O n d w) ∧ Exa Z h p0 "java/lang/String" ∧ Fld Z h p0 "java/lang/String" "value" "[B" (.ref a5) ∧ Fld Z h p0 "java/lang/String" "coder" "B" (.int 0) ∧ Arv Z h a5 k6 .byte 0 [] (.int 0))) := by
  refine Met.of (EWl V) (by first | decide +kernel | rfl) hO (L0 := #[.val (.ref p0), .val (.ref p1)]) rfl ?_
  intro p e s m below meth c T H
  show Go p e below _ (T.setTop (mkF m 0 #[.val (.ref p0), .val (.ref p1)] []))
  refine G.aloadN H D2_0 (pc' := 1) rfl rfl rfl ?_
  refine G.aloadN H D2_1 (pc' := 2) rfl rfl rfl ?_
  refine G.iconst H D2_2 (pc' := 3) rfl (v := 0) rfl ?_
  refine G.aloadN H D2_3 (pc' := 4) rfl rfl rfl ?_
  refine G.arrlen H f0 D2_4 (pc' := 5) rfl ?_
  refine G.aconstNull H D2_5 (pc' := 6) rfl ?_
  refine G.callI H (m2_init V p0 p1 h0 H.old f1 f2 g3 f4) rfl (wd20 V) (wd21 V) (wd15 V) (wd23 V) (by decide) (a := p0) (argsL := [(.ref p1), (.int 0), (.int 0), .null]) (rest := []) (W := 0) rfl rfl (lenOf (pd_1) rfl) rfl rfl D2_6 (pc' := 9) rfl (by decide) (by decide) (by decide) (by decide) (allS (mG (i := 0) rfl) all0) ?_
  intro T1 h1_ v2 s3 H1 Q4
  obtain ⟨a5, k6, rfl, rfl, K7, U8, F9, F10, F11, F12⟩ := Q4
  show Go p e below _ (T1.setTop (mkF m 9 #[.val (.ref p0), .val (.ref p1)] []))
  have K13 : Keep h0 h1_ [p0] := (Keep.trans (Keep.refl h0 [p0]) K7 (allS (Or.inl (mG (i := 0) rfl)) all0))
  exact G.retV H1 rfl D2_9 (so := []) all0 (by decide) (by decide) ⟨a5, k6, rfl, rfl, K13, (fun O n d w F hn0 hn1 => (U8 O n d w F hn0 hn1)), F9, F10, F11, F12⟩
set_option maxRecDepth 65536 in
set_option maxHeartbeats 40000000 in
theorem m4_str (V : Env1 Z a0 n0 uu0 uu1) (x0 : Int32) (h0 : Heap) (hO : Old Z n0 h0)  :
    Met Z a0 ELs True n0 l (⟨"com/example/schema_to_form/schematoform/record/ValuePathEqualsPinLaw", "str", "(I)Ljava/lang/String;"⟩ : MethodName) method_2_code 5 (Option.some (FieldType.object "java/lang/String")) ({ frames := 4, cells := 6, slots := 12, locals := 66 } : Room) #[(.int x0)] h0 [] (fun v h so => (∃ a t : Addr, ∃ kb : ClassId, v = some (.ref a) ∧ so = [] ∧ Keep h0 h [] ∧ h0.size ≤ a ∧ Str Z h a t kb (strOf x0))) := by
  refine Met.of (EWl V) (by first | decide +kernel | rfl) hO (L0 := #[.val (.int x0), .unset, .unset, .unset, .unset]) rfl ?_
  intro p e s m below meth c T H
  show Go p e below _ (T.setTop (mkF m 0 #[.val (.int x0), .unset, .unset, .unset, .unset] []))
  refine G.iloadN H D4_0 (pc' := 1) rfl rfl ?_
  refine G.iconst H D4_1 (pc' := 2) rfl (v := 3) rfl ?_
  refine G.iand H D4_2 (pc' := 3) rfl ?_
  refine G.istoreN H (L' := #[.val (.int x0), .val (.int (x0 &&& 3)), .unset, .unset, .unset]) D4_3 (pc' := 4) rfl rfl ?_
  refine G.iloadN H D4_4 (pc' := 5) rfl rfl ?_
  refine G.iconst H D4_5 (pc' := 6) rfl (v := 2) rfl ?_
  refine G.iushr H D4_6 (pc' := 7) rfl ?_
  refine G.sipush H D4_7 (pc' := 10) rfl (v := 255) rfl ?_
  refine G.iand H D4_10 (pc' := 11) rfl ?_
  refine G.i2c H (y := ((XT.ushr x0 2) &&& 255)) D4_11 (pc' := 12) rfl (own_c16 (own_u16 (own_and255 _))) ?_
  refine G.istoreN H (L' := #[.val (.int x0), .val (.int (x0 &&& 3)), .val (.int ((XT.ushr x0 2) &&& 255)), .unset, .unset]) D4_12 (pc' := 13) rfl rfl ?_
  refine G.iloadN H D4_13 (pc' := 14) rfl rfl ?_
  refine G.bipush H D4_14 (pc' := 16) rfl (v := 10) rfl ?_
  refine G.iushr H D4_16 (pc' := 17) rfl ?_
  refine G.sipush H D4_17 (pc' := 20) rfl (v := 255) rfl ?_
  refine G.iand H D4_20 (pc' := 21) rfl ?_
  refine G.i2c H (y := ((XT.ushr x0 10) &&& 255)) D4_21 (pc' := 22) rfl (own_c16 (own_u16 (own_and255 _))) ?_
  refine G.istoreN H (L' := #[.val (.int x0), .val (.int (x0 &&& 3)), .val (.int ((XT.ushr x0 2) &&& 255)), .val (.int ((XT.ushr x0 10) &&& 255)), .unset]) D4_22 (pc' := 23) rfl rfl ?_
  refine G.iloadN H D4_23 (pc' := 24) rfl rfl ?_
  refine G.bipush H D4_24 (pc' := 26) rfl (v := 18) rfl ?_
  refine G.iushr H D4_26 (pc' := 27) rfl ?_
  refine G.sipush H D4_27 (pc' := 30) rfl (v := 255) rfl ?_
  refine G.iand H D4_30 (pc' := 31) rfl ?_
  refine G.i2c H (y := ((XT.ushr x0 18) &&& 255)) D4_31 (pc' := 32) rfl (own_c16 (own_u16 (own_and255 _))) ?_
  refine G.istore H (L' := #[.val (.int x0), .val (.int (x0 &&& 3)), .val (.int ((XT.ushr x0 2) &&& 255)), .val (.int ((XT.ushr x0 10) &&& 255)), .val (.int ((XT.ushr x0 18) &&& 255))]) D4_32 (pc' := 34) rfl rfl ?_
  refine G.iloadN H D4_34 (pc' := 35) rfl rfl ?_
  by_cases c1 : (x0 &&& 3) = 0
  ·
    refine G.ifNo H D4_35 (pc' := 38) rfl (XT.i0_ne_f c1) ?_
    refine G.new H (wd13 V) (wd14 V) (wd15 V) D4_38 (pc' := 41) rfl (by decide) (by decide) ?_
    intro T2 h2_ a3 ga3 H2 E4 A5 D6
    have na3 := H.nle ga3
    refine G.dup H2 D4_41 (pc' := 42) rfl rfl ?_
    refine G.iconst H2 D4_42 (pc' := 43) rfl (v := 0) rfl ?_
    refine G.newP H2 (aty := .char) (wd16 V) D4_43 (pc' := 45) rfl (by decide) (cap := 0) (by decide) (by decide) (by decide) (by decide) (vs := []) rfl (ad := "[C") rfl ?_
    intro T7 h7_ a8 k11 ga8 H7 E9 A10 X12
    have na8 := H2.nle ga8
    replace A10 : Arv Z h7_ a8 k11 .char 0 [] (.int 0) := A10
    have F13 := (Exa.ext E9 A5)
    have F14 : Fld Z h2_ a3 "java/lang/String" "value" "[B" .null := D6 (Or.inr (wd29 V)) (ty := (.array .byte)) (by decide)
    have F15 := (Fld.ext E9 F14)
    have F16 : Fld Z h2_ a3 "java/lang/String" "coder" "B" (.int 0) := D6 (Or.inr (wd30 V)) (ty := .byte) (by decide)
    have F17 := (Fld.ext E9 F16)
    refine G.callI H7 (m3_init V a3 a8 k11 h7_ H7.old A10 F13 F15 na3 F17) rfl (wd17 V) (wd18 V) (wd15 V) (wd19 V) (by decide) (a := a3) (argsL := [(.ref a8)]) (rest := [(.ref a3)]) (W := 1) rfl rfl (lenOf (pd_2) rfl) rfl rfl D4_45 (pc' := 48) rfl (by decide) (by decide) (by decide) (by decide) (allS (mG (i := 1) rfl) all0) ?_
    intro T18 h18_ v19 s20 H18 Q21
    obtain ⟨a22, k23, rfl, rfl, K24, U25, F26, F27, F28, F29⟩ := Q21
    show Go p e below _ (T18.setTop (mkF m 48 #[.val (.int x0), .val (.int (x0 &&& 3)), .val (.int ((XT.ushr x0 2) &&& 255)), .val (.int ((XT.ushr x0 10) &&& 255)), .val (.int ((XT.ushr x0 18) &&& 255))] [(.ref a3)]))
    have S30 : Str Z h18_ a3 a22 k23 [] := ⟨F26, F28, F27, F29, cb0, Nat.le_of_ble_eq_true rfl⟩
    have K31 : Keep h0 h18_ [] := (Keep.trans (Keep.ext (Keep.ext (Keep.refl h0 []) E4) E9) K24 (allS (Or.inr (Nat.le_of_eq ga3.symm)) all0))
    exact G.retA H18 (t := (.object "java/lang/String")) rfl rfl rfl D4_48 (so := []) all0 (by decide) (by decide) ⟨a3, a22, k23, rfl, rfl, K31, (Nat.le_of_eq ga3.symm), own_strc (own_s0 c1) S30⟩
  ·
    refine G.ifYes H D4_35 (XT.i0_ne_t c1) (by decide) (pc' := 49) rfl ?_
    refine G.iloadN H D4_49 (pc' := 50) rfl rfl ?_
    refine G.iconst H D4_50 (pc' := 51) rfl (v := 1) rfl ?_
    by_cases c32 : (x0 &&& 3) = 1
    ·
      refine G.icmpNo H D4_51 (pc' := 54) rfl (XT.ii_ne_f c32) ?_
      refine G.new H (wd13 V) (wd14 V) (wd15 V) D4_54 (pc' := 57) rfl (by decide) (by decide) ?_
      intro T33 h33_ a34 ga34 H33 E35 A36 D37
      have na34 := H.nle ga34
      refine G.dup H33 D4_57 (pc' := 58) rfl rfl ?_
      refine G.iconst H33 D4_58 (pc' := 59) rfl (v := 1) rfl ?_
      refine G.newP H33 (aty := .char) (wd16 V) D4_59 (pc' := 61) rfl (by decide) (cap := 1) (by decide) (by decide) (by decide) (by decide) (vs := [(.int 0)]) rfl (ad := "[C") rfl ?_
      intro T38 h38_ a39 k42 ga39 H38 E40 A41 X43
      have na39 := H33.nle ga39
      replace A41 : Arv Z h38_ a39 k42 .char 1 [(.int 0)] (.int 0) := A41
      refine G.dup H38 D4_61 (pc' := 62) rfl rfl ?_
      refine G.iconst H38 D4_62 (pc' := 63) rfl (v := 0) rfl ?_
      refine G.iloadN H38 D4_63 (pc' := 64) rfl rfl ?_
      refine G.stC H38 A41 (by decide) (i := 0) rfl lB na39 (y := ((XT.ushr x0 2) &&& 255)) (own_narC (own_u16 (own_and255 _))) D4_64 (pc' := 65) rfl ?_
      intro T44 h44_ H44 W45 A46
      replace A46 : Arv Z h44_ a39 k42 .char 1 [(.int ((XT.ushr x0 2) &&& 255))] (.int 0) := A46
      have K47 : Keep h33_ h44_ [] := (Keep.wr (Keep.ext (Keep.refl h33_ []) E40) W45 (Or.inr (Nat.le_of_eq ga39.symm)))
      have F48 := (Exa.keep A36 K47)
      have F49 : Fld Z h33_ a34 "java/lang/String" "value" "[B" .null := D37 (Or.inr (wd29 V)) (ty := (.array .byte)) (by decide)
      have F50 := (Fld.keep F49 K47 nin0)
      have F51 : Fld Z h33_ a34 "java/lang/String" "coder" "B" (.int 0) := D37 (Or.inr (wd30 V)) (ty := .byte) (by decide)
      have F52 := (Fld.keep F51 K47 nin0)
      refine G.newStr H44 (strw V) (wd14 V) (wd17 V) (wd18 V) (cs := [((XT.ushr x0 2) &&& 255)]) (n := 1) na34 F48 F50 F52 A46 (hv0 V) (hv1 V) rfl rfl (by decide) (by decide) (cbS (own_and255 _) cb0) (Sf.mem (mG (i := 1) rfl)) (rest := [(.ref a34)]) (W := 1) rfl rfl D4_65 (pc' := 68) rfl (by decide) (by decide) (by decide) (by decide) ?_
      intro T53 h53_ t54 k55 g58 H53 K56 S57
      have nt54 : n0 ≤ t54 := Nat.le_trans H44.le g58
      have K59 : Keep h0 h33_ [] := (Keep.ext (Keep.refl h0 []) E35)
      have K60 : Keep h0 h53_ [] := (Keep.trans (Keep.wr (Keep.ext (Keep.ext (Keep.refl h0 []) E35) E40) W45 (Or.inr (Nat.le_trans K59.1 (Nat.le_of_eq ga39.symm)))) K56 (allS (Or.inr (Nat.le_of_eq ga34.symm)) all0))
      exact G.retA H53 (t := (.object "java/lang/String")) rfl rfl rfl D4_68 (so := []) all0 (by decide) (by decide) ⟨a34, t54, k55, rfl, rfl, K60, (Nat.le_of_eq ga34.symm), own_strc (own_s1 c1 c32) S57⟩
    ·
      refine G.icmpYes H D4_51 (XT.ii_ne_t c32) (by decide) (pc' := 69) rfl ?_
      refine G.iloadN H D4_69 (pc' := 70) rfl rfl ?_
      refine G.iconst H D4_70 (pc' := 71) rfl (v := 2) rfl ?_
      by_cases c61 : (x0 &&& 3) = 2
      ·
        refine G.icmpNo H D4_71 (pc' := 74) rfl (XT.ii_ne_f c61) ?_
        refine G.new H (wd13 V) (wd14 V) (wd15 V) D4_74 (pc' := 77) rfl (by decide) (by decide) ?_
        intro T62 h62_ a63 ga63 H62 E64 A65 D66
        have na63 := H.nle ga63
        refine G.dup H62 D4_77 (pc' := 78) rfl rfl ?_
        refine G.iconst H62 D4_78 (pc' := 79) rfl (v := 2) rfl ?_
        refine G.newP H62 (aty := .char) (wd16 V) D4_79 (pc' := 81) rfl (by decide) (cap := 2) (by decide) (by decide) (by decide) (by decide) (vs := [(.int 0), (.int 0)]) rfl (ad := "[C") rfl ?_
        intro T67 h67_ a68 k71 ga68 H67 E69 A70 X72
        have na68 := H62.nle ga68
        replace A70 : Arv Z h67_ a68 k71 .char 2 [(.int 0), (.int 0)] (.int 0) := A70
        refine G.dup H67 D4_81 (pc' := 82) rfl rfl ?_
        refine G.iconst H67 D4_82 (pc' := 83) rfl (v := 0) rfl ?_
        refine G.iloadN H67 D4_83 (pc' := 84) rfl rfl ?_
        refine G.stC H67 A70 (by decide) (i := 0) rfl lB na68 (y := ((XT.ushr x0 2) &&& 255)) (own_narC (own_u16 (own_and255 _))) D4_84 (pc' := 85) rfl ?_
        intro T73 h73_ H73 W74 A75
        replace A75 : Arv Z h73_ a68 k71 .char 2 [(.int ((XT.ushr x0 2) &&& 255)), (.int 0)] (.int 0) := A75
        refine G.dup H73 D4_85 (pc' := 86) rfl rfl ?_
        refine G.iconst H73 D4_86 (pc' := 87) rfl (v := 1) rfl ?_
        refine G.iloadN H73 D4_87 (pc' := 88) rfl rfl ?_
        refine G.stC H73 A75 (by decide) (i := 1) rfl lB na68 (y := ((XT.ushr x0 10) &&& 255)) (own_narC (own_u16 (own_and255 _))) D4_88 (pc' := 89) rfl ?_
        intro T76 h76_ H76 W77 A78
        replace A78 : Arv Z h76_ a68 k71 .char 2 [(.int ((XT.ushr x0 2) &&& 255)), (.int ((XT.ushr x0 10) &&& 255))] (.int 0) := A78
        have K79 : Keep h62_ h76_ [] := (Keep.wr (Keep.wr (Keep.ext (Keep.refl h62_ []) E69) W74 (Or.inr (Nat.le_of_eq ga68.symm))) W77 (Or.inr (Nat.le_of_eq ga68.symm)))
        have F80 := (Exa.keep A65 K79)
        have F81 : Fld Z h62_ a63 "java/lang/String" "value" "[B" .null := D66 (Or.inr (wd29 V)) (ty := (.array .byte)) (by decide)
        have F82 := (Fld.keep F81 K79 nin0)
        have F83 : Fld Z h62_ a63 "java/lang/String" "coder" "B" (.int 0) := D66 (Or.inr (wd30 V)) (ty := .byte) (by decide)
        have F84 := (Fld.keep F83 K79 nin0)
        refine G.newStr H76 (strw V) (wd14 V) (wd17 V) (wd18 V) (cs := [((XT.ushr x0 2) &&& 255), ((XT.ushr x0 10) &&& 255)]) (n := 2) na63 F80 F82 F84 A78 (hv0 V) (hv1 V) rfl rfl (by decide) (by decide) (cbS (own_and255 _) (cbS (own_and255 _) cb0)) (Sf.mem (mG (i := 1) rfl)) (rest := [(.ref a63)]) (W := 1) rfl rfl D4_89 (pc' := 92) rfl (by decide) (by decide) (by decide) (by decide) ?_
        intro T85 h85_ t86 k87 g90 H85 K88 S89
        have nt86 : n0 ≤ t86 := Nat.le_trans H76.le g90
        have K91 : Keep h0 h62_ [] := (Keep.ext (Keep.refl h0 []) E64)
        have K92 : Keep h0 h85_ [] := (Keep.trans (Keep.wr (Keep.wr (Keep.ext (Keep.ext (Keep.refl h0 []) E64) E69) W74 (Or.inr (Nat.le_trans K91.1 (Nat.le_of_eq ga68.symm)))) W77 (Or.inr (Nat.le_trans K91.1 (Nat.le_of_eq ga68.symm)))) K88 (allS (Or.inr (Nat.le_of_eq ga63.symm)) all0))
        exact G.retA H85 (t := (.object "java/lang/String")) rfl rfl rfl D4_92 (so := []) all0 (by decide) (by decide) ⟨a63, t86, k87, rfl, rfl, K92, (Nat.le_of_eq ga63.symm), own_strc (own_s2 c1 c32 c61) S89⟩
      ·
        refine G.icmpYes H D4_71 (XT.ii_ne_t c61) (by decide) (pc' := 93) rfl ?_
        refine G.new H (wd13 V) (wd14 V) (wd15 V) D4_93 (pc' := 96) rfl (by decide) (by decide) ?_
        intro T93 h93_ a94 ga94 H93 E95 A96 D97
        have na94 := H.nle ga94
        refine G.dup H93 D4_96 (pc' := 97) rfl rfl ?_
        refine G.iconst H93 D4_97 (pc' := 98) rfl (v := 3) rfl ?_
        refine G.newP H93 (aty := .char) (wd16 V) D4_98 (pc' := 100) rfl (by decide) (cap := 3) (by decide) (by decide) (by decide) (by decide) (vs := [(.int 0), (.int 0), (.int 0)]) rfl (ad := "[C") rfl ?_
        intro T98 h98_ a99 k102 ga99 H98 E100 A101 X103
        have na99 := H93.nle ga99
        replace A101 : Arv Z h98_ a99 k102 .char 3 [(.int 0), (.int 0), (.int 0)] (.int 0) := A101
        refine G.dup H98 D4_100 (pc' := 101) rfl rfl ?_
        refine G.iconst H98 D4_101 (pc' := 102) rfl (v := 0) rfl ?_
        refine G.iloadN H98 D4_102 (pc' := 103) rfl rfl ?_
        refine G.stC H98 A101 (by decide) (i := 0) rfl lB na99 (y := ((XT.ushr x0 2) &&& 255)) (own_narC (own_u16 (own_and255 _))) D4_103 (pc' := 104) rfl ?_
        intro T104 h104_ H104 W105 A106
        replace A106 : Arv Z h104_ a99 k102 .char 3 [(.int ((XT.ushr x0 2) &&& 255)), (.int 0), (.int 0)] (.int 0) := A106
        refine G.dup H104 D4_104 (pc' := 105) rfl rfl ?_
        refine G.iconst H104 D4_105 (pc' := 106) rfl (v := 1) rfl ?_
        refine G.iloadN H104 D4_106 (pc' := 107) rfl rfl ?_
        refine G.stC H104 A106 (by decide) (i := 1) rfl lB na99 (y := ((XT.ushr x0 10) &&& 255)) (own_narC (own_u16 (own_and255 _))) D4_107 (pc' := 108) rfl ?_
        intro T107 h107_ H107 W108 A109
        replace A109 : Arv Z h107_ a99 k102 .char 3 [(.int ((XT.ushr x0 2) &&& 255)), (.int ((XT.ushr x0 10) &&& 255)), (.int 0)] (.int 0) := A109
        refine G.dup H107 D4_108 (pc' := 109) rfl rfl ?_
        refine G.iconst H107 D4_109 (pc' := 110) rfl (v := 2) rfl ?_
        refine G.iload H107 D4_110 (pc' := 112) rfl rfl ?_
        refine G.stC H107 A109 (by decide) (i := 2) rfl lB na99 (y := ((XT.ushr x0 18) &&& 255)) (own_narC (own_u16 (own_and255 _))) D4_112 (pc' := 113) rfl ?_
        intro T110 h110_ H110 W111 A112
        replace A112 : Arv Z h110_ a99 k102 .char 3 [(.int ((XT.ushr x0 2) &&& 255)), (.int ((XT.ushr x0 10) &&& 255)), (.int ((XT.ushr x0 18) &&& 255))] (.int 0) := A112
        have K113 : Keep h93_ h110_ [] := (Keep.wr (Keep.wr (Keep.wr (Keep.ext (Keep.refl h93_ []) E100) W105 (Or.inr (Nat.le_of_eq ga99.symm))) W108 (Or.inr (Nat.le_of_eq ga99.symm))) W111 (Or.inr (Nat.le_of_eq ga99.symm)))
        have F114 := (Exa.keep A96 K113)
        have F115 : Fld Z h93_ a94 "java/lang/String" "value" "[B" .null := D97 (Or.inr (wd29 V)) (ty := (.array .byte)) (by decide)
        have F116 := (Fld.keep F115 K113 nin0)
        have F117 : Fld Z h93_ a94 "java/lang/String" "coder" "B" (.int 0) := D97 (Or.inr (wd30 V)) (ty := .byte) (by decide)
        have F118 := (Fld.keep F117 K113 nin0)
        refine G.newStr H110 (strw V) (wd14 V) (wd17 V) (wd18 V) (cs := [((XT.ushr x0 2) &&& 255), ((XT.ushr x0 10) &&& 255), ((XT.ushr x0 18) &&& 255)]) (n := 3) na94 F114 F116 F118 A112 (hv0 V) (hv1 V) rfl rfl (by decide) (by decide) (cbS (own_and255 _) (cbS (own_and255 _) (cbS (own_and255 _) cb0))) (Sf.mem (mG (i := 1) rfl)) (rest := [(.ref a94)]) (W := 1) rfl rfl D4_113 (pc' := 116) rfl (by decide) (by decide) (by decide) (by decide) ?_
        intro T119 h119_ t120 k121 g124 H119 K122 S123
        have nt120 : n0 ≤ t120 := Nat.le_trans H110.le g124
        have K125 : Keep h0 h93_ [] := (Keep.ext (Keep.refl h0 []) E95)
        have K126 : Keep h0 h119_ [] := (Keep.trans (Keep.wr (Keep.wr (Keep.wr (Keep.ext (Keep.ext (Keep.refl h0 []) E95) E100) W105 (Or.inr (Nat.le_trans K125.1 (Nat.le_of_eq ga99.symm)))) W108 (Or.inr (Nat.le_trans K125.1 (Nat.le_of_eq ga99.symm)))) W111 (Or.inr (Nat.le_trans K125.1 (Nat.le_of_eq ga99.symm)))) K122 (allS (Or.inr (Nat.le_of_eq ga94.symm)) all0))
        exact G.retA H119 (t := (.object "java/lang/String")) rfl rfl rfl D4_116 (so := []) all0 (by decide) (by decide) ⟨a94, t120, k121, rfl, rfl, K126, (Nat.le_of_eq ga94.symm), own_strc (own_s3 c1 c32 c61) S123⟩
set_option maxRecDepth 65536 in
set_option maxHeartbeats 40000000 in
theorem m5_slot (V : Env1 Z a0 n0 uu0 uu1) (x0 : Int32) (h0 : Heap) (hO : Old Z n0 h0)  :
    Met Z a0 ELs True n0 l (⟨"com/example/schema_to_form/schematoform/record/ValuePathEqualsPinLaw", "slot", "(I)Ljava/lang/String;"⟩ : MethodName) method_4_code 1 (Option.some (FieldType.object "java/lang/String")) ({ frames := 5, cells := 6, slots := 12, locals := 82 } : Room) #[(.int x0)] h0 [] (fun v h so => (∃ a11 a12 : Addr, ∃ k13 : ClassId, ((XT.ushr x0 26) &&& 1) = 0 ∧ v = some (.ref a11) ∧ so = [] ∧ Keep h0 h [] ∧ h0.size ≤ a11 ∧ Str Z h a11 a12 k13 (strOf x0)) ∨ (¬ ((XT.ushr x0 26) &&& 1) = 0 ∧ v = some .null ∧ so = [] ∧ h0 = h)) := by
  refine Met.of (EWl V) (by first | decide +kernel | rfl) hO (L0 := #[.val (.int x0)]) rfl ?_
  intro p e s m below meth c T H
  show Go p e below _ (T.setTop (mkF m 0 #[.val (.int x0)] []))
  refine G.iloadN H D6_0 (pc' := 1) rfl rfl ?_
  refine G.callS H (m1_isNullSlot V x0 h0 H.old) (wd7 V) (wd8 V) (wd5 V) (wd9 V) (by decide) (argsL := [(.int x0)]) (rest := []) (W := 0) rfl rfl (lenOf (pd_0) rfl) rfl rfl D6_1 (pc' := 4) rfl (by decide) (by decide) (by decide) (by decide) all0 ?_
  intro T1 h1_ v2 s3 H1 Q4
  rcases Q4 with ⟨c5, rfl, rfl, rfl⟩ | ⟨c6, rfl, rfl, rfl⟩
  ·
    show Go p e below _ (T1.setTop (mkF m 4 #[.val (.int x0)] [(.int 0)]))
    refine G.ifYes H1 D6_4 (by decide) (by decide) (pc' := 9) rfl ?_
    refine G.iloadN H1 D6_9 (pc' := 10) rfl rfl ?_
    refine G.callS H1 (m4_str V x0 h0 H1.old) (wd10 V) (wd11 V) (wd5 V) (wd12 V) (by decide) (argsL := [(.int x0)]) (rest := []) (W := 0) rfl rfl (lenOf (pd_3) rfl) rfl rfl D6_10 (pc' := 13) rfl (by decide) (by decide) (by decide) (by decide) all0 ?_
    intro T7 h7_ v8 s9 H7 Q10
    obtain ⟨a11, a12, k13, rfl, rfl, K14, g15, F16⟩ := Q10
    have na11 : n0 ≤ a11 := Nat.le_trans H1.le g15
    show Go p e below _ (T7.setTop (mkF m 13 #[.val (.int x0)] [(.ref a11)]))
    have K17 : Keep h0 h7_ [] := (Keep.trans (Keep.refl h0 []) K14 all0)
    exact G.retA H7 (t := (.object "java/lang/String")) rfl rfl rfl D6_13 (so := []) all0 (by decide) (by decide) (Or.inl ⟨a11, a12, k13, c5, rfl, rfl, K17, g15, F16⟩)
  ·
    show Go p e below _ (T1.setTop (mkF m 4 #[.val (.int x0)] [(.int 1)]))
    refine G.ifNo H1 D6_4 (pc' := 7) rfl (by decide) ?_
    refine G.aconstNull H1 D6_7 (pc' := 8) rfl ?_
    exact G.retA H1 (t := (.object "java/lang/String")) rfl rfl rfl D6_8 (so := []) all0 (by decide) (by decide) (Or.inr ⟨c6, rfl, rfl, rfl⟩)
set_option maxRecDepth 65536 in
set_option maxHeartbeats 40000000 in
theorem m6_init (V : Env1 Z a0 n0 uu0 uu1) (p0 : Addr) (p1 : Addr) (p2 : Addr) (h0 : Heap) (hO : Old Z n0 h0) (f0 : Exa Z h0 p0 "com/example/schema_to_form/schematoform/record/ValuePath") (f1 : Fld Z h0 p0 "com/example/schema_to_form/schematoform/record/ValuePath" "slot" "Ljava/lang/String;" .null) (g2 : n0 ≤ p0) (f3 : Fld Z h0 p0 "com/example/schema_to_form/schematoform/record/ValuePath" "name" "Ljava/lang/String;" .null) :
    Met Z a0 ELs True n0 l (⟨"com/example/schema_to_form/schematoform/record/ValuePath", "<init>", "(Ljava/lang/String;Ljava/lang/String;)V"⟩ : MethodName) prog_7_method_1_code 3 (Option.none : Option FieldType) ({ frames := 1, cells := 0, slots := 0, locals := 12 } : Room) #[(.ref p0), (.ref p1), (.ref p2)] h0 [] (fun v h so => (v = none ∧ so = [] ∧ Keep h0 h [p0] ∧ (∀ (O n d : String) (w : Value), Fld Z h0 p0 O n d w → RoadKit.slotOf Z O n d ≠ RoadKit.slotOf Z "com/example/schema_to_form/schematoform/record/ValuePath" "slot" "Ljava/lang/String;" → RoadKit.slotOf Z O n d ≠ RoadKit.slotOf Z "com/example/schema_to_form/schematoform/record/ValuePath" "name" "Ljava/lang/String;" → Fld Z h p0 O n d w) ∧ Exa Z h p0 "com/example/schema_to_form/schematoform/record/ValuePath" ∧ Fld Z h p0 "com/example/schema_to_form/schematoform/record/ValuePath" "slot" "Ljava/lang/String;" (.ref p1) ∧ Fld Z h p0 "com/example/schema_to_form/schematoform/record/ValuePath" "name" "Ljava/lang/String;" (.ref p2))) := by
  refine Met.of (EWl V) (by first | decide +kernel | rfl) hO (L0 := #[.val (.ref p0), .val (.ref p1), .val (.ref p2)]) rfl ?_
  intro p e s m below meth c T H
  show Go p e below _ (T.setTop (mkF m 0 #[.val (.ref p0), .val (.ref p1), .val (.ref p2)] []))
  refine G.aloadN H D9_0 (pc' := 1) rfl rfl rfl ?_
  refine G.initO H (wd49 V) (wd25 V) (wd26 V) rfl D9_1 (pc' := 4) rfl (by decide) (W := 0) rfl (by decide) ?_
  intro T1 H2
  refine G.aloadN H2 D9_4 (pc' := 5) rfl rfl rfl ?_
  refine G.aloadN H2 D9_5 (pc' := 6) rfl rfl rfl ?_
  refine G.putF H2 (wd50 V) Via.refl f1 f0 (Or.inr ⟨(wd51 V), rfl, rfl⟩) (wd1 V) (ty := (.object "java/lang/String")) (by decide) rfl rfl g2 (Sf.exa f0) D9_6 (pc' := 9) rfl ?_
  intro T3 h3_ H3 W4
  have F5 : Fld Z h3_ p0 "com/example/schema_to_form/schematoform/record/ValuePath" "slot" "Ljava/lang/String;" (.ref p1) := Fld.same W4 f1
  refine G.aloadN H3 D9_9 (pc' := 10) rfl rfl rfl ?_
  refine G.aloadN H3 D9_10 (pc' := 11) rfl rfl rfl ?_
  have F6 := (Exa.wr W4 f0)
  have F7 := (Fld.other W4 f3 (Or.inr (slot_ne (Or.inr (wd53 V)) (Or.inr (wd51 V)) (by decide) (t := (.object "java/lang/String")) (t' := (.object "java/lang/String")) (by decide) (by decide))))
  refine G.putF H3 (wd52 V) Via.refl F7 F6 (Or.inr ⟨(wd53 V), rfl, rfl⟩) (wd1 V) (ty := (.object "java/lang/String")) (by decide) rfl rfl g2 (Sf.exa F6) D9_11 (pc' := 14) rfl ?_
  intro T8 h8_ H8 W9
  have F10 : Fld Z h8_ p0 "com/example/schema_to_form/schematoform/record/ValuePath" "name" "Ljava/lang/String;" (.ref p2) := Fld.same W9 F7
  have F11 := (Exa.wr W9 F6)
  have F12 := (Fld.other W9 F5 (Or.inr (slot_ne (Or.inr (wd51 V)) (Or.inr (wd53 V)) (by decide) (t := (.object "java/lang/String")) (t' := (.object "java/lang/String")) (by decide) (by decide))))
  have K13 : Keep h0 h8_ [p0] := (Keep.wr (Keep.wr (Keep.refl h0 [p0]) W4 (Or.inl (mG (i := 0) rfl))) W9 (Or.inl (mG (i := 0) rfl)))
  exact G.retV H8 rfl D9_14 (so := []) all0 (by decide) (by decide) ⟨rfl, rfl, K13, (fun O n d w F hn0 hn1 => (Fld.other W9 (Fld.other W4 F (Or.inr hn0)) (Or.inr hn1))), F11, F12, F10⟩
set_option maxRecDepth 65536 in
set_option maxHeartbeats 40000000 in
theorem m7_equals (V : Env1 Z a0 n0 uu0 uu1) (p0 : Addr) (h0 : Heap) (hO : Old Z n0 h0)  :
    Met Z a0 ELs True n0 l (⟨"com/example/schema_to_form/schematoform/record/ValuePath", "equals", "(Ljava/lang/Object;)Z"⟩ : MethodName) prog_7_method_4_code 2 (Option.some FieldType.boolean) ({ frames := 0, cells := 0, slots := 0, locals := 0 } : Room) #[(.ref p0), .null] h0 [] (fun v h so => (v = some (.int 0) ∧ so = [] ∧ h0 = h)) := by
  refine Met.of (EWl V) (by first | decide +kernel | rfl) hO (L0 := #[.val (.ref p0), .val .null]) rfl ?_
  intro p e s m below meth c T H
  show Go p e below _ (T.setTop (mkF m 0 #[.val (.ref p0), .val .null] []))
  refine G.aloadN H D10_0 (pc' := 1) rfl rfl rfl ?_
  refine G.instN H D10_1 (pc' := 4) rfl ?_
  refine G.ifYes H D10_4 (by decide) (by decide) (pc' := 45) rfl ?_
  refine G.iconst H D10_45 (pc' := 46) rfl (v := 0) rfl ?_
  exact G.retN H (t := .boolean) rfl (by decide) D10_46 (so := []) all0 (by decide) (by decide) ⟨rfl, rfl, rfl⟩
set_option maxRecDepth 65536 in
set_option maxHeartbeats 40000000 in
theorem m8_equals (V : Env1 Z a0 n0 uu0 uu1) (p0 : Addr) (h0 : Heap) (hO : Old Z n0 h0)  :
    Met Z a0 ELs True n0 l (⟨"java/util/Objects", "equals", "(Ljava/lang/Object;Ljava/lang/Object;)Z"⟩ : MethodName) jdk_31_method_2_code 2 (Option.some FieldType.boolean) ({ frames := 0, cells := 0, slots := 0, locals := 0 } : Room) #[(.ref p0), (.ref p0)] h0 [] (fun v h so => (v = some (.int 1) ∧ so = [] ∧ h0 = h)) := by
  refine Met.of (EWl V) (by first | decide +kernel | rfl) hO (L0 := #[.val (.ref p0), .val (.ref p0)]) rfl ?_
  intro p e s m below meth c T H
  show Go p e below _ (T.setTop (mkF m 0 #[.val (.ref p0), .val (.ref p0)] []))
  refine G.aloadN H D0_0 (pc' := 1) rfl rfl rfl ?_
  refine G.aloadN H D0_1 (pc' := 2) rfl rfl rfl ?_
  refine G.acmpYes H D0_2 rfl rfl (XT.aa_eq_t rfl) (by decide) (pc' := 17) rfl ?_
  refine G.iconst H D0_17 (pc' := 18) rfl (v := 1) rfl ?_
  refine G.goto H D0_18 (by decide) (pc' := 22) rfl ?_
  exact G.retN H (t := .boolean) rfl (by decide) D0_22 (so := []) all0 (by decide) (by decide) ⟨rfl, rfl, rfl⟩
set_option maxRecDepth 65536 in
set_option maxHeartbeats 40000000 in
theorem m9_equals (V : Env1 Z a0 n0 uu0 uu1) (p0 : Addr) (h0 : Heap) (hO : Old Z n0 h0)  :
    Met Z a0 ELs True n0 l (⟨"java/lang/String", "equals", "(Ljava/lang/Object;)Z"⟩ : MethodName) jdk_42_method_66_code 3 (Option.some FieldType.boolean) ({ frames := 0, cells := 0, slots := 0, locals := 0 } : Room) #[(.ref p0), (.ref p0)] h0 [] (fun v h so => (v = some (.int 1) ∧ so = [] ∧ h0 = h)) := by
  refine Met.of (EWl V) (by first | decide +kernel | rfl) hO (L0 := #[.val (.ref p0), .val (.ref p0), .unset]) rfl ?_
  intro p e s m below meth c T H
  show Go p e below _ (T.setTop (mkF m 0 #[.val (.ref p0), .val (.ref p0), .unset] []))
  refine G.aloadN H D3_0 (pc' := 1) rfl rfl rfl ?_
  refine G.aloadN H D3_1 (pc' := 2) rfl rfl rfl ?_
  refine G.acmpNo H D3_2 (pc' := 5) rfl rfl rfl (XT.aa_ne_f rfl) ?_
  refine G.iconst H D3_5 (pc' := 6) rfl (v := 1) rfl ?_
  exact G.retN H (t := .boolean) rfl (by decide) D3_6 (so := []) all0 (by decide) (by decide) ⟨rfl, rfl, rfl⟩
set_option maxRecDepth 65536 in
set_option maxHeartbeats 40000000 in
theorem m10_equals (V : Env1 Z a0 n0 uu0 uu1) (p0 : Addr) (p1 : Addr) (p2 : Addr) (h0 : Heap) (hO : Old Z n0 h0) (f0 : Exa Z h0 p0 "com/example/schema_to_form/schematoform/record/ValuePath") (f1 : Fld Z h0 p0 "com/example/schema_to_form/schematoform/record/ValuePath" "slot" "Ljava/lang/String;" (.ref p1)) (f2 : Fld Z h0 p0 "com/example/schema_to_form/schematoform/record/ValuePath" "name" "Ljava/lang/String;" (.ref p2)) (f3 : Exa Z h0 p2 "java/lang/String") :
    Met Z a0 ELs True n0 l (⟨"com/example/schema_to_form/schematoform/record/ValuePath", "equals", "(Ljava/lang/Object;)Z"⟩ : MethodName) prog_7_method_4_code 2 (Option.some FieldType.boolean) ({ frames := 1, cells := 0, slots := 0, locals := 14 } : Room) #[(.ref p0), (.ref p0)] h0 [] (fun v h so => (v = some (.int 1) ∧ so = [] ∧ h0 = h)) := by
  refine Met.of (EWl V) (by first | decide +kernel | rfl) hO (L0 := #[.val (.ref p0), .val (.ref p0)]) rfl ?_
  intro p e s m below meth c T H
  show Go p e below _ (T.setTop (mkF m 0 #[.val (.ref p0), .val (.ref p0)] []))
  refine G.aloadN H D10_0 (pc' := 1) rfl rfl rfl ?_
  refine G.instY H (wd65 V) (Ins.self f0) D10_1 (pc' := 4) rfl ?_
  intro T1 H2
  refine G.ifNo H2 D10_4 (pc' := 7) rfl (by decide) ?_
  refine G.aloadN H2 D10_7 (pc' := 8) rfl rfl rfl ?_
  refine G.getF H2 (wd50 V) Via.refl f1 D10_8 (pc' := 11) rfl ?_
  intro T3 H4
  refine G.aloadN H4 D10_11 (pc' := 12) rfl rfl rfl ?_
  refine G.castY H4 (wd65 V) (Ins.self f0) D10_12 (pc' := 15) rfl ?_
  intro T5 H6
  refine G.getF H6 (wd50 V) Via.refl f1 D10_15 (pc' := 18) rfl ?_
  intro T7 H8
  refine G.callS H8 (m8_equals V p1 h0 H8.old) (wd67 V) (wd68 V) (wd69 V) (wd70 V) (by decide) (argsL := [(.ref p1), (.ref p1)]) (rest := []) (W := 0) rfl rfl (lenOf (pd_6) rfl) rfl rfl D10_18 (pc' := 21) rfl (by decide) (by decide) (by decide) (by decide) all0 ?_
  intro T9 h9_ v10 s11 H9 Q12
  obtain ⟨rfl, rfl, rfl⟩ := Q12
  show Go p e below _ (T9.setTop (mkF m 21 #[.val (.ref p0), .val (.ref p0)] [(.int 1)]))
  refine G.ifNo H9 D10_21 (pc' := 24) rfl (by decide) ?_
  refine G.aloadN H9 D10_24 (pc' := 25) rfl rfl rfl ?_
  refine G.getF H9 (wd52 V) Via.refl f2 D10_25 (pc' := 28) rfl ?_
  intro T13 H14
  refine G.aloadN H14 D10_28 (pc' := 29) rfl rfl rfl ?_
  refine G.castY H14 (wd65 V) (Ins.self f0) D10_29 (pc' := 32) rfl ?_
  intro T15 H16
  refine G.getF H16 (wd52 V) Via.refl f2 D10_32 (pc' := 35) rfl ?_
  intro T17 H18
  refine G.callV H18 (m9_equals V p2 h0 H18.old) (wd82 V) (wd83 V) (nf_sel (wd84 V)) (wd84 V) (wd75 V) (wd15 V) (wd76 V) (by decide) f3 (argsL := [(.ref p2)]) (rest := []) (W := 0) rfl rfl (lenOf (pd_5) rfl) rfl rfl D10_35 (pc' := 38) rfl (by decide) (by decide) (by decide) (by decide) all0 ?_
  intro T19 h19_ v20 s21 H19 Q22
  obtain ⟨rfl, rfl, rfl⟩ := Q22
  show Go p e below _ (T19.setTop (mkF m 38 #[.val (.ref p0), .val (.ref p0)] [(.int 1)]))
  refine G.ifNo H19 D10_38 (pc' := 41) rfl (by decide) ?_
  refine G.iconst H19 D10_41 (pc' := 42) rfl (v := 1) rfl ?_
  refine G.goto H19 D10_42 (by decide) (pc' := 46) rfl ?_
  exact G.retN H19 (t := .boolean) rfl (by decide) D10_46 (so := []) all0 (by decide) (by decide) ⟨rfl, rfl, rfl⟩
set_option maxRecDepth 65536 in
set_option maxHeartbeats 40000000 in
theorem m11_equals (V : Env1 Z a0 n0 uu0 uu1) (p0 : Addr) (p1 : Addr) (h0 : Heap) (hO : Old Z n0 h0) (f0 : Exa Z h0 p1 "java/lang/String") :
    Met Z a0 ELs True n0 l (⟨"com/example/schema_to_form/schematoform/record/ValuePath", "equals", "(Ljava/lang/Object;)Z"⟩ : MethodName) prog_7_method_4_code 2 (Option.some FieldType.boolean) ({ frames := 0, cells := 0, slots := 0, locals := 0 } : Room) #[(.ref p0), (.ref p1)] h0 [] (fun v h so => (v = some (.int 0) ∧ so = [] ∧ h0 = h)) := by
  refine Met.of (EWl V) (by first | decide +kernel | rfl) hO (L0 := #[.val (.ref p0), .val (.ref p1)]) rfl ?_
  intro p e s m below meth c T H
  show Go p e below _ (T.setTop (mkF m 0 #[.val (.ref p0), .val (.ref p1)] []))
  refine G.aloadN H D10_0 (pc' := 1) rfl rfl rfl ?_
  refine G.instNo H (wd65 V) f0 (nsI_no (wd85 V) (wd1 V) (NS.step (wd85 V) (nsI_root (wd86 V) (wd1 V) (by decide)) (by decide)) (by decide)) D10_1 (pc' := 4) rfl ?_
  intro T1 H2
  refine G.ifYes H2 D10_4 (by decide) (by decide) (pc' := 45) rfl ?_
  refine G.iconst H2 D10_45 (pc' := 46) rfl (v := 0) rfl ?_
  exact G.retN H2 (t := .boolean) rfl (by decide) D10_46 (so := []) all0 (by decide) (by decide) ⟨rfl, rfl, rfl⟩
set_option maxRecDepth 65536 in
set_option maxHeartbeats 40000000 in
theorem m12_isNullSlot (V : Env1 Z a0 n0 uu0 uu1) (x0 : Int32) (h0 : Heap) (hO : Old Z n0 h0) (cc0 : ((XT.ushr x0 26) &&& 1) = 0) :
    Met Z a0 ELs True n0 l (⟨"com/example/schema_to_form/schematoform/record/ValuePathEqualsPinLaw", "isNullSlot", "(I)Z"⟩ : MethodName) method_3_code 1 (Option.some FieldType.boolean) ({ frames := 0, cells := 0, slots := 0, locals := 0 } : Room) #[(.int x0)] h0 [] (fun v h so => (v = some (.int 0) ∧ so = [] ∧ h0 = h)) := by
  refine Met.of (EWl V) (by first | decide +kernel | rfl) hO (L0 := #[.val (.int x0)]) rfl ?_
  intro p e s m below meth c T H
  show Go p e below _ (T.setTop (mkF m 0 #[.val (.int x0)] []))
  refine G.iloadN H D5_0 (pc' := 1) rfl rfl ?_
  refine G.bipush H D5_1 (pc' := 3) rfl (v := 26) rfl ?_
  refine G.iushr H D5_3 (pc' := 4) rfl ?_
  refine G.iconst H D5_4 (pc' := 5) rfl (v := 1) rfl ?_
  refine G.iand H D5_5 (pc' := 6) rfl ?_
  refine G.ifYes H D5_6 (XT.i0_eq_t cc0) (by decide) (pc' := 13) rfl ?_
  refine G.iconst H D5_13 (pc' := 14) rfl (v := 0) rfl ?_
  exact G.retN H (t := .boolean) rfl (by decide) D5_14 (so := []) all0 (by decide) (by decide) ⟨rfl, rfl, rfl⟩
set_option maxRecDepth 65536 in
set_option maxHeartbeats 40000000 in
theorem m13_sameStr (V : Env1 Z a0 n0 uu0 uu1) (x0 : Int32) (x1 : Int32) (h0 : Heap) (hO : Old Z n0 h0)  :
    Met Z a0 ELs True n0 l (⟨"com/example/schema_to_form/schematoform/record/ValuePathEqualsPinLaw", "sameStr", "(II)Z"⟩ : MethodName) method_5_code 7 (Option.some FieldType.boolean) ({ frames := 0, cells := 0, slots := 0, locals := 0 } : Room) #[(.int x0), (.int x1)] h0 [] (fun v h so => ((strOf x0) = (strOf x1) ∧ v = some (.int 1) ∧ so = [] ∧ h0 = h) ∨ (¬ (strOf x0) = (strOf x1) ∧ v = some (.int 0) ∧ so = [] ∧ h0 = h)) := by
  refine Met.of (EWl V) (by first | decide +kernel | rfl) hO (L0 := #[.val (.int x0), .val (.int x1), .unset, .unset, .unset, .unset, .unset]) rfl ?_
  intro p e s m below meth c T H
  show Go p e below _ (T.setTop (mkF m 0 #[.val (.int x0), .val (.int x1), .unset, .unset, .unset, .unset, .unset] []))
  refine G.iloadN H D7_0 (pc' := 1) rfl rfl ?_
  refine G.iconst H D7_1 (pc' := 2) rfl (v := 3) rfl ?_
  refine G.iand H D7_2 (pc' := 3) rfl ?_
  refine G.istoreN H (L' := #[.val (.int x0), .val (.int x1), .val (.int (x0 &&& 3)), .unset, .unset, .unset, .unset]) D7_3 (pc' := 4) rfl rfl ?_
  refine G.iloadN H D7_4 (pc' := 5) rfl rfl ?_
  refine G.iconst H D7_5 (pc' := 6) rfl (v := 3) rfl ?_
  refine G.iand H D7_6 (pc' := 7) rfl ?_
  refine G.istoreN H (L' := #[.val (.int x0), .val (.int x1), .val (.int (x0 &&& 3)), .val (.int (x1 &&& 3)), .unset, .unset, .unset]) D7_7 (pc' := 8) rfl rfl ?_
  refine G.iloadN H D7_8 (pc' := 9) rfl rfl ?_
  refine G.iloadN H D7_9 (pc' := 10) rfl rfl ?_
  by_cases c1 : (x0 &&& 3) = (x1 &&& 3)
  ·
    refine G.icmpYes H D7_10 (XT.ii_eq_t c1) (by decide) (pc' := 15) rfl ?_
    refine G.iloadN H D7_15 (pc' := 16) rfl rfl ?_
    refine G.iconst H D7_16 (pc' := 17) rfl (v := 2) rfl ?_
    refine G.iushr H D7_17 (pc' := 18) rfl ?_
    refine G.sipush H D7_18 (pc' := 21) rfl (v := 255) rfl ?_
    refine G.iand H D7_21 (pc' := 22) rfl ?_
    refine G.iloadN H D7_22 (pc' := 23) rfl rfl ?_
    refine G.iconst H D7_23 (pc' := 24) rfl (v := 2) rfl ?_
    refine G.iushr H D7_24 (pc' := 25) rfl ?_
    refine G.sipush H D7_25 (pc' := 28) rfl (v := 255) rfl ?_
    refine G.iand H D7_28 (pc' := 29) rfl ?_
    by_cases c2 : ((XT.ushr x0 2) &&& 255) = ((XT.ushr x1 2) &&& 255)
    ·
      refine G.icmpNo H D7_29 (pc' := 32) rfl (XT.ii_ne_f c2) ?_
      refine G.iconst H D7_32 (pc' := 33) rfl (v := 1) rfl ?_
      refine G.goto H D7_33 (by decide) (pc' := 37) rfl ?_
      refine G.istore H (L' := #[.val (.int x0), .val (.int x1), .val (.int (x0 &&& 3)), .val (.int (x1 &&& 3)), .val (.int 1), .unset, .unset]) D7_37 (pc' := 39) rfl rfl ?_
      refine G.iloadN H D7_39 (pc' := 40) rfl rfl ?_
      refine G.bipush H D7_40 (pc' := 42) rfl (v := 10) rfl ?_
      refine G.iushr H D7_42 (pc' := 43) rfl ?_
      refine G.sipush H D7_43 (pc' := 46) rfl (v := 255) rfl ?_
      refine G.iand H D7_46 (pc' := 47) rfl ?_
      refine G.iloadN H D7_47 (pc' := 48) rfl rfl ?_
      refine G.bipush H D7_48 (pc' := 50) rfl (v := 10) rfl ?_
      refine G.iushr H D7_50 (pc' := 51) rfl ?_
      refine G.sipush H D7_51 (pc' := 54) rfl (v := 255) rfl ?_
      refine G.iand H D7_54 (pc' := 55) rfl ?_
      by_cases c3 : ((XT.ushr x0 10) &&& 255) = ((XT.ushr x1 10) &&& 255)
      ·
        refine G.icmpNo H D7_55 (pc' := 58) rfl (XT.ii_ne_f c3) ?_
        refine G.iconst H D7_58 (pc' := 59) rfl (v := 1) rfl ?_
        refine G.goto H D7_59 (by decide) (pc' := 63) rfl ?_
        refine G.istore H (L' := #[.val (.int x0), .val (.int x1), .val (.int (x0 &&& 3)), .val (.int (x1 &&& 3)), .val (.int 1), .val (.int 1), .unset]) D7_63 (pc' := 65) rfl rfl ?_
        refine G.iloadN H D7_65 (pc' := 66) rfl rfl ?_
        refine G.bipush H D7_66 (pc' := 68) rfl (v := 18) rfl ?_
        refine G.iushr H D7_68 (pc' := 69) rfl ?_
        refine G.sipush H D7_69 (pc' := 72) rfl (v := 255) rfl ?_
        refine G.iand H D7_72 (pc' := 73) rfl ?_
        refine G.iloadN H D7_73 (pc' := 74) rfl rfl ?_
        refine G.bipush H D7_74 (pc' := 76) rfl (v := 18) rfl ?_
        refine G.iushr H D7_76 (pc' := 77) rfl ?_
        refine G.sipush H D7_77 (pc' := 80) rfl (v := 255) rfl ?_
        refine G.iand H D7_80 (pc' := 81) rfl ?_
        by_cases c4 : ((XT.ushr x0 18) &&& 255) = ((XT.ushr x1 18) &&& 255)
        ·
          refine G.icmpNo H D7_81 (pc' := 84) rfl (XT.ii_ne_f c4) ?_
          refine G.iconst H D7_84 (pc' := 85) rfl (v := 1) rfl ?_
          refine G.goto H D7_85 (by decide) (pc' := 89) rfl ?_
          refine G.istore H (L' := #[.val (.int x0), .val (.int x1), .val (.int (x0 &&& 3)), .val (.int (x1 &&& 3)), .val (.int 1), .val (.int 1), .val (.int 1)]) D7_89 (pc' := 91) rfl rfl ?_
          refine G.iloadN H D7_91 (pc' := 92) rfl rfl ?_
          refine G.iconst H D7_92 (pc' := 93) rfl (v := 1) rfl ?_
          by_cases c5 : (x0 &&& 3) < 1
          ·
            refine G.icmpYes H D7_93 (XT.ii_lt_t c5) (by decide) (pc' := 101) rfl ?_
            refine G.iloadN H D7_101 (pc' := 102) rfl rfl ?_
            refine G.iconst H D7_102 (pc' := 103) rfl (v := 2) rfl ?_
            by_cases c6 : (x0 &&& 3) < 2
            ·
              refine G.icmpYes H D7_103 (XT.ii_lt_t c6) (by decide) (pc' := 111) rfl ?_
              refine G.iloadN H D7_111 (pc' := 112) rfl rfl ?_
              refine G.iconst H D7_112 (pc' := 113) rfl (v := 3) rfl ?_
              by_cases c7 : (x0 &&& 3) < 3
              ·
                refine G.icmpYes H D7_113 (XT.ii_lt_t c7) (by decide) (pc' := 121) rfl ?_
                refine G.iconst H D7_121 (pc' := 122) rfl (v := 1) rfl ?_
                refine G.goto H D7_122 (by decide) (pc' := 126) rfl ?_
                exact G.retN H (t := .boolean) rfl (by decide) D7_126 (so := []) all0 (by decide) (by decide) (Or.inl ⟨(own_same _ _).mpr ⟨(c1), (Or.inl c5), (Or.inl c6), (Or.inl c7)⟩, rfl, rfl, rfl⟩)
              ·
                refine G.icmpNo H D7_113 (pc' := 116) rfl (XT.ii_lt_f c7) ?_
                refine G.iload H D7_116 (pc' := 118) rfl rfl ?_
                refine G.ifNo H D7_118 (pc' := 121) rfl (by decide) ?_
                refine G.iconst H D7_121 (pc' := 122) rfl (v := 1) rfl ?_
                refine G.goto H D7_122 (by decide) (pc' := 126) rfl ?_
                exact G.retN H (t := .boolean) rfl (by decide) D7_126 (so := []) all0 (by decide) (by decide) (Or.inl ⟨(own_same _ _).mpr ⟨(c1), (Or.inl c5), (Or.inl c6), (Or.inr c4)⟩, rfl, rfl, rfl⟩)
            ·
              refine G.icmpNo H D7_103 (pc' := 106) rfl (XT.ii_lt_f c6) ?_
              refine G.iload H D7_106 (pc' := 108) rfl rfl ?_
              refine G.ifNo H D7_108 (pc' := 111) rfl (by decide) ?_
              refine G.iloadN H D7_111 (pc' := 112) rfl rfl ?_
              refine G.iconst H D7_112 (pc' := 113) rfl (v := 3) rfl ?_
              by_cases c8 : (x0 &&& 3) < 3
              ·
                refine G.icmpYes H D7_113 (XT.ii_lt_t c8) (by decide) (pc' := 121) rfl ?_
                refine G.iconst H D7_121 (pc' := 122) rfl (v := 1) rfl ?_
                refine G.goto H D7_122 (by decide) (pc' := 126) rfl ?_
                exact G.retN H (t := .boolean) rfl (by decide) D7_126 (so := []) all0 (by decide) (by decide) (Or.inl ⟨(own_same _ _).mpr ⟨(c1), (Or.inl c5), (Or.inr c3), (Or.inl c8)⟩, rfl, rfl, rfl⟩)
              ·
                refine G.icmpNo H D7_113 (pc' := 116) rfl (XT.ii_lt_f c8) ?_
                refine G.iload H D7_116 (pc' := 118) rfl rfl ?_
                refine G.ifNo H D7_118 (pc' := 121) rfl (by decide) ?_
                refine G.iconst H D7_121 (pc' := 122) rfl (v := 1) rfl ?_
                refine G.goto H D7_122 (by decide) (pc' := 126) rfl ?_
                exact G.retN H (t := .boolean) rfl (by decide) D7_126 (so := []) all0 (by decide) (by decide) (Or.inl ⟨(own_same _ _).mpr ⟨(c1), (Or.inl c5), (Or.inr c3), (Or.inr c4)⟩, rfl, rfl, rfl⟩)
          ·
            refine G.icmpNo H D7_93 (pc' := 96) rfl (XT.ii_lt_f c5) ?_
            refine G.iload H D7_96 (pc' := 98) rfl rfl ?_
            refine G.ifNo H D7_98 (pc' := 101) rfl (by decide) ?_
            refine G.iloadN H D7_101 (pc' := 102) rfl rfl ?_
            refine G.iconst H D7_102 (pc' := 103) rfl (v := 2) rfl ?_
            by_cases c9 : (x0 &&& 3) < 2
            ·
              refine G.icmpYes H D7_103 (XT.ii_lt_t c9) (by decide) (pc' := 111) rfl ?_
              refine G.iloadN H D7_111 (pc' := 112) rfl rfl ?_
              refine G.iconst H D7_112 (pc' := 113) rfl (v := 3) rfl ?_
              by_cases c10 : (x0 &&& 3) < 3
              ·
                refine G.icmpYes H D7_113 (XT.ii_lt_t c10) (by decide) (pc' := 121) rfl ?_
                refine G.iconst H D7_121 (pc' := 122) rfl (v := 1) rfl ?_
                refine G.goto H D7_122 (by decide) (pc' := 126) rfl ?_
                exact G.retN H (t := .boolean) rfl (by decide) D7_126 (so := []) all0 (by decide) (by decide) (Or.inl ⟨(own_same _ _).mpr ⟨(c1), (Or.inr c2), (Or.inl c9), (Or.inl c10)⟩, rfl, rfl, rfl⟩)
              ·
                refine G.icmpNo H D7_113 (pc' := 116) rfl (XT.ii_lt_f c10) ?_
                refine G.iload H D7_116 (pc' := 118) rfl rfl ?_
                refine G.ifNo H D7_118 (pc' := 121) rfl (by decide) ?_
                refine G.iconst H D7_121 (pc' := 122) rfl (v := 1) rfl ?_
                refine G.goto H D7_122 (by decide) (pc' := 126) rfl ?_
                exact G.retN H (t := .boolean) rfl (by decide) D7_126 (so := []) all0 (by decide) (by decide) (Or.inl ⟨(own_same _ _).mpr ⟨(c1), (Or.inr c2), (Or.inl c9), (Or.inr c4)⟩, rfl, rfl, rfl⟩)
            ·
              refine G.icmpNo H D7_103 (pc' := 106) rfl (XT.ii_lt_f c9) ?_
              refine G.iload H D7_106 (pc' := 108) rfl rfl ?_
              refine G.ifNo H D7_108 (pc' := 111) rfl (by decide) ?_
              refine G.iloadN H D7_111 (pc' := 112) rfl rfl ?_
              refine G.iconst H D7_112 (pc' := 113) rfl (v := 3) rfl ?_
              by_cases c11 : (x0 &&& 3) < 3
              ·
                refine G.icmpYes H D7_113 (XT.ii_lt_t c11) (by decide) (pc' := 121) rfl ?_
                refine G.iconst H D7_121 (pc' := 122) rfl (v := 1) rfl ?_
                refine G.goto H D7_122 (by decide) (pc' := 126) rfl ?_
                exact G.retN H (t := .boolean) rfl (by decide) D7_126 (so := []) all0 (by decide) (by decide) (Or.inl ⟨(own_same _ _).mpr ⟨(c1), (Or.inr c2), (Or.inr c3), (Or.inl c11)⟩, rfl, rfl, rfl⟩)
              ·
                refine G.icmpNo H D7_113 (pc' := 116) rfl (XT.ii_lt_f c11) ?_
                refine G.iload H D7_116 (pc' := 118) rfl rfl ?_
                refine G.ifNo H D7_118 (pc' := 121) rfl (by decide) ?_
                refine G.iconst H D7_121 (pc' := 122) rfl (v := 1) rfl ?_
                refine G.goto H D7_122 (by decide) (pc' := 126) rfl ?_
                exact G.retN H (t := .boolean) rfl (by decide) D7_126 (so := []) all0 (by decide) (by decide) (Or.inl ⟨(own_same _ _).mpr ⟨(c1), (Or.inr c2), (Or.inr c3), (Or.inr c4)⟩, rfl, rfl, rfl⟩)
        ·
          refine G.icmpYes H D7_81 (XT.ii_ne_t c4) (by decide) (pc' := 88) rfl ?_
          refine G.iconst H D7_88 (pc' := 89) rfl (v := 0) rfl ?_
          refine G.istore H (L' := #[.val (.int x0), .val (.int x1), .val (.int (x0 &&& 3)), .val (.int (x1 &&& 3)), .val (.int 1), .val (.int 1), .val (.int 0)]) D7_89 (pc' := 91) rfl rfl ?_
          refine G.iloadN H D7_91 (pc' := 92) rfl rfl ?_
          refine G.iconst H D7_92 (pc' := 93) rfl (v := 1) rfl ?_
          by_cases c12 : (x0 &&& 3) < 1
          ·
            refine G.icmpYes H D7_93 (XT.ii_lt_t c12) (by decide) (pc' := 101) rfl ?_
            refine G.iloadN H D7_101 (pc' := 102) rfl rfl ?_
            refine G.iconst H D7_102 (pc' := 103) rfl (v := 2) rfl ?_
            by_cases c13 : (x0 &&& 3) < 2
            ·
              refine G.icmpYes H D7_103 (XT.ii_lt_t c13) (by decide) (pc' := 111) rfl ?_
              refine G.iloadN H D7_111 (pc' := 112) rfl rfl ?_
              refine G.iconst H D7_112 (pc' := 113) rfl (v := 3) rfl ?_
              by_cases c14 : (x0 &&& 3) < 3
              ·
                refine G.icmpYes H D7_113 (XT.ii_lt_t c14) (by decide) (pc' := 121) rfl ?_
                refine G.iconst H D7_121 (pc' := 122) rfl (v := 1) rfl ?_
                refine G.goto H D7_122 (by decide) (pc' := 126) rfl ?_
                exact G.retN H (t := .boolean) rfl (by decide) D7_126 (so := []) all0 (by decide) (by decide) (Or.inl ⟨(own_same _ _).mpr ⟨(c1), (Or.inl c12), (Or.inl c13), (Or.inl c14)⟩, rfl, rfl, rfl⟩)
              ·
                refine G.icmpNo H D7_113 (pc' := 116) rfl (XT.ii_lt_f c14) ?_
                refine G.iload H D7_116 (pc' := 118) rfl rfl ?_
                refine G.ifYes H D7_118 (by decide) (by decide) (pc' := 125) rfl ?_
                refine G.iconst H D7_125 (pc' := 126) rfl (v := 0) rfl ?_
                exact G.retN H (t := .boolean) rfl (by decide) D7_126 (so := []) all0 (by decide) (by decide) (Or.inr ⟨(fun qq => (((own_same _ _).mp qq).2.2.2).elim c14 c4), rfl, rfl, rfl⟩)
            ·
              refine G.icmpNo H D7_103 (pc' := 106) rfl (XT.ii_lt_f c13) ?_
              refine G.iload H D7_106 (pc' := 108) rfl rfl ?_
              refine G.ifNo H D7_108 (pc' := 111) rfl (by decide) ?_
              refine G.iloadN H D7_111 (pc' := 112) rfl rfl ?_
              refine G.iconst H D7_112 (pc' := 113) rfl (v := 3) rfl ?_
              by_cases c15 : (x0 &&& 3) < 3
              ·
                refine G.icmpYes H D7_113 (XT.ii_lt_t c15) (by decide) (pc' := 121) rfl ?_
                refine G.iconst H D7_121 (pc' := 122) rfl (v := 1) rfl ?_
                refine G.goto H D7_122 (by decide) (pc' := 126) rfl ?_
                exact G.retN H (t := .boolean) rfl (by decide) D7_126 (so := []) all0 (by decide) (by decide) (Or.inl ⟨(own_same _ _).mpr ⟨(c1), (Or.inl c12), (Or.inr c3), (Or.inl c15)⟩, rfl, rfl, rfl⟩)
              ·
                refine G.icmpNo H D7_113 (pc' := 116) rfl (XT.ii_lt_f c15) ?_
                refine G.iload H D7_116 (pc' := 118) rfl rfl ?_
                refine G.ifYes H D7_118 (by decide) (by decide) (pc' := 125) rfl ?_
                refine G.iconst H D7_125 (pc' := 126) rfl (v := 0) rfl ?_
                exact G.retN H (t := .boolean) rfl (by decide) D7_126 (so := []) all0 (by decide) (by decide) (Or.inr ⟨(fun qq => (((own_same _ _).mp qq).2.2.2).elim c15 c4), rfl, rfl, rfl⟩)
          ·
            refine G.icmpNo H D7_93 (pc' := 96) rfl (XT.ii_lt_f c12) ?_
            refine G.iload H D7_96 (pc' := 98) rfl rfl ?_
            refine G.ifNo H D7_98 (pc' := 101) rfl (by decide) ?_
            refine G.iloadN H D7_101 (pc' := 102) rfl rfl ?_
            refine G.iconst H D7_102 (pc' := 103) rfl (v := 2) rfl ?_
            by_cases c16 : (x0 &&& 3) < 2
            ·
              refine G.icmpYes H D7_103 (XT.ii_lt_t c16) (by decide) (pc' := 111) rfl ?_
              refine G.iloadN H D7_111 (pc' := 112) rfl rfl ?_
              refine G.iconst H D7_112 (pc' := 113) rfl (v := 3) rfl ?_
              by_cases c17 : (x0 &&& 3) < 3
              ·
                refine G.icmpYes H D7_113 (XT.ii_lt_t c17) (by decide) (pc' := 121) rfl ?_
                refine G.iconst H D7_121 (pc' := 122) rfl (v := 1) rfl ?_
                refine G.goto H D7_122 (by decide) (pc' := 126) rfl ?_
                exact G.retN H (t := .boolean) rfl (by decide) D7_126 (so := []) all0 (by decide) (by decide) (Or.inl ⟨(own_same _ _).mpr ⟨(c1), (Or.inr c2), (Or.inl c16), (Or.inl c17)⟩, rfl, rfl, rfl⟩)
              ·
                refine G.icmpNo H D7_113 (pc' := 116) rfl (XT.ii_lt_f c17) ?_
                refine G.iload H D7_116 (pc' := 118) rfl rfl ?_
                refine G.ifYes H D7_118 (by decide) (by decide) (pc' := 125) rfl ?_
                refine G.iconst H D7_125 (pc' := 126) rfl (v := 0) rfl ?_
                exact G.retN H (t := .boolean) rfl (by decide) D7_126 (so := []) all0 (by decide) (by decide) (Or.inr ⟨(fun qq => (((own_same _ _).mp qq).2.2.2).elim c17 c4), rfl, rfl, rfl⟩)
            ·
              refine G.icmpNo H D7_103 (pc' := 106) rfl (XT.ii_lt_f c16) ?_
              refine G.iload H D7_106 (pc' := 108) rfl rfl ?_
              refine G.ifNo H D7_108 (pc' := 111) rfl (by decide) ?_
              refine G.iloadN H D7_111 (pc' := 112) rfl rfl ?_
              refine G.iconst H D7_112 (pc' := 113) rfl (v := 3) rfl ?_
              by_cases c18 : (x0 &&& 3) < 3
              ·
                refine G.icmpYes H D7_113 (XT.ii_lt_t c18) (by decide) (pc' := 121) rfl ?_
                refine G.iconst H D7_121 (pc' := 122) rfl (v := 1) rfl ?_
                refine G.goto H D7_122 (by decide) (pc' := 126) rfl ?_
                exact G.retN H (t := .boolean) rfl (by decide) D7_126 (so := []) all0 (by decide) (by decide) (Or.inl ⟨(own_same _ _).mpr ⟨(c1), (Or.inr c2), (Or.inr c3), (Or.inl c18)⟩, rfl, rfl, rfl⟩)
              ·
                refine G.icmpNo H D7_113 (pc' := 116) rfl (XT.ii_lt_f c18) ?_
                refine G.iload H D7_116 (pc' := 118) rfl rfl ?_
                refine G.ifYes H D7_118 (by decide) (by decide) (pc' := 125) rfl ?_
                refine G.iconst H D7_125 (pc' := 126) rfl (v := 0) rfl ?_
                exact G.retN H (t := .boolean) rfl (by decide) D7_126 (so := []) all0 (by decide) (by decide) (Or.inr ⟨(fun qq => (((own_same _ _).mp qq).2.2.2).elim c18 c4), rfl, rfl, rfl⟩)
      ·
        refine G.icmpYes H D7_55 (XT.ii_ne_t c3) (by decide) (pc' := 62) rfl ?_
        refine G.iconst H D7_62 (pc' := 63) rfl (v := 0) rfl ?_
        refine G.istore H (L' := #[.val (.int x0), .val (.int x1), .val (.int (x0 &&& 3)), .val (.int (x1 &&& 3)), .val (.int 1), .val (.int 0), .unset]) D7_63 (pc' := 65) rfl rfl ?_
        refine G.iloadN H D7_65 (pc' := 66) rfl rfl ?_
        refine G.bipush H D7_66 (pc' := 68) rfl (v := 18) rfl ?_
        refine G.iushr H D7_68 (pc' := 69) rfl ?_
        refine G.sipush H D7_69 (pc' := 72) rfl (v := 255) rfl ?_
        refine G.iand H D7_72 (pc' := 73) rfl ?_
        refine G.iloadN H D7_73 (pc' := 74) rfl rfl ?_
        refine G.bipush H D7_74 (pc' := 76) rfl (v := 18) rfl ?_
        refine G.iushr H D7_76 (pc' := 77) rfl ?_
        refine G.sipush H D7_77 (pc' := 80) rfl (v := 255) rfl ?_
        refine G.iand H D7_80 (pc' := 81) rfl ?_
        by_cases c19 : ((XT.ushr x0 18) &&& 255) = ((XT.ushr x1 18) &&& 255)
        ·
          refine G.icmpNo H D7_81 (pc' := 84) rfl (XT.ii_ne_f c19) ?_
          refine G.iconst H D7_84 (pc' := 85) rfl (v := 1) rfl ?_
          refine G.goto H D7_85 (by decide) (pc' := 89) rfl ?_
          refine G.istore H (L' := #[.val (.int x0), .val (.int x1), .val (.int (x0 &&& 3)), .val (.int (x1 &&& 3)), .val (.int 1), .val (.int 0), .val (.int 1)]) D7_89 (pc' := 91) rfl rfl ?_
          refine G.iloadN H D7_91 (pc' := 92) rfl rfl ?_
          refine G.iconst H D7_92 (pc' := 93) rfl (v := 1) rfl ?_
          by_cases c20 : (x0 &&& 3) < 1
          ·
            refine G.icmpYes H D7_93 (XT.ii_lt_t c20) (by decide) (pc' := 101) rfl ?_
            refine G.iloadN H D7_101 (pc' := 102) rfl rfl ?_
            refine G.iconst H D7_102 (pc' := 103) rfl (v := 2) rfl ?_
            by_cases c21 : (x0 &&& 3) < 2
            ·
              refine G.icmpYes H D7_103 (XT.ii_lt_t c21) (by decide) (pc' := 111) rfl ?_
              refine G.iloadN H D7_111 (pc' := 112) rfl rfl ?_
              refine G.iconst H D7_112 (pc' := 113) rfl (v := 3) rfl ?_
              by_cases c22 : (x0 &&& 3) < 3
              ·
                refine G.icmpYes H D7_113 (XT.ii_lt_t c22) (by decide) (pc' := 121) rfl ?_
                refine G.iconst H D7_121 (pc' := 122) rfl (v := 1) rfl ?_
                refine G.goto H D7_122 (by decide) (pc' := 126) rfl ?_
                exact G.retN H (t := .boolean) rfl (by decide) D7_126 (so := []) all0 (by decide) (by decide) (Or.inl ⟨(own_same _ _).mpr ⟨(c1), (Or.inl c20), (Or.inl c21), (Or.inl c22)⟩, rfl, rfl, rfl⟩)
              ·
                refine G.icmpNo H D7_113 (pc' := 116) rfl (XT.ii_lt_f c22) ?_
                refine G.iload H D7_116 (pc' := 118) rfl rfl ?_
                refine G.ifNo H D7_118 (pc' := 121) rfl (by decide) ?_
                refine G.iconst H D7_121 (pc' := 122) rfl (v := 1) rfl ?_
                refine G.goto H D7_122 (by decide) (pc' := 126) rfl ?_
                exact G.retN H (t := .boolean) rfl (by decide) D7_126 (so := []) all0 (by decide) (by decide) (Or.inl ⟨(own_same _ _).mpr ⟨(c1), (Or.inl c20), (Or.inl c21), (Or.inr c19)⟩, rfl, rfl, rfl⟩)
            ·
              refine G.icmpNo H D7_103 (pc' := 106) rfl (XT.ii_lt_f c21) ?_
              refine G.iload H D7_106 (pc' := 108) rfl rfl ?_
              refine G.ifYes H D7_108 (by decide) (by decide) (pc' := 125) rfl ?_
              refine G.iconst H D7_125 (pc' := 126) rfl (v := 0) rfl ?_
              exact G.retN H (t := .boolean) rfl (by decide) D7_126 (so := []) all0 (by decide) (by decide) (Or.inr ⟨(fun qq => (((own_same _ _).mp qq).2.2.1).elim c21 c3), rfl, rfl, rfl⟩)
          ·
            refine G.icmpNo H D7_93 (pc' := 96) rfl (XT.ii_lt_f c20) ?_
            refine G.iload H D7_96 (pc' := 98) rfl rfl ?_
            refine G.ifNo H D7_98 (pc' := 101) rfl (by decide) ?_
            refine G.iloadN H D7_101 (pc' := 102) rfl rfl ?_
            refine G.iconst H D7_102 (pc' := 103) rfl (v := 2) rfl ?_
            by_cases c23 : (x0 &&& 3) < 2
            ·
              refine G.icmpYes H D7_103 (XT.ii_lt_t c23) (by decide) (pc' := 111) rfl ?_
              refine G.iloadN H D7_111 (pc' := 112) rfl rfl ?_
              refine G.iconst H D7_112 (pc' := 113) rfl (v := 3) rfl ?_
              by_cases c24 : (x0 &&& 3) < 3
              ·
                refine G.icmpYes H D7_113 (XT.ii_lt_t c24) (by decide) (pc' := 121) rfl ?_
                refine G.iconst H D7_121 (pc' := 122) rfl (v := 1) rfl ?_
                refine G.goto H D7_122 (by decide) (pc' := 126) rfl ?_
                exact G.retN H (t := .boolean) rfl (by decide) D7_126 (so := []) all0 (by decide) (by decide) (Or.inl ⟨(own_same _ _).mpr ⟨(c1), (Or.inr c2), (Or.inl c23), (Or.inl c24)⟩, rfl, rfl, rfl⟩)
              ·
                refine G.icmpNo H D7_113 (pc' := 116) rfl (XT.ii_lt_f c24) ?_
                refine G.iload H D7_116 (pc' := 118) rfl rfl ?_
                refine G.ifNo H D7_118 (pc' := 121) rfl (by decide) ?_
                refine G.iconst H D7_121 (pc' := 122) rfl (v := 1) rfl ?_
                refine G.goto H D7_122 (by decide) (pc' := 126) rfl ?_
                exact G.retN H (t := .boolean) rfl (by decide) D7_126 (so := []) all0 (by decide) (by decide) (Or.inl ⟨(own_same _ _).mpr ⟨(c1), (Or.inr c2), (Or.inl c23), (Or.inr c19)⟩, rfl, rfl, rfl⟩)
            ·
              refine G.icmpNo H D7_103 (pc' := 106) rfl (XT.ii_lt_f c23) ?_
              refine G.iload H D7_106 (pc' := 108) rfl rfl ?_
              refine G.ifYes H D7_108 (by decide) (by decide) (pc' := 125) rfl ?_
              refine G.iconst H D7_125 (pc' := 126) rfl (v := 0) rfl ?_
              exact G.retN H (t := .boolean) rfl (by decide) D7_126 (so := []) all0 (by decide) (by decide) (Or.inr ⟨(fun qq => (((own_same _ _).mp qq).2.2.1).elim c23 c3), rfl, rfl, rfl⟩)
        ·
          refine G.icmpYes H D7_81 (XT.ii_ne_t c19) (by decide) (pc' := 88) rfl ?_
          refine G.iconst H D7_88 (pc' := 89) rfl (v := 0) rfl ?_
          refine G.istore H (L' := #[.val (.int x0), .val (.int x1), .val (.int (x0 &&& 3)), .val (.int (x1 &&& 3)), .val (.int 1), .val (.int 0), .val (.int 0)]) D7_89 (pc' := 91) rfl rfl ?_
          refine G.iloadN H D7_91 (pc' := 92) rfl rfl ?_
          refine G.iconst H D7_92 (pc' := 93) rfl (v := 1) rfl ?_
          by_cases c25 : (x0 &&& 3) < 1
          ·
            refine G.icmpYes H D7_93 (XT.ii_lt_t c25) (by decide) (pc' := 101) rfl ?_
            refine G.iloadN H D7_101 (pc' := 102) rfl rfl ?_
            refine G.iconst H D7_102 (pc' := 103) rfl (v := 2) rfl ?_
            by_cases c26 : (x0 &&& 3) < 2
            ·
              refine G.icmpYes H D7_103 (XT.ii_lt_t c26) (by decide) (pc' := 111) rfl ?_
              refine G.iloadN H D7_111 (pc' := 112) rfl rfl ?_
              refine G.iconst H D7_112 (pc' := 113) rfl (v := 3) rfl ?_
              by_cases c27 : (x0 &&& 3) < 3
              ·
                refine G.icmpYes H D7_113 (XT.ii_lt_t c27) (by decide) (pc' := 121) rfl ?_
                refine G.iconst H D7_121 (pc' := 122) rfl (v := 1) rfl ?_
                refine G.goto H D7_122 (by decide) (pc' := 126) rfl ?_
                exact G.retN H (t := .boolean) rfl (by decide) D7_126 (so := []) all0 (by decide) (by decide) (Or.inl ⟨(own_same _ _).mpr ⟨(c1), (Or.inl c25), (Or.inl c26), (Or.inl c27)⟩, rfl, rfl, rfl⟩)
              ·
                refine G.icmpNo H D7_113 (pc' := 116) rfl (XT.ii_lt_f c27) ?_
                refine G.iload H D7_116 (pc' := 118) rfl rfl ?_
                refine G.ifYes H D7_118 (by decide) (by decide) (pc' := 125) rfl ?_
                refine G.iconst H D7_125 (pc' := 126) rfl (v := 0) rfl ?_
                exact G.retN H (t := .boolean) rfl (by decide) D7_126 (so := []) all0 (by decide) (by decide) (Or.inr ⟨(fun qq => (((own_same _ _).mp qq).2.2.2).elim c27 c19), rfl, rfl, rfl⟩)
            ·
              refine G.icmpNo H D7_103 (pc' := 106) rfl (XT.ii_lt_f c26) ?_
              refine G.iload H D7_106 (pc' := 108) rfl rfl ?_
              refine G.ifYes H D7_108 (by decide) (by decide) (pc' := 125) rfl ?_
              refine G.iconst H D7_125 (pc' := 126) rfl (v := 0) rfl ?_
              exact G.retN H (t := .boolean) rfl (by decide) D7_126 (so := []) all0 (by decide) (by decide) (Or.inr ⟨(fun qq => (((own_same _ _).mp qq).2.2.1).elim c26 c3), rfl, rfl, rfl⟩)
          ·
            refine G.icmpNo H D7_93 (pc' := 96) rfl (XT.ii_lt_f c25) ?_
            refine G.iload H D7_96 (pc' := 98) rfl rfl ?_
            refine G.ifNo H D7_98 (pc' := 101) rfl (by decide) ?_
            refine G.iloadN H D7_101 (pc' := 102) rfl rfl ?_
            refine G.iconst H D7_102 (pc' := 103) rfl (v := 2) rfl ?_
            by_cases c28 : (x0 &&& 3) < 2
            ·
              refine G.icmpYes H D7_103 (XT.ii_lt_t c28) (by decide) (pc' := 111) rfl ?_
              refine G.iloadN H D7_111 (pc' := 112) rfl rfl ?_
              refine G.iconst H D7_112 (pc' := 113) rfl (v := 3) rfl ?_
              by_cases c29 : (x0 &&& 3) < 3
              ·
                refine G.icmpYes H D7_113 (XT.ii_lt_t c29) (by decide) (pc' := 121) rfl ?_
                refine G.iconst H D7_121 (pc' := 122) rfl (v := 1) rfl ?_
                refine G.goto H D7_122 (by decide) (pc' := 126) rfl ?_
                exact G.retN H (t := .boolean) rfl (by decide) D7_126 (so := []) all0 (by decide) (by decide) (Or.inl ⟨(own_same _ _).mpr ⟨(c1), (Or.inr c2), (Or.inl c28), (Or.inl c29)⟩, rfl, rfl, rfl⟩)
              ·
                refine G.icmpNo H D7_113 (pc' := 116) rfl (XT.ii_lt_f c29) ?_
                refine G.iload H D7_116 (pc' := 118) rfl rfl ?_
                refine G.ifYes H D7_118 (by decide) (by decide) (pc' := 125) rfl ?_
                refine G.iconst H D7_125 (pc' := 126) rfl (v := 0) rfl ?_
                exact G.retN H (t := .boolean) rfl (by decide) D7_126 (so := []) all0 (by decide) (by decide) (Or.inr ⟨(fun qq => (((own_same _ _).mp qq).2.2.2).elim c29 c19), rfl, rfl, rfl⟩)
            ·
              refine G.icmpNo H D7_103 (pc' := 106) rfl (XT.ii_lt_f c28) ?_
              refine G.iload H D7_106 (pc' := 108) rfl rfl ?_
              refine G.ifYes H D7_108 (by decide) (by decide) (pc' := 125) rfl ?_
              refine G.iconst H D7_125 (pc' := 126) rfl (v := 0) rfl ?_
              exact G.retN H (t := .boolean) rfl (by decide) D7_126 (so := []) all0 (by decide) (by decide) (Or.inr ⟨(fun qq => (((own_same _ _).mp qq).2.2.1).elim c28 c3), rfl, rfl, rfl⟩)
    ·
      refine G.icmpYes H D7_29 (XT.ii_ne_t c2) (by decide) (pc' := 36) rfl ?_
      refine G.iconst H D7_36 (pc' := 37) rfl (v := 0) rfl ?_
      refine G.istore H (L' := #[.val (.int x0), .val (.int x1), .val (.int (x0 &&& 3)), .val (.int (x1 &&& 3)), .val (.int 0), .unset, .unset]) D7_37 (pc' := 39) rfl rfl ?_
      refine G.iloadN H D7_39 (pc' := 40) rfl rfl ?_
      refine G.bipush H D7_40 (pc' := 42) rfl (v := 10) rfl ?_
      refine G.iushr H D7_42 (pc' := 43) rfl ?_
      refine G.sipush H D7_43 (pc' := 46) rfl (v := 255) rfl ?_
      refine G.iand H D7_46 (pc' := 47) rfl ?_
      refine G.iloadN H D7_47 (pc' := 48) rfl rfl ?_
      refine G.bipush H D7_48 (pc' := 50) rfl (v := 10) rfl ?_
      refine G.iushr H D7_50 (pc' := 51) rfl ?_
      refine G.sipush H D7_51 (pc' := 54) rfl (v := 255) rfl ?_
      refine G.iand H D7_54 (pc' := 55) rfl ?_
      by_cases c30 : ((XT.ushr x0 10) &&& 255) = ((XT.ushr x1 10) &&& 255)
      ·
        refine G.icmpNo H D7_55 (pc' := 58) rfl (XT.ii_ne_f c30) ?_
        refine G.iconst H D7_58 (pc' := 59) rfl (v := 1) rfl ?_
        refine G.goto H D7_59 (by decide) (pc' := 63) rfl ?_
        refine G.istore H (L' := #[.val (.int x0), .val (.int x1), .val (.int (x0 &&& 3)), .val (.int (x1 &&& 3)), .val (.int 0), .val (.int 1), .unset]) D7_63 (pc' := 65) rfl rfl ?_
        refine G.iloadN H D7_65 (pc' := 66) rfl rfl ?_
        refine G.bipush H D7_66 (pc' := 68) rfl (v := 18) rfl ?_
        refine G.iushr H D7_68 (pc' := 69) rfl ?_
        refine G.sipush H D7_69 (pc' := 72) rfl (v := 255) rfl ?_
        refine G.iand H D7_72 (pc' := 73) rfl ?_
        refine G.iloadN H D7_73 (pc' := 74) rfl rfl ?_
        refine G.bipush H D7_74 (pc' := 76) rfl (v := 18) rfl ?_
        refine G.iushr H D7_76 (pc' := 77) rfl ?_
        refine G.sipush H D7_77 (pc' := 80) rfl (v := 255) rfl ?_
        refine G.iand H D7_80 (pc' := 81) rfl ?_
        by_cases c31 : ((XT.ushr x0 18) &&& 255) = ((XT.ushr x1 18) &&& 255)
        ·
          refine G.icmpNo H D7_81 (pc' := 84) rfl (XT.ii_ne_f c31) ?_
          refine G.iconst H D7_84 (pc' := 85) rfl (v := 1) rfl ?_
          refine G.goto H D7_85 (by decide) (pc' := 89) rfl ?_
          refine G.istore H (L' := #[.val (.int x0), .val (.int x1), .val (.int (x0 &&& 3)), .val (.int (x1 &&& 3)), .val (.int 0), .val (.int 1), .val (.int 1)]) D7_89 (pc' := 91) rfl rfl ?_
          refine G.iloadN H D7_91 (pc' := 92) rfl rfl ?_
          refine G.iconst H D7_92 (pc' := 93) rfl (v := 1) rfl ?_
          by_cases c32 : (x0 &&& 3) < 1
          ·
            refine G.icmpYes H D7_93 (XT.ii_lt_t c32) (by decide) (pc' := 101) rfl ?_
            refine G.iloadN H D7_101 (pc' := 102) rfl rfl ?_
            refine G.iconst H D7_102 (pc' := 103) rfl (v := 2) rfl ?_
            by_cases c33 : (x0 &&& 3) < 2
            ·
              refine G.icmpYes H D7_103 (XT.ii_lt_t c33) (by decide) (pc' := 111) rfl ?_
              refine G.iloadN H D7_111 (pc' := 112) rfl rfl ?_
              refine G.iconst H D7_112 (pc' := 113) rfl (v := 3) rfl ?_
              by_cases c34 : (x0 &&& 3) < 3
              ·
                refine G.icmpYes H D7_113 (XT.ii_lt_t c34) (by decide) (pc' := 121) rfl ?_
                refine G.iconst H D7_121 (pc' := 122) rfl (v := 1) rfl ?_
                refine G.goto H D7_122 (by decide) (pc' := 126) rfl ?_
                exact G.retN H (t := .boolean) rfl (by decide) D7_126 (so := []) all0 (by decide) (by decide) (Or.inl ⟨(own_same _ _).mpr ⟨(c1), (Or.inl c32), (Or.inl c33), (Or.inl c34)⟩, rfl, rfl, rfl⟩)
              ·
                refine G.icmpNo H D7_113 (pc' := 116) rfl (XT.ii_lt_f c34) ?_
                refine G.iload H D7_116 (pc' := 118) rfl rfl ?_
                refine G.ifNo H D7_118 (pc' := 121) rfl (by decide) ?_
                refine G.iconst H D7_121 (pc' := 122) rfl (v := 1) rfl ?_
                refine G.goto H D7_122 (by decide) (pc' := 126) rfl ?_
                exact G.retN H (t := .boolean) rfl (by decide) D7_126 (so := []) all0 (by decide) (by decide) (Or.inl ⟨(own_same _ _).mpr ⟨(c1), (Or.inl c32), (Or.inl c33), (Or.inr c31)⟩, rfl, rfl, rfl⟩)
            ·
              refine G.icmpNo H D7_103 (pc' := 106) rfl (XT.ii_lt_f c33) ?_
              refine G.iload H D7_106 (pc' := 108) rfl rfl ?_
              refine G.ifNo H D7_108 (pc' := 111) rfl (by decide) ?_
              refine G.iloadN H D7_111 (pc' := 112) rfl rfl ?_
              refine G.iconst H D7_112 (pc' := 113) rfl (v := 3) rfl ?_
              by_cases c35 : (x0 &&& 3) < 3
              ·
                refine G.icmpYes H D7_113 (XT.ii_lt_t c35) (by decide) (pc' := 121) rfl ?_
                refine G.iconst H D7_121 (pc' := 122) rfl (v := 1) rfl ?_
                refine G.goto H D7_122 (by decide) (pc' := 126) rfl ?_
                exact G.retN H (t := .boolean) rfl (by decide) D7_126 (so := []) all0 (by decide) (by decide) (Or.inl ⟨(own_same _ _).mpr ⟨(c1), (Or.inl c32), (Or.inr c30), (Or.inl c35)⟩, rfl, rfl, rfl⟩)
              ·
                refine G.icmpNo H D7_113 (pc' := 116) rfl (XT.ii_lt_f c35) ?_
                refine G.iload H D7_116 (pc' := 118) rfl rfl ?_
                refine G.ifNo H D7_118 (pc' := 121) rfl (by decide) ?_
                refine G.iconst H D7_121 (pc' := 122) rfl (v := 1) rfl ?_
                refine G.goto H D7_122 (by decide) (pc' := 126) rfl ?_
                exact G.retN H (t := .boolean) rfl (by decide) D7_126 (so := []) all0 (by decide) (by decide) (Or.inl ⟨(own_same _ _).mpr ⟨(c1), (Or.inl c32), (Or.inr c30), (Or.inr c31)⟩, rfl, rfl, rfl⟩)
          ·
            refine G.icmpNo H D7_93 (pc' := 96) rfl (XT.ii_lt_f c32) ?_
            refine G.iload H D7_96 (pc' := 98) rfl rfl ?_
            refine G.ifYes H D7_98 (by decide) (by decide) (pc' := 125) rfl ?_
            refine G.iconst H D7_125 (pc' := 126) rfl (v := 0) rfl ?_
            exact G.retN H (t := .boolean) rfl (by decide) D7_126 (so := []) all0 (by decide) (by decide) (Or.inr ⟨(fun qq => (((own_same _ _).mp qq).2.1).elim c32 c2), rfl, rfl, rfl⟩)
        ·
          refine G.icmpYes H D7_81 (XT.ii_ne_t c31) (by decide) (pc' := 88) rfl ?_
          refine G.iconst H D7_88 (pc' := 89) rfl (v := 0) rfl ?_
          refine G.istore H (L' := #[.val (.int x0), .val (.int x1), .val (.int (x0 &&& 3)), .val (.int (x1 &&& 3)), .val (.int 0), .val (.int 1), .val (.int 0)]) D7_89 (pc' := 91) rfl rfl ?_
          refine G.iloadN H D7_91 (pc' := 92) rfl rfl ?_
          refine G.iconst H D7_92 (pc' := 93) rfl (v := 1) rfl ?_
          by_cases c36 : (x0 &&& 3) < 1
          ·
            refine G.icmpYes H D7_93 (XT.ii_lt_t c36) (by decide) (pc' := 101) rfl ?_
            refine G.iloadN H D7_101 (pc' := 102) rfl rfl ?_
            refine G.iconst H D7_102 (pc' := 103) rfl (v := 2) rfl ?_
            by_cases c37 : (x0 &&& 3) < 2
            ·
              refine G.icmpYes H D7_103 (XT.ii_lt_t c37) (by decide) (pc' := 111) rfl ?_
              refine G.iloadN H D7_111 (pc' := 112) rfl rfl ?_
              refine G.iconst H D7_112 (pc' := 113) rfl (v := 3) rfl ?_
              by_cases c38 : (x0 &&& 3) < 3
              ·
                refine G.icmpYes H D7_113 (XT.ii_lt_t c38) (by decide) (pc' := 121) rfl ?_
                refine G.iconst H D7_121 (pc' := 122) rfl (v := 1) rfl ?_
                refine G.goto H D7_122 (by decide) (pc' := 126) rfl ?_
                exact G.retN H (t := .boolean) rfl (by decide) D7_126 (so := []) all0 (by decide) (by decide) (Or.inl ⟨(own_same _ _).mpr ⟨(c1), (Or.inl c36), (Or.inl c37), (Or.inl c38)⟩, rfl, rfl, rfl⟩)
              ·
                refine G.icmpNo H D7_113 (pc' := 116) rfl (XT.ii_lt_f c38) ?_
                refine G.iload H D7_116 (pc' := 118) rfl rfl ?_
                refine G.ifYes H D7_118 (by decide) (by decide) (pc' := 125) rfl ?_
                refine G.iconst H D7_125 (pc' := 126) rfl (v := 0) rfl ?_
                exact G.retN H (t := .boolean) rfl (by decide) D7_126 (so := []) all0 (by decide) (by decide) (Or.inr ⟨(fun qq => (((own_same _ _).mp qq).2.2.2).elim c38 c31), rfl, rfl, rfl⟩)
            ·
              refine G.icmpNo H D7_103 (pc' := 106) rfl (XT.ii_lt_f c37) ?_
              refine G.iload H D7_106 (pc' := 108) rfl rfl ?_
              refine G.ifNo H D7_108 (pc' := 111) rfl (by decide) ?_
              refine G.iloadN H D7_111 (pc' := 112) rfl rfl ?_
              refine G.iconst H D7_112 (pc' := 113) rfl (v := 3) rfl ?_
              by_cases c39 : (x0 &&& 3) < 3
              ·
                refine G.icmpYes H D7_113 (XT.ii_lt_t c39) (by decide) (pc' := 121) rfl ?_
                refine G.iconst H D7_121 (pc' := 122) rfl (v := 1) rfl ?_
                refine G.goto H D7_122 (by decide) (pc' := 126) rfl ?_
                exact G.retN H (t := .boolean) rfl (by decide) D7_126 (so := []) all0 (by decide) (by decide) (Or.inl ⟨(own_same _ _).mpr ⟨(c1), (Or.inl c36), (Or.inr c30), (Or.inl c39)⟩, rfl, rfl, rfl⟩)
              ·
                refine G.icmpNo H D7_113 (pc' := 116) rfl (XT.ii_lt_f c39) ?_
                refine G.iload H D7_116 (pc' := 118) rfl rfl ?_
                refine G.ifYes H D7_118 (by decide) (by decide) (pc' := 125) rfl ?_
                refine G.iconst H D7_125 (pc' := 126) rfl (v := 0) rfl ?_
                exact G.retN H (t := .boolean) rfl (by decide) D7_126 (so := []) all0 (by decide) (by decide) (Or.inr ⟨(fun qq => (((own_same _ _).mp qq).2.2.2).elim c39 c31), rfl, rfl, rfl⟩)
          ·
            refine G.icmpNo H D7_93 (pc' := 96) rfl (XT.ii_lt_f c36) ?_
            refine G.iload H D7_96 (pc' := 98) rfl rfl ?_
            refine G.ifYes H D7_98 (by decide) (by decide) (pc' := 125) rfl ?_
            refine G.iconst H D7_125 (pc' := 126) rfl (v := 0) rfl ?_
            exact G.retN H (t := .boolean) rfl (by decide) D7_126 (so := []) all0 (by decide) (by decide) (Or.inr ⟨(fun qq => (((own_same _ _).mp qq).2.1).elim c36 c2), rfl, rfl, rfl⟩)
      ·
        refine G.icmpYes H D7_55 (XT.ii_ne_t c30) (by decide) (pc' := 62) rfl ?_
        refine G.iconst H D7_62 (pc' := 63) rfl (v := 0) rfl ?_
        refine G.istore H (L' := #[.val (.int x0), .val (.int x1), .val (.int (x0 &&& 3)), .val (.int (x1 &&& 3)), .val (.int 0), .val (.int 0), .unset]) D7_63 (pc' := 65) rfl rfl ?_
        refine G.iloadN H D7_65 (pc' := 66) rfl rfl ?_
        refine G.bipush H D7_66 (pc' := 68) rfl (v := 18) rfl ?_
        refine G.iushr H D7_68 (pc' := 69) rfl ?_
        refine G.sipush H D7_69 (pc' := 72) rfl (v := 255) rfl ?_
        refine G.iand H D7_72 (pc' := 73) rfl ?_
        refine G.iloadN H D7_73 (pc' := 74) rfl rfl ?_
        refine G.bipush H D7_74 (pc' := 76) rfl (v := 18) rfl ?_
        refine G.iushr H D7_76 (pc' := 77) rfl ?_
        refine G.sipush H D7_77 (pc' := 80) rfl (v := 255) rfl ?_
        refine G.iand H D7_80 (pc' := 81) rfl ?_
        by_cases c40 : ((XT.ushr x0 18) &&& 255) = ((XT.ushr x1 18) &&& 255)
        ·
          refine G.icmpNo H D7_81 (pc' := 84) rfl (XT.ii_ne_f c40) ?_
          refine G.iconst H D7_84 (pc' := 85) rfl (v := 1) rfl ?_
          refine G.goto H D7_85 (by decide) (pc' := 89) rfl ?_
          refine G.istore H (L' := #[.val (.int x0), .val (.int x1), .val (.int (x0 &&& 3)), .val (.int (x1 &&& 3)), .val (.int 0), .val (.int 0), .val (.int 1)]) D7_89 (pc' := 91) rfl rfl ?_
          refine G.iloadN H D7_91 (pc' := 92) rfl rfl ?_
          refine G.iconst H D7_92 (pc' := 93) rfl (v := 1) rfl ?_
          by_cases c41 : (x0 &&& 3) < 1
          ·
            refine G.icmpYes H D7_93 (XT.ii_lt_t c41) (by decide) (pc' := 101) rfl ?_
            refine G.iloadN H D7_101 (pc' := 102) rfl rfl ?_
            refine G.iconst H D7_102 (pc' := 103) rfl (v := 2) rfl ?_
            by_cases c42 : (x0 &&& 3) < 2
            ·
              refine G.icmpYes H D7_103 (XT.ii_lt_t c42) (by decide) (pc' := 111) rfl ?_
              refine G.iloadN H D7_111 (pc' := 112) rfl rfl ?_
              refine G.iconst H D7_112 (pc' := 113) rfl (v := 3) rfl ?_
              by_cases c43 : (x0 &&& 3) < 3
              ·
                refine G.icmpYes H D7_113 (XT.ii_lt_t c43) (by decide) (pc' := 121) rfl ?_
                refine G.iconst H D7_121 (pc' := 122) rfl (v := 1) rfl ?_
                refine G.goto H D7_122 (by decide) (pc' := 126) rfl ?_
                exact G.retN H (t := .boolean) rfl (by decide) D7_126 (so := []) all0 (by decide) (by decide) (Or.inl ⟨(own_same _ _).mpr ⟨(c1), (Or.inl c41), (Or.inl c42), (Or.inl c43)⟩, rfl, rfl, rfl⟩)
              ·
                refine G.icmpNo H D7_113 (pc' := 116) rfl (XT.ii_lt_f c43) ?_
                refine G.iload H D7_116 (pc' := 118) rfl rfl ?_
                refine G.ifNo H D7_118 (pc' := 121) rfl (by decide) ?_
                refine G.iconst H D7_121 (pc' := 122) rfl (v := 1) rfl ?_
                refine G.goto H D7_122 (by decide) (pc' := 126) rfl ?_
                exact G.retN H (t := .boolean) rfl (by decide) D7_126 (so := []) all0 (by decide) (by decide) (Or.inl ⟨(own_same _ _).mpr ⟨(c1), (Or.inl c41), (Or.inl c42), (Or.inr c40)⟩, rfl, rfl, rfl⟩)
            ·
              refine G.icmpNo H D7_103 (pc' := 106) rfl (XT.ii_lt_f c42) ?_
              refine G.iload H D7_106 (pc' := 108) rfl rfl ?_
              refine G.ifYes H D7_108 (by decide) (by decide) (pc' := 125) rfl ?_
              refine G.iconst H D7_125 (pc' := 126) rfl (v := 0) rfl ?_
              exact G.retN H (t := .boolean) rfl (by decide) D7_126 (so := []) all0 (by decide) (by decide) (Or.inr ⟨(fun qq => (((own_same _ _).mp qq).2.2.1).elim c42 c30), rfl, rfl, rfl⟩)
          ·
            refine G.icmpNo H D7_93 (pc' := 96) rfl (XT.ii_lt_f c41) ?_
            refine G.iload H D7_96 (pc' := 98) rfl rfl ?_
            refine G.ifYes H D7_98 (by decide) (by decide) (pc' := 125) rfl ?_
            refine G.iconst H D7_125 (pc' := 126) rfl (v := 0) rfl ?_
            exact G.retN H (t := .boolean) rfl (by decide) D7_126 (so := []) all0 (by decide) (by decide) (Or.inr ⟨(fun qq => (((own_same _ _).mp qq).2.1).elim c41 c2), rfl, rfl, rfl⟩)
        ·
          refine G.icmpYes H D7_81 (XT.ii_ne_t c40) (by decide) (pc' := 88) rfl ?_
          refine G.iconst H D7_88 (pc' := 89) rfl (v := 0) rfl ?_
          refine G.istore H (L' := #[.val (.int x0), .val (.int x1), .val (.int (x0 &&& 3)), .val (.int (x1 &&& 3)), .val (.int 0), .val (.int 0), .val (.int 0)]) D7_89 (pc' := 91) rfl rfl ?_
          refine G.iloadN H D7_91 (pc' := 92) rfl rfl ?_
          refine G.iconst H D7_92 (pc' := 93) rfl (v := 1) rfl ?_
          by_cases c44 : (x0 &&& 3) < 1
          ·
            refine G.icmpYes H D7_93 (XT.ii_lt_t c44) (by decide) (pc' := 101) rfl ?_
            refine G.iloadN H D7_101 (pc' := 102) rfl rfl ?_
            refine G.iconst H D7_102 (pc' := 103) rfl (v := 2) rfl ?_
            by_cases c45 : (x0 &&& 3) < 2
            ·
              refine G.icmpYes H D7_103 (XT.ii_lt_t c45) (by decide) (pc' := 111) rfl ?_
              refine G.iloadN H D7_111 (pc' := 112) rfl rfl ?_
              refine G.iconst H D7_112 (pc' := 113) rfl (v := 3) rfl ?_
              by_cases c46 : (x0 &&& 3) < 3
              ·
                refine G.icmpYes H D7_113 (XT.ii_lt_t c46) (by decide) (pc' := 121) rfl ?_
                refine G.iconst H D7_121 (pc' := 122) rfl (v := 1) rfl ?_
                refine G.goto H D7_122 (by decide) (pc' := 126) rfl ?_
                exact G.retN H (t := .boolean) rfl (by decide) D7_126 (so := []) all0 (by decide) (by decide) (Or.inl ⟨(own_same _ _).mpr ⟨(c1), (Or.inl c44), (Or.inl c45), (Or.inl c46)⟩, rfl, rfl, rfl⟩)
              ·
                refine G.icmpNo H D7_113 (pc' := 116) rfl (XT.ii_lt_f c46) ?_
                refine G.iload H D7_116 (pc' := 118) rfl rfl ?_
                refine G.ifYes H D7_118 (by decide) (by decide) (pc' := 125) rfl ?_
                refine G.iconst H D7_125 (pc' := 126) rfl (v := 0) rfl ?_
                exact G.retN H (t := .boolean) rfl (by decide) D7_126 (so := []) all0 (by decide) (by decide) (Or.inr ⟨(fun qq => (((own_same _ _).mp qq).2.2.2).elim c46 c40), rfl, rfl, rfl⟩)
            ·
              refine G.icmpNo H D7_103 (pc' := 106) rfl (XT.ii_lt_f c45) ?_
              refine G.iload H D7_106 (pc' := 108) rfl rfl ?_
              refine G.ifYes H D7_108 (by decide) (by decide) (pc' := 125) rfl ?_
              refine G.iconst H D7_125 (pc' := 126) rfl (v := 0) rfl ?_
              exact G.retN H (t := .boolean) rfl (by decide) D7_126 (so := []) all0 (by decide) (by decide) (Or.inr ⟨(fun qq => (((own_same _ _).mp qq).2.2.1).elim c45 c30), rfl, rfl, rfl⟩)
          ·
            refine G.icmpNo H D7_93 (pc' := 96) rfl (XT.ii_lt_f c44) ?_
            refine G.iload H D7_96 (pc' := 98) rfl rfl ?_
            refine G.ifYes H D7_98 (by decide) (by decide) (pc' := 125) rfl ?_
            refine G.iconst H D7_125 (pc' := 126) rfl (v := 0) rfl ?_
            exact G.retN H (t := .boolean) rfl (by decide) D7_126 (so := []) all0 (by decide) (by decide) (Or.inr ⟨(fun qq => (((own_same _ _).mp qq).2.1).elim c44 c2), rfl, rfl, rfl⟩)
  ·
    refine G.icmpNo H D7_10 (pc' := 13) rfl (XT.ii_eq_f c1) ?_
    refine G.iconst H D7_13 (pc' := 14) rfl (v := 0) rfl ?_
    exact G.retN H (t := .boolean) rfl (by decide) D7_14 (so := []) all0 (by decide) (by decide) (Or.inr ⟨(fun qq => c1 ((own_same _ _).mp qq).1), rfl, rfl, rfl⟩)
set_option maxRecDepth 65536 in
set_option maxHeartbeats 40000000 in
theorem m14_sameSlot (V : Env1 Z a0 n0 uu0 uu1) (x0 : Int32) (x1 : Int32) (h0 : Heap) (hO : Old Z n0 h0) (cc0 : ((XT.ushr x0 26) &&& 1) = 0) (cc1 : ((XT.ushr x1 26) &&& 1) = 0) :
    Met Z a0 ELs True n0 l (⟨"com/example/schema_to_form/schematoform/record/ValuePathEqualsPinLaw", "sameSlot", "(II)Z"⟩ : MethodName) method_6_code 4 (Option.some FieldType.boolean) ({ frames := 1, cells := 0, slots := 0, locals := 18 } : Room) #[(.int x0), (.int x1)] h0 [] (fun v h so => ((strOf x0) = (strOf x1) ∧ v = some (.int 1) ∧ so = [] ∧ h0 = h) ∨ (¬ (strOf x0) = (strOf x1) ∧ v = some (.int 0) ∧ so = [] ∧ h0 = h)) := by
  refine Met.of (EWl V) (by first | decide +kernel | rfl) hO (L0 := #[.val (.int x0), .val (.int x1), .unset, .unset]) rfl ?_
  intro p e s m below meth c T H
  show Go p e below _ (T.setTop (mkF m 0 #[.val (.int x0), .val (.int x1), .unset, .unset] []))
  refine G.iloadN H D8_0 (pc' := 1) rfl rfl ?_
  refine G.callS H (m12_isNullSlot V x0 h0 H.old cc0) (wd7 V) (wd8 V) (wd5 V) (wd9 V) (by decide) (argsL := [(.int x0)]) (rest := []) (W := 0) rfl rfl (lenOf (pd_0) rfl) rfl rfl D8_1 (pc' := 4) rfl (by decide) (by decide) (by decide) (by decide) all0 ?_
  intro T1 h1_ v2 s3 H1 Q4
  obtain ⟨rfl, rfl, rfl⟩ := Q4
  show Go p e below _ (T1.setTop (mkF m 4 #[.val (.int x0), .val (.int x1), .unset, .unset] [(.int 0)]))
  refine G.istoreN H1 (L' := #[.val (.int x0), .val (.int x1), .val (.int 0), .unset]) D8_4 (pc' := 5) rfl rfl ?_
  refine G.iloadN H1 D8_5 (pc' := 6) rfl rfl ?_
  refine G.callS H1 (m12_isNullSlot V x1 h0 H1.old cc1) (wd7 V) (wd8 V) (wd5 V) (wd9 V) (by decide) (argsL := [(.int x1)]) (rest := []) (W := 0) rfl rfl (lenOf (pd_0) rfl) rfl rfl D8_6 (pc' := 9) rfl (by decide) (by decide) (by decide) (by decide) all0 ?_
  intro T5 h5_ v6 s7 H5 Q8
  obtain ⟨rfl, rfl, rfl⟩ := Q8
  show Go p e below _ (T5.setTop (mkF m 9 #[.val (.int x0), .val (.int x1), .val (.int 0), .unset] [(.int 0)]))
  refine G.istoreN H5 (L' := #[.val (.int x0), .val (.int x1), .val (.int 0), .val (.int 0)]) D8_9 (pc' := 10) rfl rfl ?_
  refine G.iloadN H5 D8_10 (pc' := 11) rfl rfl ?_
  refine G.ifNo H5 D8_11 (pc' := 14) rfl (by decide) ?_
  refine G.iloadN H5 D8_14 (pc' := 15) rfl rfl ?_
  refine G.ifYes H5 D8_15 (by decide) (by decide) (pc' := 32) rfl ?_
  refine G.iloadN H5 D8_32 (pc' := 33) rfl rfl ?_
  refine G.iloadN H5 D8_33 (pc' := 34) rfl rfl ?_
  refine G.callS H5 (m13_sameStr V x0 x1 h0 H5.old) (wd57 V) (wd58 V) (wd5 V) (wd59 V) (by decide) (argsL := [(.int x0), (.int x1)]) (rest := []) (W := 0) rfl rfl (lenOf (pd_7) rfl) rfl rfl D8_34 (pc' := 37) rfl (by decide) (by decide) (by decide) (by decide) all0 ?_
  intro T9 h9_ v10 s11 H9 Q12
  rcases Q12 with ⟨c13, rfl, rfl, rfl⟩ | ⟨c14, rfl, rfl, rfl⟩
  ·
    show Go p e below _ (T9.setTop (mkF m 37 #[.val (.int x0), .val (.int x1), .val (.int 0), .val (.int 0)] [(.int 1)]))
    exact G.retN H9 (t := .boolean) rfl (by decide) D8_37 (so := []) all0 (by decide) (by decide) (Or.inl ⟨c13, rfl, rfl, rfl⟩)
  ·
    show Go p e below _ (T9.setTop (mkF m 37 #[.val (.int x0), .val (.int x1), .val (.int 0), .val (.int 0)] [(.int 0)]))
    exact G.retN H9 (t := .boolean) rfl (by decide) D8_37 (so := []) all0 (by decide) (by decide) (Or.inr ⟨c14, rfl, rfl, rfl⟩)
set_option maxRecDepth 65536 in
set_option maxHeartbeats 40000000 in
theorem m15_equals (V : Env1 Z a0 n0 uu0 uu1) (p0 : Addr) (p1 : Addr) (p2 : Addr) (c0 : ClassId) (cs0 : List Int32) (p3 : Addr) (c1 : ClassId) (cs1 : List Int32) (h0 : Heap) (hO : Old Z n0 h0) (q0 : p0 ≠ p1) (f1 : Exa Z h0 p0 "java/lang/String") (f2 : Str Z h0 p0 p2 c0 cs0) (f3 : Str Z h0 p1 p3 c1 cs1) (cl4 : cs0 = cs1) :
    Met Z a0 ELs True n0 l (⟨"java/util/Objects", "equals", "(Ljava/lang/Object;Ljava/lang/Object;)Z"⟩ : MethodName) jdk_31_method_2_code 2 (Option.some FieldType.boolean) ({ frames := 2, cells := 0, slots := 0, locals := 28 } : Room) #[(.ref p0), (.ref p1)] h0 [] (fun v h so => (cs0 = cs1 ∧ v = some (.int 1) ∧ so = [] ∧ h0 = h)) := by
  refine Met.of (EWl V) (by first | decide +kernel | rfl) hO (L0 := #[.val (.ref p0), .val (.ref p1)]) rfl ?_
  intro p e s m below meth c T H
  show Go p e below _ (T.setTop (mkF m 0 #[.val (.ref p0), .val (.ref p1)] []))
  refine G.aloadN H D0_0 (pc' := 1) rfl rfl rfl ?_
  refine G.aloadN H D0_1 (pc' := 2) rfl rfl rfl ?_
  refine G.acmpNo H D0_2 (pc' := 5) rfl rfl rfl (XT.aa_eq_f (fun q => q0 (Value.ref.inj q))) ?_
  refine G.aloadN H D0_5 (pc' := 6) rfl rfl rfl ?_
  refine G.ifnullNo H D0_6 (pc' := 9) rfl ?_
  refine G.aloadN H D0_9 (pc' := 10) rfl rfl rfl ?_
  refine G.aloadN H D0_10 (pc' := 11) rfl rfl rfl ?_
  refine G.strEq H (strwEq V) (wd14 V) (yc := "java/lang/Object") (wd71 V) (by decide) (wd72 V) (nf_rt (wd86 V)) (wd74 V) (wd75 V) f2 f3 (hv0 V) (hv1 V) (rest := []) (W := 0) rfl rfl D0_11 (pc' := 14) rfl (by decide) (by decide) (by decide) (by decide) ?_ ?_
  ·
    intro T1 H2 c3
    refine G.ifNo H2 D0_14 (pc' := 17) rfl (by decide) ?_
    refine G.iconst H2 D0_17 (pc' := 18) rfl (v := 1) rfl ?_
    refine G.goto H2 D0_18 (by decide) (pc' := 22) rfl ?_
    exact G.retN H2 (t := .boolean) rfl (by decide) D0_22 (so := []) all0 (by decide) (by decide) ⟨c3, rfl, rfl, rfl⟩
  ·
    intro T4 H5 c6
    exact absurd cl4 c6
set_option maxRecDepth 65536 in
set_option maxHeartbeats 40000000 in
theorem m16_equals (V : Env1 Z a0 n0 uu0 uu1) (p0 : Addr) (p1 : Addr) (p2 : Addr) (p3 : Addr) (p4 : Addr) (c0 : ClassId) (cs0 : List Int32) (p5 : Addr) (c1 : ClassId) (cs1 : List Int32) (p6 : Addr) (p7 : Addr) (p8 : Addr) (c2 : ClassId) (cs2 : List Int32) (p9 : Addr) (c3 : ClassId) (cs3 : List Int32) (h0 : Heap) (hO : Old Z n0 h0) (f0 : Exa Z h0 p1 "com/example/schema_to_form/schematoform/record/ValuePath") (f1 : Fld Z h0 p0 "com/example/schema_to_form/schematoform/record/ValuePath" "slot" "Ljava/lang/String;" (.ref p2)) (f2 : Fld Z h0 p1 "com/example/schema_to_form/schematoform/record/ValuePath" "slot" "Ljava/lang/String;" (.ref p3)) (q3 : p2 ≠ p3) (f4 : Exa Z h0 p2 "java/lang/String") (f5 : Str Z h0 p2 p4 c0 cs0) (f6 : Str Z h0 p3 p5 c1 cs1) (cl7 : cs0 = cs1) (f8 : Fld Z h0 p0 "com/example/schema_to_form/schematoform/record/ValuePath" "name" "Ljava/lang/String;" (.ref p6)) (f9 : Fld Z h0 p1 "com/example/schema_to_form/schematoform/record/ValuePath" "name" "Ljava/lang/String;" (.ref p7)) (f10 : Str Z h0 p6 p8 c2 cs2) (f11 : Str Z h0 p7 p9 c3 cs3) (cl12 : cs2 = cs3) :
    Met Z a0 ELs True n0 l (⟨"com/example/schema_to_form/schematoform/record/ValuePath", "equals", "(Ljava/lang/Object;)Z"⟩ : MethodName) prog_7_method_4_code 2 (Option.some FieldType.boolean) ({ frames := 3, cells := 0, slots := 0, locals := 41 } : Room) #[(.ref p0), (.ref p1)] h0 [] (fun v h so => (cs0 = cs1 ∧ cs2 = cs3 ∧ v = some (.int 1) ∧ so = [] ∧ h0 = h)) := by
  refine Met.of (EWl V) (by first | decide +kernel | rfl) hO (L0 := #[.val (.ref p0), .val (.ref p1)]) rfl ?_
  intro p e s m below meth c T H
  show Go p e below _ (T.setTop (mkF m 0 #[.val (.ref p0), .val (.ref p1)] []))
  refine G.aloadN H D10_0 (pc' := 1) rfl rfl rfl ?_
  refine G.instY H (wd65 V) (Ins.self f0) D10_1 (pc' := 4) rfl ?_
  intro T1 H2
  refine G.ifNo H2 D10_4 (pc' := 7) rfl (by decide) ?_
  refine G.aloadN H2 D10_7 (pc' := 8) rfl rfl rfl ?_
  refine G.getF H2 (wd50 V) Via.refl f1 D10_8 (pc' := 11) rfl ?_
  intro T3 H4
  refine G.aloadN H4 D10_11 (pc' := 12) rfl rfl rfl ?_
  refine G.castY H4 (wd65 V) (Ins.self f0) D10_12 (pc' := 15) rfl ?_
  intro T5 H6
  refine G.getF H6 (wd50 V) Via.refl f2 D10_15 (pc' := 18) rfl ?_
  intro T7 H8
  refine G.callS H8 (m15_equals V p2 p3 p4 c0 cs0 p5 c1 cs1 h0 H8.old q3 f4 f5 f6 cl7) (wd67 V) (wd68 V) (wd69 V) (wd70 V) (by decide) (argsL := [(.ref p2), (.ref p3)]) (rest := []) (W := 0) rfl rfl (lenOf (pd_6) rfl) rfl rfl D10_18 (pc' := 21) rfl (by decide) (by decide) (by decide) (by decide) all0 ?_
  intro T9 h9_ v10 s11 H9 Q12
  obtain ⟨c13, rfl, rfl, rfl⟩ := Q12
  show Go p e below _ (T9.setTop (mkF m 21 #[.val (.ref p0), .val (.ref p1)] [(.int 1)]))
  refine G.ifNo H9 D10_21 (pc' := 24) rfl (by decide) ?_
  refine G.aloadN H9 D10_24 (pc' := 25) rfl rfl rfl ?_
  refine G.getF H9 (wd52 V) Via.refl f8 D10_25 (pc' := 28) rfl ?_
  intro T14 H15
  refine G.aloadN H15 D10_28 (pc' := 29) rfl rfl rfl ?_
  refine G.castY H15 (wd65 V) (Ins.self f0) D10_29 (pc' := 32) rfl ?_
  intro T16 H17
  refine G.getF H17 (wd52 V) Via.refl f9 D10_32 (pc' := 35) rfl ?_
  intro T18 H19
  refine G.strEq H19 (strwEq V) (wd14 V) (yc := "java/lang/String") (wd82 V) (by decide) (wd83 V) (nf_sel (wd84 V)) (wd84 V) (wd75 V) f10 f11 (hv0 V) (hv1 V) (rest := []) (W := 0) rfl rfl D10_35 (pc' := 38) rfl (by decide) (by decide) (by decide) (by decide) ?_ ?_
  ·
    intro T20 H21 c22
    refine G.ifNo H21 D10_38 (pc' := 41) rfl (by decide) ?_
    refine G.iconst H21 D10_41 (pc' := 42) rfl (v := 1) rfl ?_
    refine G.goto H21 D10_42 (by decide) (pc' := 46) rfl ?_
    exact G.retN H21 (t := .boolean) rfl (by decide) D10_46 (so := []) all0 (by decide) (by decide) ⟨c13, c22, rfl, rfl, rfl⟩
  ·
    intro T23 H24 c25
    exact absurd cl12 c25
set_option maxRecDepth 65536 in
set_option maxHeartbeats 40000000 in
theorem m17_equals (V : Env1 Z a0 n0 uu0 uu1) (p0 : Addr) (p1 : Addr) (p2 : Addr) (p3 : Addr) (p4 : Addr) (c0 : ClassId) (cs0 : List Int32) (p5 : Addr) (c1 : ClassId) (cs1 : List Int32) (p6 : Addr) (p7 : Addr) (p8 : Addr) (c2 : ClassId) (cs2 : List Int32) (p9 : Addr) (c3 : ClassId) (cs3 : List Int32) (h0 : Heap) (hO : Old Z n0 h0) (f0 : Exa Z h0 p1 "com/example/schema_to_form/schematoform/record/ValuePath") (f1 : Fld Z h0 p0 "com/example/schema_to_form/schematoform/record/ValuePath" "slot" "Ljava/lang/String;" (.ref p2)) (f2 : Fld Z h0 p1 "com/example/schema_to_form/schematoform/record/ValuePath" "slot" "Ljava/lang/String;" (.ref p3)) (q3 : p2 ≠ p3) (f4 : Exa Z h0 p2 "java/lang/String") (f5 : Str Z h0 p2 p4 c0 cs0) (f6 : Str Z h0 p3 p5 c1 cs1) (cl7 : cs0 = cs1) (f8 : Fld Z h0 p0 "com/example/schema_to_form/schematoform/record/ValuePath" "name" "Ljava/lang/String;" (.ref p6)) (f9 : Fld Z h0 p1 "com/example/schema_to_form/schematoform/record/ValuePath" "name" "Ljava/lang/String;" (.ref p7)) (f10 : Str Z h0 p6 p8 c2 cs2) (f11 : Str Z h0 p7 p9 c3 cs3) (cl12 : ¬ cs2 = cs3) :
    Met Z a0 ELs True n0 l (⟨"com/example/schema_to_form/schematoform/record/ValuePath", "equals", "(Ljava/lang/Object;)Z"⟩ : MethodName) prog_7_method_4_code 2 (Option.some FieldType.boolean) ({ frames := 3, cells := 0, slots := 0, locals := 41 } : Room) #[(.ref p0), (.ref p1)] h0 [] (fun v h so => (cs0 = cs1 ∧ ¬ cs2 = cs3 ∧ v = some (.int 0) ∧ so = [] ∧ h0 = h)) := by
  refine Met.of (EWl V) (by first | decide +kernel | rfl) hO (L0 := #[.val (.ref p0), .val (.ref p1)]) rfl ?_
  intro p e s m below meth c T H
  show Go p e below _ (T.setTop (mkF m 0 #[.val (.ref p0), .val (.ref p1)] []))
  refine G.aloadN H D10_0 (pc' := 1) rfl rfl rfl ?_
  refine G.instY H (wd65 V) (Ins.self f0) D10_1 (pc' := 4) rfl ?_
  intro T1 H2
  refine G.ifNo H2 D10_4 (pc' := 7) rfl (by decide) ?_
  refine G.aloadN H2 D10_7 (pc' := 8) rfl rfl rfl ?_
  refine G.getF H2 (wd50 V) Via.refl f1 D10_8 (pc' := 11) rfl ?_
  intro T3 H4
  refine G.aloadN H4 D10_11 (pc' := 12) rfl rfl rfl ?_
  refine G.castY H4 (wd65 V) (Ins.self f0) D10_12 (pc' := 15) rfl ?_
  intro T5 H6
  refine G.getF H6 (wd50 V) Via.refl f2 D10_15 (pc' := 18) rfl ?_
  intro T7 H8
  refine G.callS H8 (m15_equals V p2 p3 p4 c0 cs0 p5 c1 cs1 h0 H8.old q3 f4 f5 f6 cl7) (wd67 V) (wd68 V) (wd69 V) (wd70 V) (by decide) (argsL := [(.ref p2), (.ref p3)]) (rest := []) (W := 0) rfl rfl (lenOf (pd_6) rfl) rfl rfl D10_18 (pc' := 21) rfl (by decide) (by decide) (by decide) (by decide) all0 ?_
  intro T9 h9_ v10 s11 H9 Q12
  obtain ⟨c13, rfl, rfl, rfl⟩ := Q12
  show Go p e below _ (T9.setTop (mkF m 21 #[.val (.ref p0), .val (.ref p1)] [(.int 1)]))
  refine G.ifNo H9 D10_21 (pc' := 24) rfl (by decide) ?_
  refine G.aloadN H9 D10_24 (pc' := 25) rfl rfl rfl ?_
  refine G.getF H9 (wd52 V) Via.refl f8 D10_25 (pc' := 28) rfl ?_
  intro T14 H15
  refine G.aloadN H15 D10_28 (pc' := 29) rfl rfl rfl ?_
  refine G.castY H15 (wd65 V) (Ins.self f0) D10_29 (pc' := 32) rfl ?_
  intro T16 H17
  refine G.getF H17 (wd52 V) Via.refl f9 D10_32 (pc' := 35) rfl ?_
  intro T18 H19
  refine G.strEq H19 (strwEq V) (wd14 V) (yc := "java/lang/String") (wd82 V) (by decide) (wd83 V) (nf_sel (wd84 V)) (wd84 V) (wd75 V) f10 f11 (hv0 V) (hv1 V) (rest := []) (W := 0) rfl rfl D10_35 (pc' := 38) rfl (by decide) (by decide) (by decide) (by decide) ?_ ?_
  ·
    intro T20 H21 c22
    exact absurd c22 cl12
  ·
    intro T23 H24 c25
    refine G.ifYes H24 D10_38 (by decide) (by decide) (pc' := 45) rfl ?_
    refine G.iconst H24 D10_45 (pc' := 46) rfl (v := 0) rfl ?_
    exact G.retN H24 (t := .boolean) rfl (by decide) D10_46 (so := []) all0 (by decide) (by decide) ⟨c13, c25, rfl, rfl, rfl⟩
set_option maxRecDepth 65536 in
set_option maxHeartbeats 40000000 in
theorem m18_equals (V : Env1 Z a0 n0 uu0 uu1) (p0 : Addr) (p1 : Addr) (p2 : Addr) (c0 : ClassId) (cs0 : List Int32) (p3 : Addr) (c1 : ClassId) (cs1 : List Int32) (h0 : Heap) (hO : Old Z n0 h0) (q0 : p0 ≠ p1) (f1 : Exa Z h0 p0 "java/lang/String") (f2 : Str Z h0 p0 p2 c0 cs0) (f3 : Str Z h0 p1 p3 c1 cs1) (cl4 : ¬ cs0 = cs1) :
    Met Z a0 ELs True n0 l (⟨"java/util/Objects", "equals", "(Ljava/lang/Object;Ljava/lang/Object;)Z"⟩ : MethodName) jdk_31_method_2_code 2 (Option.some FieldType.boolean) ({ frames := 2, cells := 0, slots := 0, locals := 28 } : Room) #[(.ref p0), (.ref p1)] h0 [] (fun v h so => (¬ cs0 = cs1 ∧ v = some (.int 0) ∧ so = [] ∧ h0 = h)) := by
  refine Met.of (EWl V) (by first | decide +kernel | rfl) hO (L0 := #[.val (.ref p0), .val (.ref p1)]) rfl ?_
  intro p e s m below meth c T H
  show Go p e below _ (T.setTop (mkF m 0 #[.val (.ref p0), .val (.ref p1)] []))
  refine G.aloadN H D0_0 (pc' := 1) rfl rfl rfl ?_
  refine G.aloadN H D0_1 (pc' := 2) rfl rfl rfl ?_
  refine G.acmpNo H D0_2 (pc' := 5) rfl rfl rfl (XT.aa_eq_f (fun q => q0 (Value.ref.inj q))) ?_
  refine G.aloadN H D0_5 (pc' := 6) rfl rfl rfl ?_
  refine G.ifnullNo H D0_6 (pc' := 9) rfl ?_
  refine G.aloadN H D0_9 (pc' := 10) rfl rfl rfl ?_
  refine G.aloadN H D0_10 (pc' := 11) rfl rfl rfl ?_
  refine G.strEq H (strwEq V) (wd14 V) (yc := "java/lang/Object") (wd71 V) (by decide) (wd72 V) (nf_rt (wd86 V)) (wd74 V) (wd75 V) f2 f3 (hv0 V) (hv1 V) (rest := []) (W := 0) rfl rfl D0_11 (pc' := 14) rfl (by decide) (by decide) (by decide) (by decide) ?_ ?_
  ·
    intro T1 H2 c3
    exact absurd c3 cl4
  ·
    intro T4 H5 c6
    refine G.ifYes H5 D0_14 (by decide) (by decide) (pc' := 21) rfl ?_
    refine G.iconst H5 D0_21 (pc' := 22) rfl (v := 0) rfl ?_
    exact G.retN H5 (t := .boolean) rfl (by decide) D0_22 (so := []) all0 (by decide) (by decide) ⟨c6, rfl, rfl, rfl⟩
set_option maxRecDepth 65536 in
set_option maxHeartbeats 40000000 in
theorem m19_equals (V : Env1 Z a0 n0 uu0 uu1) (p0 : Addr) (p1 : Addr) (p2 : Addr) (p3 : Addr) (p4 : Addr) (c0 : ClassId) (cs0 : List Int32) (p5 : Addr) (c1 : ClassId) (cs1 : List Int32) (h0 : Heap) (hO : Old Z n0 h0) (f0 : Exa Z h0 p1 "com/example/schema_to_form/schematoform/record/ValuePath") (f1 : Fld Z h0 p0 "com/example/schema_to_form/schematoform/record/ValuePath" "slot" "Ljava/lang/String;" (.ref p2)) (f2 : Fld Z h0 p1 "com/example/schema_to_form/schematoform/record/ValuePath" "slot" "Ljava/lang/String;" (.ref p3)) (q3 : p2 ≠ p3) (f4 : Exa Z h0 p2 "java/lang/String") (f5 : Str Z h0 p2 p4 c0 cs0) (f6 : Str Z h0 p3 p5 c1 cs1) (cl7 : ¬ cs0 = cs1) :
    Met Z a0 ELs True n0 l (⟨"com/example/schema_to_form/schematoform/record/ValuePath", "equals", "(Ljava/lang/Object;)Z"⟩ : MethodName) prog_7_method_4_code 2 (Option.some FieldType.boolean) ({ frames := 3, cells := 0, slots := 0, locals := 41 } : Room) #[(.ref p0), (.ref p1)] h0 [] (fun v h so => (¬ cs0 = cs1 ∧ v = some (.int 0) ∧ so = [] ∧ h0 = h)) := by
  refine Met.of (EWl V) (by first | decide +kernel | rfl) hO (L0 := #[.val (.ref p0), .val (.ref p1)]) rfl ?_
  intro p e s m below meth c T H
  show Go p e below _ (T.setTop (mkF m 0 #[.val (.ref p0), .val (.ref p1)] []))
  refine G.aloadN H D10_0 (pc' := 1) rfl rfl rfl ?_
  refine G.instY H (wd65 V) (Ins.self f0) D10_1 (pc' := 4) rfl ?_
  intro T1 H2
  refine G.ifNo H2 D10_4 (pc' := 7) rfl (by decide) ?_
  refine G.aloadN H2 D10_7 (pc' := 8) rfl rfl rfl ?_
  refine G.getF H2 (wd50 V) Via.refl f1 D10_8 (pc' := 11) rfl ?_
  intro T3 H4
  refine G.aloadN H4 D10_11 (pc' := 12) rfl rfl rfl ?_
  refine G.castY H4 (wd65 V) (Ins.self f0) D10_12 (pc' := 15) rfl ?_
  intro T5 H6
  refine G.getF H6 (wd50 V) Via.refl f2 D10_15 (pc' := 18) rfl ?_
  intro T7 H8
  refine G.callS H8 (m18_equals V p2 p3 p4 c0 cs0 p5 c1 cs1 h0 H8.old q3 f4 f5 f6 cl7) (wd67 V) (wd68 V) (wd69 V) (wd70 V) (by decide) (argsL := [(.ref p2), (.ref p3)]) (rest := []) (W := 0) rfl rfl (lenOf (pd_6) rfl) rfl rfl D10_18 (pc' := 21) rfl (by decide) (by decide) (by decide) (by decide) all0 ?_
  intro T9 h9_ v10 s11 H9 Q12
  obtain ⟨c13, rfl, rfl, rfl⟩ := Q12
  show Go p e below _ (T9.setTop (mkF m 21 #[.val (.ref p0), .val (.ref p1)] [(.int 0)]))
  refine G.ifYes H9 D10_21 (by decide) (by decide) (pc' := 45) rfl ?_
  refine G.iconst H9 D10_45 (pc' := 46) rfl (v := 0) rfl ?_
  exact G.retN H9 (t := .boolean) rfl (by decide) D10_46 (so := []) all0 (by decide) (by decide) ⟨c13, rfl, rfl, rfl⟩
set_option maxRecDepth 65536 in
set_option maxHeartbeats 40000000 in
theorem m20_init (V : Env1 Z a0 n0 uu0 uu1) (p0 : Addr) (p1 : Addr) (h0 : Heap) (hO : Old Z n0 h0) (f0 : Exa Z h0 p0 "com/example/schema_to_form/schematoform/record/ValuePath") (f1 : Fld Z h0 p0 "com/example/schema_to_form/schematoform/record/ValuePath" "slot" "Ljava/lang/String;" .null) (g2 : n0 ≤ p0) (f3 : Fld Z h0 p0 "com/example/schema_to_form/schematoform/record/ValuePath" "name" "Ljava/lang/String;" .null) :
    Met Z a0 ELs True n0 l (⟨"com/example/schema_to_form/schematoform/record/ValuePath", "<init>", "(Ljava/lang/String;Ljava/lang/String;)V"⟩ : MethodName) prog_7_method_1_code 3 (Option.none : Option FieldType) ({ frames := 1, cells := 0, slots := 0, locals := 12 } : Room) #[(.ref p0), .null, (.ref p1)] h0 [] (fun v h so => (v = none ∧ so = [] ∧ Keep h0 h [p0] ∧ (∀ (O n d : String) (w : Value), Fld Z h0 p0 O n d w → RoadKit.slotOf Z O n d ≠ RoadKit.slotOf Z "com/example/schema_to_form/schematoform/record/ValuePath" "slot" "Ljava/lang/String;" → RoadKit.slotOf Z O n d ≠ RoadKit.slotOf Z "com/example/schema_to_form/schematoform/record/ValuePath" "name" "Ljava/lang/String;" → Fld Z h p0 O n d w) ∧ Exa Z h p0 "com/example/schema_to_form/schematoform/record/ValuePath" ∧ Fld Z h p0 "com/example/schema_to_form/schematoform/record/ValuePath" "slot" "Ljava/lang/String;" .null ∧ Fld Z h p0 "com/example/schema_to_form/schematoform/record/ValuePath" "name" "Ljava/lang/String;" (.ref p1))) := by
  refine Met.of (EWl V) (by first | decide +kernel | rfl) hO (L0 := #[.val (.ref p0), .val .null, .val (.ref p1)]) rfl ?_
  intro p e s m below meth c T H
  show Go p e below _ (T.setTop (mkF m 0 #[.val (.ref p0), .val .null, .val (.ref p1)] []))
  refine G.aloadN H D9_0 (pc' := 1) rfl rfl rfl ?_
  refine G.initO H (wd49 V) (wd25 V) (wd26 V) rfl D9_1 (pc' := 4) rfl (by decide) (W := 0) rfl (by decide) ?_
  intro T1 H2
  refine G.aloadN H2 D9_4 (pc' := 5) rfl rfl rfl ?_
  refine G.aloadN H2 D9_5 (pc' := 6) rfl rfl rfl ?_
  refine G.putF H2 (wd50 V) Via.refl f1 f0 (Or.inr ⟨(wd51 V), rfl, rfl⟩) (wd1 V) (ty := (.object "java/lang/String")) (by decide) rfl rfl g2 (Sf.exa f0) D9_6 (pc' := 9) rfl ?_
  intro T3 h3_ H3 W4
  have F5 : Fld Z h3_ p0 "com/example/schema_to_form/schematoform/record/ValuePath" "slot" "Ljava/lang/String;" .null := Fld.same W4 f1
  refine G.aloadN H3 D9_9 (pc' := 10) rfl rfl rfl ?_
  refine G.aloadN H3 D9_10 (pc' := 11) rfl rfl rfl ?_
  have F6 := (Exa.wr W4 f0)
  have F7 := (Fld.other W4 f3 (Or.inr (slot_ne (Or.inr (wd53 V)) (Or.inr (wd51 V)) (by decide) (t := (.object "java/lang/String")) (t' := (.object "java/lang/String")) (by decide) (by decide))))
  refine G.putF H3 (wd52 V) Via.refl F7 F6 (Or.inr ⟨(wd53 V), rfl, rfl⟩) (wd1 V) (ty := (.object "java/lang/String")) (by decide) rfl rfl g2 (Sf.exa F6) D9_11 (pc' := 14) rfl ?_
  intro T8 h8_ H8 W9
  have F10 : Fld Z h8_ p0 "com/example/schema_to_form/schematoform/record/ValuePath" "name" "Ljava/lang/String;" (.ref p1) := Fld.same W9 F7
  have F11 := (Exa.wr W9 F6)
  have F12 := (Fld.other W9 F5 (Or.inr (slot_ne (Or.inr (wd51 V)) (Or.inr (wd53 V)) (by decide) (t := (.object "java/lang/String")) (t' := (.object "java/lang/String")) (by decide) (by decide))))
  have K13 : Keep h0 h8_ [p0] := (Keep.wr (Keep.wr (Keep.refl h0 [p0]) W4 (Or.inl (mG (i := 0) rfl))) W9 (Or.inl (mG (i := 0) rfl)))
  exact G.retV H8 rfl D9_14 (so := []) all0 (by decide) (by decide) ⟨rfl, rfl, K13, (fun O n d w F hn0 hn1 => (Fld.other W9 (Fld.other W4 F (Or.inr hn0)) (Or.inr hn1))), F11, F12, F10⟩
set_option maxRecDepth 65536 in
set_option maxHeartbeats 40000000 in
theorem m21_isNullSlot (V : Env1 Z a0 n0 uu0 uu1) (x0 : Int32) (h0 : Heap) (hO : Old Z n0 h0) (cc0 : ¬ ((XT.ushr x0 26) &&& 1) = 0) :
    Met Z a0 ELs True n0 l (⟨"com/example/schema_to_form/schematoform/record/ValuePathEqualsPinLaw", "isNullSlot", "(I)Z"⟩ : MethodName) method_3_code 1 (Option.some FieldType.boolean) ({ frames := 0, cells := 0, slots := 0, locals := 0 } : Room) #[(.int x0)] h0 [] (fun v h so => (v = some (.int 1) ∧ so = [] ∧ h0 = h)) := by
  refine Met.of (EWl V) (by first | decide +kernel | rfl) hO (L0 := #[.val (.int x0)]) rfl ?_
  intro p e s m below meth c T H
  show Go p e below _ (T.setTop (mkF m 0 #[.val (.int x0)] []))
  refine G.iloadN H D5_0 (pc' := 1) rfl rfl ?_
  refine G.bipush H D5_1 (pc' := 3) rfl (v := 26) rfl ?_
  refine G.iushr H D5_3 (pc' := 4) rfl ?_
  refine G.iconst H D5_4 (pc' := 5) rfl (v := 1) rfl ?_
  refine G.iand H D5_5 (pc' := 6) rfl ?_
  refine G.ifNo H D5_6 (pc' := 9) rfl (XT.i0_eq_f cc0) ?_
  refine G.iconst H D5_9 (pc' := 10) rfl (v := 1) rfl ?_
  refine G.goto H D5_10 (by decide) (pc' := 14) rfl ?_
  exact G.retN H (t := .boolean) rfl (by decide) D5_14 (so := []) all0 (by decide) (by decide) ⟨rfl, rfl, rfl⟩
set_option maxRecDepth 65536 in
set_option maxHeartbeats 40000000 in
theorem m22_sameSlot (V : Env1 Z a0 n0 uu0 uu1) (x0 : Int32) (x1 : Int32) (h0 : Heap) (hO : Old Z n0 h0) (cc0 : ((XT.ushr x0 26) &&& 1) = 0) (cc1 : ¬ ((XT.ushr x1 26) &&& 1) = 0) :
    Met Z a0 ELs True n0 l (⟨"com/example/schema_to_form/schematoform/record/ValuePathEqualsPinLaw", "sameSlot", "(II)Z"⟩ : MethodName) method_6_code 4 (Option.some FieldType.boolean) ({ frames := 1, cells := 0, slots := 0, locals := 12 } : Room) #[(.int x0), (.int x1)] h0 [] (fun v h so => (v = some (.int 0) ∧ so = [] ∧ h0 = h)) := by
  refine Met.of (EWl V) (by first | decide +kernel | rfl) hO (L0 := #[.val (.int x0), .val (.int x1), .unset, .unset]) rfl ?_
  intro p e s m below meth c T H
  show Go p e below _ (T.setTop (mkF m 0 #[.val (.int x0), .val (.int x1), .unset, .unset] []))
  refine G.iloadN H D8_0 (pc' := 1) rfl rfl ?_
  refine G.callS H (m12_isNullSlot V x0 h0 H.old cc0) (wd7 V) (wd8 V) (wd5 V) (wd9 V) (by decide) (argsL := [(.int x0)]) (rest := []) (W := 0) rfl rfl (lenOf (pd_0) rfl) rfl rfl D8_1 (pc' := 4) rfl (by decide) (by decide) (by decide) (by decide) all0 ?_
  intro T1 h1_ v2 s3 H1 Q4
  obtain ⟨rfl, rfl, rfl⟩ := Q4
  show Go p e below _ (T1.setTop (mkF m 4 #[.val (.int x0), .val (.int x1), .unset, .unset] [(.int 0)]))
  refine G.istoreN H1 (L' := #[.val (.int x0), .val (.int x1), .val (.int 0), .unset]) D8_4 (pc' := 5) rfl rfl ?_
  refine G.iloadN H1 D8_5 (pc' := 6) rfl rfl ?_
  refine G.callS H1 (m21_isNullSlot V x1 h0 H1.old cc1) (wd7 V) (wd8 V) (wd5 V) (wd9 V) (by decide) (argsL := [(.int x1)]) (rest := []) (W := 0) rfl rfl (lenOf (pd_0) rfl) rfl rfl D8_6 (pc' := 9) rfl (by decide) (by decide) (by decide) (by decide) all0 ?_
  intro T5 h5_ v6 s7 H5 Q8
  obtain ⟨rfl, rfl, rfl⟩ := Q8
  show Go p e below _ (T5.setTop (mkF m 9 #[.val (.int x0), .val (.int x1), .val (.int 0), .unset] [(.int 1)]))
  refine G.istoreN H5 (L' := #[.val (.int x0), .val (.int x1), .val (.int 0), .val (.int 1)]) D8_9 (pc' := 10) rfl rfl ?_
  refine G.iloadN H5 D8_10 (pc' := 11) rfl rfl ?_
  refine G.ifNo H5 D8_11 (pc' := 14) rfl (by decide) ?_
  refine G.iloadN H5 D8_14 (pc' := 15) rfl rfl ?_
  refine G.ifNo H5 D8_15 (pc' := 18) rfl (by decide) ?_
  refine G.iloadN H5 D8_18 (pc' := 19) rfl rfl ?_
  refine G.ifYes H5 D8_19 (by decide) (by decide) (pc' := 30) rfl ?_
  refine G.iconst H5 D8_30 (pc' := 31) rfl (v := 0) rfl ?_
  exact G.retN H5 (t := .boolean) rfl (by decide) D8_31 (so := []) all0 (by decide) (by decide) ⟨rfl, rfl, rfl⟩
set_option maxRecDepth 65536 in
set_option maxHeartbeats 40000000 in
theorem m23_equals (V : Env1 Z a0 n0 uu0 uu1) (p0 : Addr) (h0 : Heap) (hO : Old Z n0 h0)  :
    Met Z a0 ELs True n0 l (⟨"java/lang/String", "equals", "(Ljava/lang/Object;)Z"⟩ : MethodName) jdk_42_method_66_code 3 (Option.some FieldType.boolean) ({ frames := 0, cells := 0, slots := 0, locals := 0 } : Room) #[(.ref p0), .null] h0 [] (fun v h so => (v = some (.int 0) ∧ so = [] ∧ h0 = h)) := by
  refine Met.of (EWl V) (by first | decide +kernel | rfl) hO (L0 := #[.val (.ref p0), .val .null, .unset]) rfl ?_
  intro p e s m below meth c T H
  show Go p e below _ (T.setTop (mkF m 0 #[.val (.ref p0), .val .null, .unset] []))
  refine G.aloadN H D3_0 (pc' := 1) rfl rfl rfl ?_
  refine G.aloadN H D3_1 (pc' := 2) rfl rfl rfl ?_
  refine G.acmpYes H D3_2 rfl rfl (XT.aa_ne_t (fun q => nomatch q)) (by decide) (pc' := 7) rfl ?_
  refine G.aloadN H D3_7 (pc' := 8) rfl rfl rfl ?_
  refine G.instN H D3_8 (pc' := 11) rfl ?_
  refine G.ifYes H D3_11 (by decide) (by decide) (pc' := 54) rfl ?_
  refine G.iconst H D3_54 (pc' := 55) rfl (v := 0) rfl ?_
  exact G.retN H (t := .boolean) rfl (by decide) D3_55 (so := []) all0 (by decide) (by decide) ⟨rfl, rfl, rfl⟩
set_option maxRecDepth 65536 in
set_option maxHeartbeats 40000000 in
theorem m24_equals (V : Env1 Z a0 n0 uu0 uu1) (p0 : Addr) (h0 : Heap) (hO : Old Z n0 h0) (f0 : Exa Z h0 p0 "java/lang/String") :
    Met Z a0 ELs True n0 l (⟨"java/util/Objects", "equals", "(Ljava/lang/Object;Ljava/lang/Object;)Z"⟩ : MethodName) jdk_31_method_2_code 2 (Option.some FieldType.boolean) ({ frames := 1, cells := 0, slots := 0, locals := 14 } : Room) #[(.ref p0), .null] h0 [] (fun v h so => (v = some (.int 0) ∧ so = [] ∧ h0 = h)) := by
  refine Met.of (EWl V) (by first | decide +kernel | rfl) hO (L0 := #[.val (.ref p0), .val .null]) rfl ?_
  intro p e s m below meth c T H
  show Go p e below _ (T.setTop (mkF m 0 #[.val (.ref p0), .val .null] []))
  refine G.aloadN H D0_0 (pc' := 1) rfl rfl rfl ?_
  refine G.aloadN H D0_1 (pc' := 2) rfl rfl rfl ?_
  refine G.acmpNo H D0_2 (pc' := 5) rfl rfl rfl (XT.aa_eq_f (fun q => nomatch q)) ?_
  refine G.aloadN H D0_5 (pc' := 6) rfl rfl rfl ?_
  refine G.ifnullNo H D0_6 (pc' := 9) rfl ?_
  refine G.aloadN H D0_9 (pc' := 10) rfl rfl rfl ?_
  refine G.aloadN H D0_10 (pc' := 11) rfl rfl rfl ?_
  refine G.callV H (m23_equals V p0 h0 H.old) (wd71 V) (wd72 V) (nf_rt (wd86 V)) (wd74 V) (wd75 V) (wd15 V) (wd76 V) (by decide) f0 (argsL := [.null]) (rest := []) (W := 0) rfl rfl (lenOf (pd_5) rfl) rfl rfl D0_11 (pc' := 14) rfl (by decide) (by decide) (by decide) (by decide) all0 ?_
  intro T1 h1_ v2 s3 H1 Q4
  obtain ⟨rfl, rfl, rfl⟩ := Q4
  show Go p e below _ (T1.setTop (mkF m 14 #[.val (.ref p0), .val .null] [(.int 0)]))
  refine G.ifYes H1 D0_14 (by decide) (by decide) (pc' := 21) rfl ?_
  refine G.iconst H1 D0_21 (pc' := 22) rfl (v := 0) rfl ?_
  exact G.retN H1 (t := .boolean) rfl (by decide) D0_22 (so := []) all0 (by decide) (by decide) ⟨rfl, rfl, rfl⟩
set_option maxRecDepth 65536 in
set_option maxHeartbeats 40000000 in
theorem m25_equals (V : Env1 Z a0 n0 uu0 uu1) (p0 : Addr) (p1 : Addr) (p2 : Addr) (h0 : Heap) (hO : Old Z n0 h0) (f0 : Exa Z h0 p1 "com/example/schema_to_form/schematoform/record/ValuePath") (f1 : Fld Z h0 p0 "com/example/schema_to_form/schematoform/record/ValuePath" "slot" "Ljava/lang/String;" (.ref p2)) (f2 : Fld Z h0 p1 "com/example/schema_to_form/schematoform/record/ValuePath" "slot" "Ljava/lang/String;" .null) (f3 : Exa Z h0 p2 "java/lang/String") :
    Met Z a0 ELs True n0 l (⟨"com/example/schema_to_form/schematoform/record/ValuePath", "equals", "(Ljava/lang/Object;)Z"⟩ : MethodName) prog_7_method_4_code 2 (Option.some FieldType.boolean) ({ frames := 2, cells := 0, slots := 0, locals := 27 } : Room) #[(.ref p0), (.ref p1)] h0 [] (fun v h so => (v = some (.int 0) ∧ so = [] ∧ h0 = h)) := by
  refine Met.of (EWl V) (by first | decide +kernel | rfl) hO (L0 := #[.val (.ref p0), .val (.ref p1)]) rfl ?_
  intro p e s m below meth c T H
  show Go p e below _ (T.setTop (mkF m 0 #[.val (.ref p0), .val (.ref p1)] []))
  refine G.aloadN H D10_0 (pc' := 1) rfl rfl rfl ?_
  refine G.instY H (wd65 V) (Ins.self f0) D10_1 (pc' := 4) rfl ?_
  intro T1 H2
  refine G.ifNo H2 D10_4 (pc' := 7) rfl (by decide) ?_
  refine G.aloadN H2 D10_7 (pc' := 8) rfl rfl rfl ?_
  refine G.getF H2 (wd50 V) Via.refl f1 D10_8 (pc' := 11) rfl ?_
  intro T3 H4
  refine G.aloadN H4 D10_11 (pc' := 12) rfl rfl rfl ?_
  refine G.castY H4 (wd65 V) (Ins.self f0) D10_12 (pc' := 15) rfl ?_
  intro T5 H6
  refine G.getF H6 (wd50 V) Via.refl f2 D10_15 (pc' := 18) rfl ?_
  intro T7 H8
  refine G.callS H8 (m24_equals V p2 h0 H8.old f3) (wd67 V) (wd68 V) (wd69 V) (wd70 V) (by decide) (argsL := [(.ref p2), .null]) (rest := []) (W := 0) rfl rfl (lenOf (pd_6) rfl) rfl rfl D10_18 (pc' := 21) rfl (by decide) (by decide) (by decide) (by decide) all0 ?_
  intro T9 h9_ v10 s11 H9 Q12
  obtain ⟨rfl, rfl, rfl⟩ := Q12
  show Go p e below _ (T9.setTop (mkF m 21 #[.val (.ref p0), .val (.ref p1)] [(.int 0)]))
  refine G.ifYes H9 D10_21 (by decide) (by decide) (pc' := 45) rfl ?_
  refine G.iconst H9 D10_45 (pc' := 46) rfl (v := 0) rfl ?_
  exact G.retN H9 (t := .boolean) rfl (by decide) D10_46 (so := []) all0 (by decide) (by decide) ⟨rfl, rfl, rfl⟩
set_option maxRecDepth 65536 in
set_option maxHeartbeats 40000000 in
theorem m26_equals (V : Env1 Z a0 n0 uu0 uu1)  (h0 : Heap) (hO : Old Z n0 h0)  :
    Met Z a0 ELs True n0 l (⟨"java/util/Objects", "equals", "(Ljava/lang/Object;Ljava/lang/Object;)Z"⟩ : MethodName) jdk_31_method_2_code 2 (Option.some FieldType.boolean) ({ frames := 0, cells := 0, slots := 0, locals := 0 } : Room) #[.null, .null] h0 [] (fun v h so => (v = some (.int 1) ∧ so = [] ∧ h0 = h)) := by
  refine Met.of (EWl V) (by first | decide +kernel | rfl) hO (L0 := #[.val .null, .val .null]) rfl ?_
  intro p e s m below meth c T H
  show Go p e below _ (T.setTop (mkF m 0 #[.val .null, .val .null] []))
  refine G.aloadN H D0_0 (pc' := 1) rfl rfl rfl ?_
  refine G.aloadN H D0_1 (pc' := 2) rfl rfl rfl ?_
  refine G.acmpYes H D0_2 rfl rfl (XT.aa_eq_t rfl) (by decide) (pc' := 17) rfl ?_
  refine G.iconst H D0_17 (pc' := 18) rfl (v := 1) rfl ?_
  refine G.goto H D0_18 (by decide) (pc' := 22) rfl ?_
  exact G.retN H (t := .boolean) rfl (by decide) D0_22 (so := []) all0 (by decide) (by decide) ⟨rfl, rfl, rfl⟩
set_option maxRecDepth 65536 in
set_option maxHeartbeats 40000000 in
theorem m27_equals (V : Env1 Z a0 n0 uu0 uu1) (p0 : Addr) (p1 : Addr) (h0 : Heap) (hO : Old Z n0 h0) (f0 : Exa Z h0 p0 "com/example/schema_to_form/schematoform/record/ValuePath") (f1 : Fld Z h0 p0 "com/example/schema_to_form/schematoform/record/ValuePath" "slot" "Ljava/lang/String;" .null) (f2 : Fld Z h0 p0 "com/example/schema_to_form/schematoform/record/ValuePath" "name" "Ljava/lang/String;" (.ref p1)) (f3 : Exa Z h0 p1 "java/lang/String") :
    Met Z a0 ELs True n0 l (⟨"com/example/schema_to_form/schematoform/record/ValuePath", "equals", "(Ljava/lang/Object;)Z"⟩ : MethodName) prog_7_method_4_code 2 (Option.some FieldType.boolean) ({ frames := 1, cells := 0, slots := 0, locals := 14 } : Room) #[(.ref p0), (.ref p0)] h0 [] (fun v h so => (v = some (.int 1) ∧ so = [] ∧ h0 = h)) := by
  refine Met.of (EWl V) (by first | decide +kernel | rfl) hO (L0 := #[.val (.ref p0), .val (.ref p0)]) rfl ?_
  intro p e s m below meth c T H
  show Go p e below _ (T.setTop (mkF m 0 #[.val (.ref p0), .val (.ref p0)] []))
  refine G.aloadN H D10_0 (pc' := 1) rfl rfl rfl ?_
  refine G.instY H (wd65 V) (Ins.self f0) D10_1 (pc' := 4) rfl ?_
  intro T1 H2
  refine G.ifNo H2 D10_4 (pc' := 7) rfl (by decide) ?_
  refine G.aloadN H2 D10_7 (pc' := 8) rfl rfl rfl ?_
  refine G.getF H2 (wd50 V) Via.refl f1 D10_8 (pc' := 11) rfl ?_
  intro T3 H4
  refine G.aloadN H4 D10_11 (pc' := 12) rfl rfl rfl ?_
  refine G.castY H4 (wd65 V) (Ins.self f0) D10_12 (pc' := 15) rfl ?_
  intro T5 H6
  refine G.getF H6 (wd50 V) Via.refl f1 D10_15 (pc' := 18) rfl ?_
  intro T7 H8
  refine G.callS H8 (m26_equals V h0 H8.old) (wd67 V) (wd68 V) (wd69 V) (wd70 V) (by decide) (argsL := [.null, .null]) (rest := []) (W := 0) rfl rfl (lenOf (pd_6) rfl) rfl rfl D10_18 (pc' := 21) rfl (by decide) (by decide) (by decide) (by decide) all0 ?_
  intro T9 h9_ v10 s11 H9 Q12
  obtain ⟨rfl, rfl, rfl⟩ := Q12
  show Go p e below _ (T9.setTop (mkF m 21 #[.val (.ref p0), .val (.ref p0)] [(.int 1)]))
  refine G.ifNo H9 D10_21 (pc' := 24) rfl (by decide) ?_
  refine G.aloadN H9 D10_24 (pc' := 25) rfl rfl rfl ?_
  refine G.getF H9 (wd52 V) Via.refl f2 D10_25 (pc' := 28) rfl ?_
  intro T13 H14
  refine G.aloadN H14 D10_28 (pc' := 29) rfl rfl rfl ?_
  refine G.castY H14 (wd65 V) (Ins.self f0) D10_29 (pc' := 32) rfl ?_
  intro T15 H16
  refine G.getF H16 (wd52 V) Via.refl f2 D10_32 (pc' := 35) rfl ?_
  intro T17 H18
  refine G.callV H18 (m9_equals V p1 h0 H18.old) (wd82 V) (wd83 V) (nf_sel (wd84 V)) (wd84 V) (wd75 V) (wd15 V) (wd76 V) (by decide) f3 (argsL := [(.ref p1)]) (rest := []) (W := 0) rfl rfl (lenOf (pd_5) rfl) rfl rfl D10_35 (pc' := 38) rfl (by decide) (by decide) (by decide) (by decide) all0 ?_
  intro T19 h19_ v20 s21 H19 Q22
  obtain ⟨rfl, rfl, rfl⟩ := Q22
  show Go p e below _ (T19.setTop (mkF m 38 #[.val (.ref p0), .val (.ref p0)] [(.int 1)]))
  refine G.ifNo H19 D10_38 (pc' := 41) rfl (by decide) ?_
  refine G.iconst H19 D10_41 (pc' := 42) rfl (v := 1) rfl ?_
  refine G.goto H19 D10_42 (by decide) (pc' := 46) rfl ?_
  exact G.retN H19 (t := .boolean) rfl (by decide) D10_46 (so := []) all0 (by decide) (by decide) ⟨rfl, rfl, rfl⟩
set_option maxRecDepth 65536 in
set_option maxHeartbeats 40000000 in
theorem m28_sameSlot (V : Env1 Z a0 n0 uu0 uu1) (x0 : Int32) (x1 : Int32) (h0 : Heap) (hO : Old Z n0 h0) (cc0 : ¬ ((XT.ushr x0 26) &&& 1) = 0) (cc1 : ((XT.ushr x1 26) &&& 1) = 0) :
    Met Z a0 ELs True n0 l (⟨"com/example/schema_to_form/schematoform/record/ValuePathEqualsPinLaw", "sameSlot", "(II)Z"⟩ : MethodName) method_6_code 4 (Option.some FieldType.boolean) ({ frames := 1, cells := 0, slots := 0, locals := 12 } : Room) #[(.int x0), (.int x1)] h0 [] (fun v h so => (v = some (.int 0) ∧ so = [] ∧ h0 = h)) := by
  refine Met.of (EWl V) (by first | decide +kernel | rfl) hO (L0 := #[.val (.int x0), .val (.int x1), .unset, .unset]) rfl ?_
  intro p e s m below meth c T H
  show Go p e below _ (T.setTop (mkF m 0 #[.val (.int x0), .val (.int x1), .unset, .unset] []))
  refine G.iloadN H D8_0 (pc' := 1) rfl rfl ?_
  refine G.callS H (m21_isNullSlot V x0 h0 H.old cc0) (wd7 V) (wd8 V) (wd5 V) (wd9 V) (by decide) (argsL := [(.int x0)]) (rest := []) (W := 0) rfl rfl (lenOf (pd_0) rfl) rfl rfl D8_1 (pc' := 4) rfl (by decide) (by decide) (by decide) (by decide) all0 ?_
  intro T1 h1_ v2 s3 H1 Q4
  obtain ⟨rfl, rfl, rfl⟩ := Q4
  show Go p e below _ (T1.setTop (mkF m 4 #[.val (.int x0), .val (.int x1), .unset, .unset] [(.int 1)]))
  refine G.istoreN H1 (L' := #[.val (.int x0), .val (.int x1), .val (.int 1), .unset]) D8_4 (pc' := 5) rfl rfl ?_
  refine G.iloadN H1 D8_5 (pc' := 6) rfl rfl ?_
  refine G.callS H1 (m12_isNullSlot V x1 h0 H1.old cc1) (wd7 V) (wd8 V) (wd5 V) (wd9 V) (by decide) (argsL := [(.int x1)]) (rest := []) (W := 0) rfl rfl (lenOf (pd_0) rfl) rfl rfl D8_6 (pc' := 9) rfl (by decide) (by decide) (by decide) (by decide) all0 ?_
  intro T5 h5_ v6 s7 H5 Q8
  obtain ⟨rfl, rfl, rfl⟩ := Q8
  show Go p e below _ (T5.setTop (mkF m 9 #[.val (.int x0), .val (.int x1), .val (.int 1), .unset] [(.int 0)]))
  refine G.istoreN H5 (L' := #[.val (.int x0), .val (.int x1), .val (.int 1), .val (.int 0)]) D8_9 (pc' := 10) rfl rfl ?_
  refine G.iloadN H5 D8_10 (pc' := 11) rfl rfl ?_
  refine G.ifYes H5 D8_11 (by decide) (by decide) (pc' := 18) rfl ?_
  refine G.iloadN H5 D8_18 (pc' := 19) rfl rfl ?_
  refine G.ifNo H5 D8_19 (pc' := 22) rfl (by decide) ?_
  refine G.iloadN H5 D8_22 (pc' := 23) rfl rfl ?_
  refine G.ifYes H5 D8_23 (by decide) (by decide) (pc' := 30) rfl ?_
  refine G.iconst H5 D8_30 (pc' := 31) rfl (v := 0) rfl ?_
  exact G.retN H5 (t := .boolean) rfl (by decide) D8_31 (so := []) all0 (by decide) (by decide) ⟨rfl, rfl, rfl⟩
set_option maxRecDepth 65536 in
set_option maxHeartbeats 40000000 in
theorem m29_equals (V : Env1 Z a0 n0 uu0 uu1) (p0 : Addr) (h0 : Heap) (hO : Old Z n0 h0)  :
    Met Z a0 ELs True n0 l (⟨"java/util/Objects", "equals", "(Ljava/lang/Object;Ljava/lang/Object;)Z"⟩ : MethodName) jdk_31_method_2_code 2 (Option.some FieldType.boolean) ({ frames := 0, cells := 0, slots := 0, locals := 0 } : Room) #[.null, (.ref p0)] h0 [] (fun v h so => (v = some (.int 0) ∧ so = [] ∧ h0 = h)) := by
  refine Met.of (EWl V) (by first | decide +kernel | rfl) hO (L0 := #[.val .null, .val (.ref p0)]) rfl ?_
  intro p e s m below meth c T H
  show Go p e below _ (T.setTop (mkF m 0 #[.val .null, .val (.ref p0)] []))
  refine G.aloadN H D0_0 (pc' := 1) rfl rfl rfl ?_
  refine G.aloadN H D0_1 (pc' := 2) rfl rfl rfl ?_
  refine G.acmpNo H D0_2 (pc' := 5) rfl rfl rfl (XT.aa_eq_f (fun q => nomatch q)) ?_
  refine G.aloadN H D0_5 (pc' := 6) rfl rfl rfl ?_
  refine G.ifnullYes H D0_6 (by decide) (pc' := 21) rfl ?_
  refine G.iconst H D0_21 (pc' := 22) rfl (v := 0) rfl ?_
  exact G.retN H (t := .boolean) rfl (by decide) D0_22 (so := []) all0 (by decide) (by decide) ⟨rfl, rfl, rfl⟩
set_option maxRecDepth 65536 in
set_option maxHeartbeats 40000000 in
theorem m30_equals (V : Env1 Z a0 n0 uu0 uu1) (p0 : Addr) (p1 : Addr) (p2 : Addr) (h0 : Heap) (hO : Old Z n0 h0) (f0 : Exa Z h0 p1 "com/example/schema_to_form/schematoform/record/ValuePath") (f1 : Fld Z h0 p0 "com/example/schema_to_form/schematoform/record/ValuePath" "slot" "Ljava/lang/String;" .null) (f2 : Fld Z h0 p1 "com/example/schema_to_form/schematoform/record/ValuePath" "slot" "Ljava/lang/String;" (.ref p2)) :
    Met Z a0 ELs True n0 l (⟨"com/example/schema_to_form/schematoform/record/ValuePath", "equals", "(Ljava/lang/Object;)Z"⟩ : MethodName) prog_7_method_4_code 2 (Option.some FieldType.boolean) ({ frames := 1, cells := 0, slots := 0, locals := 13 } : Room) #[(.ref p0), (.ref p1)] h0 [] (fun v h so => (v = some (.int 0) ∧ so = [] ∧ h0 = h)) := by
  refine Met.of (EWl V) (by first | decide +kernel | rfl) hO (L0 := #[.val (.ref p0), .val (.ref p1)]) rfl ?_
  intro p e s m below meth c T H
  show Go p e below _ (T.setTop (mkF m 0 #[.val (.ref p0), .val (.ref p1)] []))
  refine G.aloadN H D10_0 (pc' := 1) rfl rfl rfl ?_
  refine G.instY H (wd65 V) (Ins.self f0) D10_1 (pc' := 4) rfl ?_
  intro T1 H2
  refine G.ifNo H2 D10_4 (pc' := 7) rfl (by decide) ?_
  refine G.aloadN H2 D10_7 (pc' := 8) rfl rfl rfl ?_
  refine G.getF H2 (wd50 V) Via.refl f1 D10_8 (pc' := 11) rfl ?_
  intro T3 H4
  refine G.aloadN H4 D10_11 (pc' := 12) rfl rfl rfl ?_
  refine G.castY H4 (wd65 V) (Ins.self f0) D10_12 (pc' := 15) rfl ?_
  intro T5 H6
  refine G.getF H6 (wd50 V) Via.refl f2 D10_15 (pc' := 18) rfl ?_
  intro T7 H8
  refine G.callS H8 (m29_equals V p2 h0 H8.old) (wd67 V) (wd68 V) (wd69 V) (wd70 V) (by decide) (argsL := [.null, (.ref p2)]) (rest := []) (W := 0) rfl rfl (lenOf (pd_6) rfl) rfl rfl D10_18 (pc' := 21) rfl (by decide) (by decide) (by decide) (by decide) all0 ?_
  intro T9 h9_ v10 s11 H9 Q12
  obtain ⟨rfl, rfl, rfl⟩ := Q12
  show Go p e below _ (T9.setTop (mkF m 21 #[.val (.ref p0), .val (.ref p1)] [(.int 0)]))
  refine G.ifYes H9 D10_21 (by decide) (by decide) (pc' := 45) rfl ?_
  refine G.iconst H9 D10_45 (pc' := 46) rfl (v := 0) rfl ?_
  exact G.retN H9 (t := .boolean) rfl (by decide) D10_46 (so := []) all0 (by decide) (by decide) ⟨rfl, rfl, rfl⟩
set_option maxRecDepth 65536 in
set_option maxHeartbeats 40000000 in
theorem m31_sameSlot (V : Env1 Z a0 n0 uu0 uu1) (x0 : Int32) (x1 : Int32) (h0 : Heap) (hO : Old Z n0 h0) (cc0 : ¬ ((XT.ushr x0 26) &&& 1) = 0) (cc1 : ¬ ((XT.ushr x1 26) &&& 1) = 0) :
    Met Z a0 ELs True n0 l (⟨"com/example/schema_to_form/schematoform/record/ValuePathEqualsPinLaw", "sameSlot", "(II)Z"⟩ : MethodName) method_6_code 4 (Option.some FieldType.boolean) ({ frames := 1, cells := 0, slots := 0, locals := 12 } : Room) #[(.int x0), (.int x1)] h0 [] (fun v h so => (v = some (.int 1) ∧ so = [] ∧ h0 = h)) := by
  refine Met.of (EWl V) (by first | decide +kernel | rfl) hO (L0 := #[.val (.int x0), .val (.int x1), .unset, .unset]) rfl ?_
  intro p e s m below meth c T H
  show Go p e below _ (T.setTop (mkF m 0 #[.val (.int x0), .val (.int x1), .unset, .unset] []))
  refine G.iloadN H D8_0 (pc' := 1) rfl rfl ?_
  refine G.callS H (m21_isNullSlot V x0 h0 H.old cc0) (wd7 V) (wd8 V) (wd5 V) (wd9 V) (by decide) (argsL := [(.int x0)]) (rest := []) (W := 0) rfl rfl (lenOf (pd_0) rfl) rfl rfl D8_1 (pc' := 4) rfl (by decide) (by decide) (by decide) (by decide) all0 ?_
  intro T1 h1_ v2 s3 H1 Q4
  obtain ⟨rfl, rfl, rfl⟩ := Q4
  show Go p e below _ (T1.setTop (mkF m 4 #[.val (.int x0), .val (.int x1), .unset, .unset] [(.int 1)]))
  refine G.istoreN H1 (L' := #[.val (.int x0), .val (.int x1), .val (.int 1), .unset]) D8_4 (pc' := 5) rfl rfl ?_
  refine G.iloadN H1 D8_5 (pc' := 6) rfl rfl ?_
  refine G.callS H1 (m21_isNullSlot V x1 h0 H1.old cc1) (wd7 V) (wd8 V) (wd5 V) (wd9 V) (by decide) (argsL := [(.int x1)]) (rest := []) (W := 0) rfl rfl (lenOf (pd_0) rfl) rfl rfl D8_6 (pc' := 9) rfl (by decide) (by decide) (by decide) (by decide) all0 ?_
  intro T5 h5_ v6 s7 H5 Q8
  obtain ⟨rfl, rfl, rfl⟩ := Q8
  show Go p e below _ (T5.setTop (mkF m 9 #[.val (.int x0), .val (.int x1), .val (.int 1), .unset] [(.int 1)]))
  refine G.istoreN H5 (L' := #[.val (.int x0), .val (.int x1), .val (.int 1), .val (.int 1)]) D8_9 (pc' := 10) rfl rfl ?_
  refine G.iloadN H5 D8_10 (pc' := 11) rfl rfl ?_
  refine G.ifYes H5 D8_11 (by decide) (by decide) (pc' := 18) rfl ?_
  refine G.iloadN H5 D8_18 (pc' := 19) rfl rfl ?_
  refine G.ifNo H5 D8_19 (pc' := 22) rfl (by decide) ?_
  refine G.iloadN H5 D8_22 (pc' := 23) rfl rfl ?_
  refine G.ifNo H5 D8_23 (pc' := 26) rfl (by decide) ?_
  refine G.iconst H5 D8_26 (pc' := 27) rfl (v := 1) rfl ?_
  refine G.goto H5 D8_27 (by decide) (pc' := 31) rfl ?_
  exact G.retN H5 (t := .boolean) rfl (by decide) D8_31 (so := []) all0 (by decide) (by decide) ⟨rfl, rfl, rfl⟩
set_option maxRecDepth 65536 in
set_option maxHeartbeats 40000000 in
theorem m32_equals (V : Env1 Z a0 n0 uu0 uu1) (p0 : Addr) (p1 : Addr) (p2 : Addr) (p3 : Addr) (p4 : Addr) (c0 : ClassId) (cs0 : List Int32) (p5 : Addr) (c1 : ClassId) (cs1 : List Int32) (h0 : Heap) (hO : Old Z n0 h0) (f0 : Exa Z h0 p1 "com/example/schema_to_form/schematoform/record/ValuePath") (f1 : Fld Z h0 p0 "com/example/schema_to_form/schematoform/record/ValuePath" "slot" "Ljava/lang/String;" .null) (f2 : Fld Z h0 p1 "com/example/schema_to_form/schematoform/record/ValuePath" "slot" "Ljava/lang/String;" .null) (f3 : Fld Z h0 p0 "com/example/schema_to_form/schematoform/record/ValuePath" "name" "Ljava/lang/String;" (.ref p2)) (f4 : Fld Z h0 p1 "com/example/schema_to_form/schematoform/record/ValuePath" "name" "Ljava/lang/String;" (.ref p3)) (f5 : Str Z h0 p2 p4 c0 cs0) (f6 : Str Z h0 p3 p5 c1 cs1) (cl7 : cs0 = cs1) :
    Met Z a0 ELs True n0 l (⟨"com/example/schema_to_form/schematoform/record/ValuePath", "equals", "(Ljava/lang/Object;)Z"⟩ : MethodName) prog_7_method_4_code 2 (Option.some FieldType.boolean) ({ frames := 2, cells := 0, slots := 0, locals := 28 } : Room) #[(.ref p0), (.ref p1)] h0 [] (fun v h so => (cs0 = cs1 ∧ v = some (.int 1) ∧ so = [] ∧ h0 = h)) := by
  refine Met.of (EWl V) (by first | decide +kernel | rfl) hO (L0 := #[.val (.ref p0), .val (.ref p1)]) rfl ?_
  intro p e s m below meth c T H
  show Go p e below _ (T.setTop (mkF m 0 #[.val (.ref p0), .val (.ref p1)] []))
  refine G.aloadN H D10_0 (pc' := 1) rfl rfl rfl ?_
  refine G.instY H (wd65 V) (Ins.self f0) D10_1 (pc' := 4) rfl ?_
  intro T1 H2
  refine G.ifNo H2 D10_4 (pc' := 7) rfl (by decide) ?_
  refine G.aloadN H2 D10_7 (pc' := 8) rfl rfl rfl ?_
  refine G.getF H2 (wd50 V) Via.refl f1 D10_8 (pc' := 11) rfl ?_
  intro T3 H4
  refine G.aloadN H4 D10_11 (pc' := 12) rfl rfl rfl ?_
  refine G.castY H4 (wd65 V) (Ins.self f0) D10_12 (pc' := 15) rfl ?_
  intro T5 H6
  refine G.getF H6 (wd50 V) Via.refl f2 D10_15 (pc' := 18) rfl ?_
  intro T7 H8
  refine G.callS H8 (m26_equals V h0 H8.old) (wd67 V) (wd68 V) (wd69 V) (wd70 V) (by decide) (argsL := [.null, .null]) (rest := []) (W := 0) rfl rfl (lenOf (pd_6) rfl) rfl rfl D10_18 (pc' := 21) rfl (by decide) (by decide) (by decide) (by decide) all0 ?_
  intro T9 h9_ v10 s11 H9 Q12
  obtain ⟨rfl, rfl, rfl⟩ := Q12
  show Go p e below _ (T9.setTop (mkF m 21 #[.val (.ref p0), .val (.ref p1)] [(.int 1)]))
  refine G.ifNo H9 D10_21 (pc' := 24) rfl (by decide) ?_
  refine G.aloadN H9 D10_24 (pc' := 25) rfl rfl rfl ?_
  refine G.getF H9 (wd52 V) Via.refl f3 D10_25 (pc' := 28) rfl ?_
  intro T13 H14
  refine G.aloadN H14 D10_28 (pc' := 29) rfl rfl rfl ?_
  refine G.castY H14 (wd65 V) (Ins.self f0) D10_29 (pc' := 32) rfl ?_
  intro T15 H16
  refine G.getF H16 (wd52 V) Via.refl f4 D10_32 (pc' := 35) rfl ?_
  intro T17 H18
  refine G.strEq H18 (strwEq V) (wd14 V) (yc := "java/lang/String") (wd82 V) (by decide) (wd83 V) (nf_sel (wd84 V)) (wd84 V) (wd75 V) f5 f6 (hv0 V) (hv1 V) (rest := []) (W := 0) rfl rfl D10_35 (pc' := 38) rfl (by decide) (by decide) (by decide) (by decide) ?_ ?_
  ·
    intro T19 H20 c21
    refine G.ifNo H20 D10_38 (pc' := 41) rfl (by decide) ?_
    refine G.iconst H20 D10_41 (pc' := 42) rfl (v := 1) rfl ?_
    refine G.goto H20 D10_42 (by decide) (pc' := 46) rfl ?_
    exact G.retN H20 (t := .boolean) rfl (by decide) D10_46 (so := []) all0 (by decide) (by decide) ⟨c21, rfl, rfl, rfl⟩
  ·
    intro T22 H23 c24
    exact absurd cl7 c24
set_option maxRecDepth 65536 in
set_option maxHeartbeats 40000000 in
theorem m33_equals (V : Env1 Z a0 n0 uu0 uu1) (p0 : Addr) (p1 : Addr) (p2 : Addr) (p3 : Addr) (p4 : Addr) (c0 : ClassId) (cs0 : List Int32) (p5 : Addr) (c1 : ClassId) (cs1 : List Int32) (h0 : Heap) (hO : Old Z n0 h0) (f0 : Exa Z h0 p1 "com/example/schema_to_form/schematoform/record/ValuePath") (f1 : Fld Z h0 p0 "com/example/schema_to_form/schematoform/record/ValuePath" "slot" "Ljava/lang/String;" .null) (f2 : Fld Z h0 p1 "com/example/schema_to_form/schematoform/record/ValuePath" "slot" "Ljava/lang/String;" .null) (f3 : Fld Z h0 p0 "com/example/schema_to_form/schematoform/record/ValuePath" "name" "Ljava/lang/String;" (.ref p2)) (f4 : Fld Z h0 p1 "com/example/schema_to_form/schematoform/record/ValuePath" "name" "Ljava/lang/String;" (.ref p3)) (f5 : Str Z h0 p2 p4 c0 cs0) (f6 : Str Z h0 p3 p5 c1 cs1) (cl7 : ¬ cs0 = cs1) :
    Met Z a0 ELs True n0 l (⟨"com/example/schema_to_form/schematoform/record/ValuePath", "equals", "(Ljava/lang/Object;)Z"⟩ : MethodName) prog_7_method_4_code 2 (Option.some FieldType.boolean) ({ frames := 2, cells := 0, slots := 0, locals := 28 } : Room) #[(.ref p0), (.ref p1)] h0 [] (fun v h so => (¬ cs0 = cs1 ∧ v = some (.int 0) ∧ so = [] ∧ h0 = h)) := by
  refine Met.of (EWl V) (by first | decide +kernel | rfl) hO (L0 := #[.val (.ref p0), .val (.ref p1)]) rfl ?_
  intro p e s m below meth c T H
  show Go p e below _ (T.setTop (mkF m 0 #[.val (.ref p0), .val (.ref p1)] []))
  refine G.aloadN H D10_0 (pc' := 1) rfl rfl rfl ?_
  refine G.instY H (wd65 V) (Ins.self f0) D10_1 (pc' := 4) rfl ?_
  intro T1 H2
  refine G.ifNo H2 D10_4 (pc' := 7) rfl (by decide) ?_
  refine G.aloadN H2 D10_7 (pc' := 8) rfl rfl rfl ?_
  refine G.getF H2 (wd50 V) Via.refl f1 D10_8 (pc' := 11) rfl ?_
  intro T3 H4
  refine G.aloadN H4 D10_11 (pc' := 12) rfl rfl rfl ?_
  refine G.castY H4 (wd65 V) (Ins.self f0) D10_12 (pc' := 15) rfl ?_
  intro T5 H6
  refine G.getF H6 (wd50 V) Via.refl f2 D10_15 (pc' := 18) rfl ?_
  intro T7 H8
  refine G.callS H8 (m26_equals V h0 H8.old) (wd67 V) (wd68 V) (wd69 V) (wd70 V) (by decide) (argsL := [.null, .null]) (rest := []) (W := 0) rfl rfl (lenOf (pd_6) rfl) rfl rfl D10_18 (pc' := 21) rfl (by decide) (by decide) (by decide) (by decide) all0 ?_
  intro T9 h9_ v10 s11 H9 Q12
  obtain ⟨rfl, rfl, rfl⟩ := Q12
  show Go p e below _ (T9.setTop (mkF m 21 #[.val (.ref p0), .val (.ref p1)] [(.int 1)]))
  refine G.ifNo H9 D10_21 (pc' := 24) rfl (by decide) ?_
  refine G.aloadN H9 D10_24 (pc' := 25) rfl rfl rfl ?_
  refine G.getF H9 (wd52 V) Via.refl f3 D10_25 (pc' := 28) rfl ?_
  intro T13 H14
  refine G.aloadN H14 D10_28 (pc' := 29) rfl rfl rfl ?_
  refine G.castY H14 (wd65 V) (Ins.self f0) D10_29 (pc' := 32) rfl ?_
  intro T15 H16
  refine G.getF H16 (wd52 V) Via.refl f4 D10_32 (pc' := 35) rfl ?_
  intro T17 H18
  refine G.strEq H18 (strwEq V) (wd14 V) (yc := "java/lang/String") (wd82 V) (by decide) (wd83 V) (nf_sel (wd84 V)) (wd84 V) (wd75 V) f5 f6 (hv0 V) (hv1 V) (rest := []) (W := 0) rfl rfl D10_35 (pc' := 38) rfl (by decide) (by decide) (by decide) (by decide) ?_ ?_
  ·
    intro T19 H20 c21
    exact absurd c21 cl7
  ·
    intro T22 H23 c24
    refine G.ifYes H23 D10_38 (by decide) (by decide) (pc' := 45) rfl ?_
    refine G.iconst H23 D10_45 (pc' := 46) rfl (v := 0) rfl ?_
    exact G.retN H23 (t := .boolean) rfl (by decide) D10_46 (so := []) all0 (by decide) (by decide) ⟨c24, rfl, rfl, rfl⟩
set_option maxRecDepth 65536 in
set_option maxHeartbeats 40000000 in
theorem m34_sameStr (V : Env1 Z a0 n0 uu0 uu1) (x0 : Int32) (h0 : Heap) (hO : Old Z n0 h0)  :
    Met Z a0 ELs True n0 l (⟨"com/example/schema_to_form/schematoform/record/ValuePathEqualsPinLaw", "sameStr", "(II)Z"⟩ : MethodName) method_5_code 7 (Option.some FieldType.boolean) ({ frames := 0, cells := 0, slots := 0, locals := 0 } : Room) #[(.int x0), (.int x0)] h0 [] (fun v h so => (v = some (.int 1) ∧ so = [] ∧ h0 = h)) := by
  refine Met.of (EWl V) (by first | decide +kernel | rfl) hO (L0 := #[.val (.int x0), .val (.int x0), .unset, .unset, .unset, .unset, .unset]) rfl ?_
  intro p e s m below meth c T H
  show Go p e below _ (T.setTop (mkF m 0 #[.val (.int x0), .val (.int x0), .unset, .unset, .unset, .unset, .unset] []))
  refine G.iloadN H D7_0 (pc' := 1) rfl rfl ?_
  refine G.iconst H D7_1 (pc' := 2) rfl (v := 3) rfl ?_
  refine G.iand H D7_2 (pc' := 3) rfl ?_
  refine G.istoreN H (L' := #[.val (.int x0), .val (.int x0), .val (.int (x0 &&& 3)), .unset, .unset, .unset, .unset]) D7_3 (pc' := 4) rfl rfl ?_
  refine G.iloadN H D7_4 (pc' := 5) rfl rfl ?_
  refine G.iconst H D7_5 (pc' := 6) rfl (v := 3) rfl ?_
  refine G.iand H D7_6 (pc' := 7) rfl ?_
  refine G.istoreN H (L' := #[.val (.int x0), .val (.int x0), .val (.int (x0 &&& 3)), .val (.int (x0 &&& 3)), .unset, .unset, .unset]) D7_7 (pc' := 8) rfl rfl ?_
  refine G.iloadN H D7_8 (pc' := 9) rfl rfl ?_
  refine G.iloadN H D7_9 (pc' := 10) rfl rfl ?_
  refine G.icmpYes H D7_10 (XT.ii_eq_t rfl) (by decide) (pc' := 15) rfl ?_
  refine G.iloadN H D7_15 (pc' := 16) rfl rfl ?_
  refine G.iconst H D7_16 (pc' := 17) rfl (v := 2) rfl ?_
  refine G.iushr H D7_17 (pc' := 18) rfl ?_
  refine G.sipush H D7_18 (pc' := 21) rfl (v := 255) rfl ?_
  refine G.iand H D7_21 (pc' := 22) rfl ?_
  refine G.iloadN H D7_22 (pc' := 23) rfl rfl ?_
  refine G.iconst H D7_23 (pc' := 24) rfl (v := 2) rfl ?_
  refine G.iushr H D7_24 (pc' := 25) rfl ?_
  refine G.sipush H D7_25 (pc' := 28) rfl (v := 255) rfl ?_
  refine G.iand H D7_28 (pc' := 29) rfl ?_
  refine G.icmpNo H D7_29 (pc' := 32) rfl (XT.ii_ne_f rfl) ?_
  refine G.iconst H D7_32 (pc' := 33) rfl (v := 1) rfl ?_
  refine G.goto H D7_33 (by decide) (pc' := 37) rfl ?_
  refine G.istore H (L' := #[.val (.int x0), .val (.int x0), .val (.int (x0 &&& 3)), .val (.int (x0 &&& 3)), .val (.int 1), .unset, .unset]) D7_37 (pc' := 39) rfl rfl ?_
  refine G.iloadN H D7_39 (pc' := 40) rfl rfl ?_
  refine G.bipush H D7_40 (pc' := 42) rfl (v := 10) rfl ?_
  refine G.iushr H D7_42 (pc' := 43) rfl ?_
  refine G.sipush H D7_43 (pc' := 46) rfl (v := 255) rfl ?_
  refine G.iand H D7_46 (pc' := 47) rfl ?_
  refine G.iloadN H D7_47 (pc' := 48) rfl rfl ?_
  refine G.bipush H D7_48 (pc' := 50) rfl (v := 10) rfl ?_
  refine G.iushr H D7_50 (pc' := 51) rfl ?_
  refine G.sipush H D7_51 (pc' := 54) rfl (v := 255) rfl ?_
  refine G.iand H D7_54 (pc' := 55) rfl ?_
  refine G.icmpNo H D7_55 (pc' := 58) rfl (XT.ii_ne_f rfl) ?_
  refine G.iconst H D7_58 (pc' := 59) rfl (v := 1) rfl ?_
  refine G.goto H D7_59 (by decide) (pc' := 63) rfl ?_
  refine G.istore H (L' := #[.val (.int x0), .val (.int x0), .val (.int (x0 &&& 3)), .val (.int (x0 &&& 3)), .val (.int 1), .val (.int 1), .unset]) D7_63 (pc' := 65) rfl rfl ?_
  refine G.iloadN H D7_65 (pc' := 66) rfl rfl ?_
  refine G.bipush H D7_66 (pc' := 68) rfl (v := 18) rfl ?_
  refine G.iushr H D7_68 (pc' := 69) rfl ?_
  refine G.sipush H D7_69 (pc' := 72) rfl (v := 255) rfl ?_
  refine G.iand H D7_72 (pc' := 73) rfl ?_
  refine G.iloadN H D7_73 (pc' := 74) rfl rfl ?_
  refine G.bipush H D7_74 (pc' := 76) rfl (v := 18) rfl ?_
  refine G.iushr H D7_76 (pc' := 77) rfl ?_
  refine G.sipush H D7_77 (pc' := 80) rfl (v := 255) rfl ?_
  refine G.iand H D7_80 (pc' := 81) rfl ?_
  refine G.icmpNo H D7_81 (pc' := 84) rfl (XT.ii_ne_f rfl) ?_
  refine G.iconst H D7_84 (pc' := 85) rfl (v := 1) rfl ?_
  refine G.goto H D7_85 (by decide) (pc' := 89) rfl ?_
  refine G.istore H (L' := #[.val (.int x0), .val (.int x0), .val (.int (x0 &&& 3)), .val (.int (x0 &&& 3)), .val (.int 1), .val (.int 1), .val (.int 1)]) D7_89 (pc' := 91) rfl rfl ?_
  refine G.iloadN H D7_91 (pc' := 92) rfl rfl ?_
  refine G.iconst H D7_92 (pc' := 93) rfl (v := 1) rfl ?_
  by_cases c1 : (x0 &&& 3) < 1
  ·
    refine G.icmpYes H D7_93 (XT.ii_lt_t c1) (by decide) (pc' := 101) rfl ?_
    refine G.iloadN H D7_101 (pc' := 102) rfl rfl ?_
    refine G.iconst H D7_102 (pc' := 103) rfl (v := 2) rfl ?_
    by_cases c2 : (x0 &&& 3) < 2
    ·
      refine G.icmpYes H D7_103 (XT.ii_lt_t c2) (by decide) (pc' := 111) rfl ?_
      refine G.iloadN H D7_111 (pc' := 112) rfl rfl ?_
      refine G.iconst H D7_112 (pc' := 113) rfl (v := 3) rfl ?_
      by_cases c3 : (x0 &&& 3) < 3
      ·
        refine G.icmpYes H D7_113 (XT.ii_lt_t c3) (by decide) (pc' := 121) rfl ?_
        refine G.iconst H D7_121 (pc' := 122) rfl (v := 1) rfl ?_
        refine G.goto H D7_122 (by decide) (pc' := 126) rfl ?_
        exact G.retN H (t := .boolean) rfl (by decide) D7_126 (so := []) all0 (by decide) (by decide) ⟨rfl, rfl, rfl⟩
      ·
        refine G.icmpNo H D7_113 (pc' := 116) rfl (XT.ii_lt_f c3) ?_
        refine G.iload H D7_116 (pc' := 118) rfl rfl ?_
        refine G.ifNo H D7_118 (pc' := 121) rfl (by decide) ?_
        refine G.iconst H D7_121 (pc' := 122) rfl (v := 1) rfl ?_
        refine G.goto H D7_122 (by decide) (pc' := 126) rfl ?_
        exact G.retN H (t := .boolean) rfl (by decide) D7_126 (so := []) all0 (by decide) (by decide) ⟨rfl, rfl, rfl⟩
    ·
      refine G.icmpNo H D7_103 (pc' := 106) rfl (XT.ii_lt_f c2) ?_
      refine G.iload H D7_106 (pc' := 108) rfl rfl ?_
      refine G.ifNo H D7_108 (pc' := 111) rfl (by decide) ?_
      refine G.iloadN H D7_111 (pc' := 112) rfl rfl ?_
      refine G.iconst H D7_112 (pc' := 113) rfl (v := 3) rfl ?_
      by_cases c4 : (x0 &&& 3) < 3
      ·
        refine G.icmpYes H D7_113 (XT.ii_lt_t c4) (by decide) (pc' := 121) rfl ?_
        refine G.iconst H D7_121 (pc' := 122) rfl (v := 1) rfl ?_
        refine G.goto H D7_122 (by decide) (pc' := 126) rfl ?_
        exact G.retN H (t := .boolean) rfl (by decide) D7_126 (so := []) all0 (by decide) (by decide) ⟨rfl, rfl, rfl⟩
      ·
        refine G.icmpNo H D7_113 (pc' := 116) rfl (XT.ii_lt_f c4) ?_
        refine G.iload H D7_116 (pc' := 118) rfl rfl ?_
        refine G.ifNo H D7_118 (pc' := 121) rfl (by decide) ?_
        refine G.iconst H D7_121 (pc' := 122) rfl (v := 1) rfl ?_
        refine G.goto H D7_122 (by decide) (pc' := 126) rfl ?_
        exact G.retN H (t := .boolean) rfl (by decide) D7_126 (so := []) all0 (by decide) (by decide) ⟨rfl, rfl, rfl⟩
  ·
    refine G.icmpNo H D7_93 (pc' := 96) rfl (XT.ii_lt_f c1) ?_
    refine G.iload H D7_96 (pc' := 98) rfl rfl ?_
    refine G.ifNo H D7_98 (pc' := 101) rfl (by decide) ?_
    refine G.iloadN H D7_101 (pc' := 102) rfl rfl ?_
    refine G.iconst H D7_102 (pc' := 103) rfl (v := 2) rfl ?_
    by_cases c5 : (x0 &&& 3) < 2
    ·
      refine G.icmpYes H D7_103 (XT.ii_lt_t c5) (by decide) (pc' := 111) rfl ?_
      refine G.iloadN H D7_111 (pc' := 112) rfl rfl ?_
      refine G.iconst H D7_112 (pc' := 113) rfl (v := 3) rfl ?_
      by_cases c6 : (x0 &&& 3) < 3
      ·
        refine G.icmpYes H D7_113 (XT.ii_lt_t c6) (by decide) (pc' := 121) rfl ?_
        refine G.iconst H D7_121 (pc' := 122) rfl (v := 1) rfl ?_
        refine G.goto H D7_122 (by decide) (pc' := 126) rfl ?_
        exact G.retN H (t := .boolean) rfl (by decide) D7_126 (so := []) all0 (by decide) (by decide) ⟨rfl, rfl, rfl⟩
      ·
        refine G.icmpNo H D7_113 (pc' := 116) rfl (XT.ii_lt_f c6) ?_
        refine G.iload H D7_116 (pc' := 118) rfl rfl ?_
        refine G.ifNo H D7_118 (pc' := 121) rfl (by decide) ?_
        refine G.iconst H D7_121 (pc' := 122) rfl (v := 1) rfl ?_
        refine G.goto H D7_122 (by decide) (pc' := 126) rfl ?_
        exact G.retN H (t := .boolean) rfl (by decide) D7_126 (so := []) all0 (by decide) (by decide) ⟨rfl, rfl, rfl⟩
    ·
      refine G.icmpNo H D7_103 (pc' := 106) rfl (XT.ii_lt_f c5) ?_
      refine G.iload H D7_106 (pc' := 108) rfl rfl ?_
      refine G.ifNo H D7_108 (pc' := 111) rfl (by decide) ?_
      refine G.iloadN H D7_111 (pc' := 112) rfl rfl ?_
      refine G.iconst H D7_112 (pc' := 113) rfl (v := 3) rfl ?_
      by_cases c7 : (x0 &&& 3) < 3
      ·
        refine G.icmpYes H D7_113 (XT.ii_lt_t c7) (by decide) (pc' := 121) rfl ?_
        refine G.iconst H D7_121 (pc' := 122) rfl (v := 1) rfl ?_
        refine G.goto H D7_122 (by decide) (pc' := 126) rfl ?_
        exact G.retN H (t := .boolean) rfl (by decide) D7_126 (so := []) all0 (by decide) (by decide) ⟨rfl, rfl, rfl⟩
      ·
        refine G.icmpNo H D7_113 (pc' := 116) rfl (XT.ii_lt_f c7) ?_
        refine G.iload H D7_116 (pc' := 118) rfl rfl ?_
        refine G.ifNo H D7_118 (pc' := 121) rfl (by decide) ?_
        refine G.iconst H D7_121 (pc' := 122) rfl (v := 1) rfl ?_
        refine G.goto H D7_122 (by decide) (pc' := 126) rfl ?_
        exact G.retN H (t := .boolean) rfl (by decide) D7_126 (so := []) all0 (by decide) (by decide) ⟨rfl, rfl, rfl⟩
set_option maxRecDepth 65536 in
set_option maxHeartbeats 40000000 in
theorem m35_equals (V : Env1 Z a0 n0 uu0 uu1) (p0 : Addr) (p1 : Addr) (p2 : Addr) (p3 : Addr) (p4 : Addr) (c0 : ClassId) (cs0 : List Int32) (p5 : Addr) (c1 : ClassId) (cs1 : List Int32) (p6 : Addr) (p7 : Addr) (p8 : Addr) (c2 : ClassId) (cs2 : List Int32) (p9 : Addr) (c3 : ClassId) (h0 : Heap) (hO : Old Z n0 h0) (f0 : Exa Z h0 p1 "com/example/schema_to_form/schematoform/record/ValuePath") (f1 : Fld Z h0 p0 "com/example/schema_to_form/schematoform/record/ValuePath" "slot" "Ljava/lang/String;" (.ref p2)) (f2 : Fld Z h0 p1 "com/example/schema_to_form/schematoform/record/ValuePath" "slot" "Ljava/lang/String;" (.ref p3)) (q3 : p2 ≠ p3) (f4 : Exa Z h0 p2 "java/lang/String") (f5 : Str Z h0 p2 p4 c0 cs0) (f6 : Str Z h0 p3 p5 c1 cs1) (cl7 : cs0 = cs1) (f8 : Fld Z h0 p0 "com/example/schema_to_form/schematoform/record/ValuePath" "name" "Ljava/lang/String;" (.ref p6)) (f9 : Fld Z h0 p1 "com/example/schema_to_form/schematoform/record/ValuePath" "name" "Ljava/lang/String;" (.ref p7)) (f10 : Str Z h0 p6 p8 c2 cs2) (f11 : Str Z h0 p7 p9 c3 cs2) :
    Met Z a0 ELs True n0 l (⟨"com/example/schema_to_form/schematoform/record/ValuePath", "equals", "(Ljava/lang/Object;)Z"⟩ : MethodName) prog_7_method_4_code 2 (Option.some FieldType.boolean) ({ frames := 3, cells := 0, slots := 0, locals := 41 } : Room) #[(.ref p0), (.ref p1)] h0 [] (fun v h so => (cs0 = cs1 ∧ cs2 = cs2 ∧ v = some (.int 1) ∧ so = [] ∧ h0 = h) ∨ (cs0 = cs1 ∧ ¬ cs2 = cs2 ∧ v = some (.int 0) ∧ so = [] ∧ h0 = h)) := by
  refine Met.of (EWl V) (by first | decide +kernel | rfl) hO (L0 := #[.val (.ref p0), .val (.ref p1)]) rfl ?_
  intro p e s m below meth c T H
  show Go p e below _ (T.setTop (mkF m 0 #[.val (.ref p0), .val (.ref p1)] []))
  refine G.aloadN H D10_0 (pc' := 1) rfl rfl rfl ?_
  refine G.instY H (wd65 V) (Ins.self f0) D10_1 (pc' := 4) rfl ?_
  intro T1 H2
  refine G.ifNo H2 D10_4 (pc' := 7) rfl (by decide) ?_
  refine G.aloadN H2 D10_7 (pc' := 8) rfl rfl rfl ?_
  refine G.getF H2 (wd50 V) Via.refl f1 D10_8 (pc' := 11) rfl ?_
  intro T3 H4
  refine G.aloadN H4 D10_11 (pc' := 12) rfl rfl rfl ?_
  refine G.castY H4 (wd65 V) (Ins.self f0) D10_12 (pc' := 15) rfl ?_
  intro T5 H6
  refine G.getF H6 (wd50 V) Via.refl f2 D10_15 (pc' := 18) rfl ?_
  intro T7 H8
  refine G.callS H8 (m15_equals V p2 p3 p4 c0 cs0 p5 c1 cs1 h0 H8.old q3 f4 f5 f6 cl7) (wd67 V) (wd68 V) (wd69 V) (wd70 V) (by decide) (argsL := [(.ref p2), (.ref p3)]) (rest := []) (W := 0) rfl rfl (lenOf (pd_6) rfl) rfl rfl D10_18 (pc' := 21) rfl (by decide) (by decide) (by decide) (by decide) all0 ?_
  intro T9 h9_ v10 s11 H9 Q12
  obtain ⟨c13, rfl, rfl, rfl⟩ := Q12
  show Go p e below _ (T9.setTop (mkF m 21 #[.val (.ref p0), .val (.ref p1)] [(.int 1)]))
  refine G.ifNo H9 D10_21 (pc' := 24) rfl (by decide) ?_
  refine G.aloadN H9 D10_24 (pc' := 25) rfl rfl rfl ?_
  refine G.getF H9 (wd52 V) Via.refl f8 D10_25 (pc' := 28) rfl ?_
  intro T14 H15
  refine G.aloadN H15 D10_28 (pc' := 29) rfl rfl rfl ?_
  refine G.castY H15 (wd65 V) (Ins.self f0) D10_29 (pc' := 32) rfl ?_
  intro T16 H17
  refine G.getF H17 (wd52 V) Via.refl f9 D10_32 (pc' := 35) rfl ?_
  intro T18 H19
  refine G.strEq H19 (strwEq V) (wd14 V) (yc := "java/lang/String") (wd82 V) (by decide) (wd83 V) (nf_sel (wd84 V)) (wd84 V) (wd75 V) f10 f11 (hv0 V) (hv1 V) (rest := []) (W := 0) rfl rfl D10_35 (pc' := 38) rfl (by decide) (by decide) (by decide) (by decide) ?_ ?_
  ·
    intro T20 H21 c22
    refine G.ifNo H21 D10_38 (pc' := 41) rfl (by decide) ?_
    refine G.iconst H21 D10_41 (pc' := 42) rfl (v := 1) rfl ?_
    refine G.goto H21 D10_42 (by decide) (pc' := 46) rfl ?_
    exact G.retN H21 (t := .boolean) rfl (by decide) D10_46 (so := []) all0 (by decide) (by decide) (Or.inl ⟨c13, c22, rfl, rfl, rfl⟩)
  ·
    intro T23 H24 c25
    refine G.ifYes H24 D10_38 (by decide) (by decide) (pc' := 45) rfl ?_
    refine G.iconst H24 D10_45 (pc' := 46) rfl (v := 0) rfl ?_
    exact G.retN H24 (t := .boolean) rfl (by decide) D10_46 (so := []) all0 (by decide) (by decide) (Or.inr ⟨c13, c25, rfl, rfl, rfl⟩)
set_option maxRecDepth 65536 in
set_option maxHeartbeats 40000000 in
theorem m36_equals (V : Env1 Z a0 n0 uu0 uu1) (p0 : Addr) (p1 : Addr) (p2 : Addr) (p3 : Addr) (p4 : Addr) (c0 : ClassId) (cs0 : List Int32) (p5 : Addr) (c1 : ClassId) (h0 : Heap) (hO : Old Z n0 h0) (f0 : Exa Z h0 p1 "com/example/schema_to_form/schematoform/record/ValuePath") (f1 : Fld Z h0 p0 "com/example/schema_to_form/schematoform/record/ValuePath" "slot" "Ljava/lang/String;" .null) (f2 : Fld Z h0 p1 "com/example/schema_to_form/schematoform/record/ValuePath" "slot" "Ljava/lang/String;" .null) (f3 : Fld Z h0 p0 "com/example/schema_to_form/schematoform/record/ValuePath" "name" "Ljava/lang/String;" (.ref p2)) (f4 : Fld Z h0 p1 "com/example/schema_to_form/schematoform/record/ValuePath" "name" "Ljava/lang/String;" (.ref p3)) (f5 : Str Z h0 p2 p4 c0 cs0) (f6 : Str Z h0 p3 p5 c1 cs0) :
    Met Z a0 ELs True n0 l (⟨"com/example/schema_to_form/schematoform/record/ValuePath", "equals", "(Ljava/lang/Object;)Z"⟩ : MethodName) prog_7_method_4_code 2 (Option.some FieldType.boolean) ({ frames := 2, cells := 0, slots := 0, locals := 28 } : Room) #[(.ref p0), (.ref p1)] h0 [] (fun v h so => (cs0 = cs0 ∧ v = some (.int 1) ∧ so = [] ∧ h0 = h) ∨ (¬ cs0 = cs0 ∧ v = some (.int 0) ∧ so = [] ∧ h0 = h)) := by
  refine Met.of (EWl V) (by first | decide +kernel | rfl) hO (L0 := #[.val (.ref p0), .val (.ref p1)]) rfl ?_
  intro p e s m below meth c T H
  show Go p e below _ (T.setTop (mkF m 0 #[.val (.ref p0), .val (.ref p1)] []))
  refine G.aloadN H D10_0 (pc' := 1) rfl rfl rfl ?_
  refine G.instY H (wd65 V) (Ins.self f0) D10_1 (pc' := 4) rfl ?_
  intro T1 H2
  refine G.ifNo H2 D10_4 (pc' := 7) rfl (by decide) ?_
  refine G.aloadN H2 D10_7 (pc' := 8) rfl rfl rfl ?_
  refine G.getF H2 (wd50 V) Via.refl f1 D10_8 (pc' := 11) rfl ?_
  intro T3 H4
  refine G.aloadN H4 D10_11 (pc' := 12) rfl rfl rfl ?_
  refine G.castY H4 (wd65 V) (Ins.self f0) D10_12 (pc' := 15) rfl ?_
  intro T5 H6
  refine G.getF H6 (wd50 V) Via.refl f2 D10_15 (pc' := 18) rfl ?_
  intro T7 H8
  refine G.callS H8 (m26_equals V h0 H8.old) (wd67 V) (wd68 V) (wd69 V) (wd70 V) (by decide) (argsL := [.null, .null]) (rest := []) (W := 0) rfl rfl (lenOf (pd_6) rfl) rfl rfl D10_18 (pc' := 21) rfl (by decide) (by decide) (by decide) (by decide) all0 ?_
  intro T9 h9_ v10 s11 H9 Q12
  obtain ⟨rfl, rfl, rfl⟩ := Q12
  show Go p e below _ (T9.setTop (mkF m 21 #[.val (.ref p0), .val (.ref p1)] [(.int 1)]))
  refine G.ifNo H9 D10_21 (pc' := 24) rfl (by decide) ?_
  refine G.aloadN H9 D10_24 (pc' := 25) rfl rfl rfl ?_
  refine G.getF H9 (wd52 V) Via.refl f3 D10_25 (pc' := 28) rfl ?_
  intro T13 H14
  refine G.aloadN H14 D10_28 (pc' := 29) rfl rfl rfl ?_
  refine G.castY H14 (wd65 V) (Ins.self f0) D10_29 (pc' := 32) rfl ?_
  intro T15 H16
  refine G.getF H16 (wd52 V) Via.refl f4 D10_32 (pc' := 35) rfl ?_
  intro T17 H18
  refine G.strEq H18 (strwEq V) (wd14 V) (yc := "java/lang/String") (wd82 V) (by decide) (wd83 V) (nf_sel (wd84 V)) (wd84 V) (wd75 V) f5 f6 (hv0 V) (hv1 V) (rest := []) (W := 0) rfl rfl D10_35 (pc' := 38) rfl (by decide) (by decide) (by decide) (by decide) ?_ ?_
  ·
    intro T19 H20 c21
    refine G.ifNo H20 D10_38 (pc' := 41) rfl (by decide) ?_
    refine G.iconst H20 D10_41 (pc' := 42) rfl (v := 1) rfl ?_
    refine G.goto H20 D10_42 (by decide) (pc' := 46) rfl ?_
    exact G.retN H20 (t := .boolean) rfl (by decide) D10_46 (so := []) all0 (by decide) (by decide) (Or.inl ⟨c21, rfl, rfl, rfl⟩)
  ·
    intro T22 H23 c24
    refine G.ifYes H23 D10_38 (by decide) (by decide) (pc' := 45) rfl ?_
    refine G.iconst H23 D10_45 (pc' := 46) rfl (v := 0) rfl ?_
    exact G.retN H23 (t := .boolean) rfl (by decide) D10_46 (so := []) all0 (by decide) (by decide) (Or.inr ⟨c24, rfl, rfl, rfl⟩)
set_option maxRecDepth 65536 in
set_option maxHeartbeats 40000000 in
theorem m37_slot (V : Env1 Z a0 n0 uu0 uu1) (x0 : Int32) (h0 : Heap) (hO : Old Z n0 h0) (cc0 : ((XT.ushr x0 26) &&& 1) = 0) :
    Met Z a0 ELs True n0 l (⟨"com/example/schema_to_form/schematoform/record/ValuePathEqualsPinLaw", "slot", "(I)Ljava/lang/String;"⟩ : MethodName) method_4_code 1 (Option.some (FieldType.object "java/lang/String")) ({ frames := 5, cells := 6, slots := 12, locals := 82 } : Room) #[(.int x0)] h0 [] (fun v h so => (∃ a9 a10 : Addr, ∃ k11 : ClassId, v = some (.ref a9) ∧ so = [] ∧ Keep h0 h [] ∧ h0.size ≤ a9 ∧ Str Z h a9 a10 k11 (strOf x0))) := by
  refine Met.of (EWl V) (by first | decide +kernel | rfl) hO (L0 := #[.val (.int x0)]) rfl ?_
  intro p e s m below meth c T H
  show Go p e below _ (T.setTop (mkF m 0 #[.val (.int x0)] []))
  refine G.iloadN H D6_0 (pc' := 1) rfl rfl ?_
  refine G.callS H (m12_isNullSlot V x0 h0 H.old cc0) (wd7 V) (wd8 V) (wd5 V) (wd9 V) (by decide) (argsL := [(.int x0)]) (rest := []) (W := 0) rfl rfl (lenOf (pd_0) rfl) rfl rfl D6_1 (pc' := 4) rfl (by decide) (by decide) (by decide) (by decide) all0 ?_
  intro T1 h1_ v2 s3 H1 Q4
  obtain ⟨rfl, rfl, rfl⟩ := Q4
  show Go p e below _ (T1.setTop (mkF m 4 #[.val (.int x0)] [(.int 0)]))
  refine G.ifYes H1 D6_4 (by decide) (by decide) (pc' := 9) rfl ?_
  refine G.iloadN H1 D6_9 (pc' := 10) rfl rfl ?_
  refine G.callS H1 (m4_str V x0 h0 H1.old) (wd10 V) (wd11 V) (wd5 V) (wd12 V) (by decide) (argsL := [(.int x0)]) (rest := []) (W := 0) rfl rfl (lenOf (pd_3) rfl) rfl rfl D6_10 (pc' := 13) rfl (by decide) (by decide) (by decide) (by decide) all0 ?_
  intro T5 h5_ v6 s7 H5 Q8
  obtain ⟨a9, a10, k11, rfl, rfl, K12, g13, F14⟩ := Q8
  have na9 : n0 ≤ a9 := Nat.le_trans H1.le g13
  show Go p e below _ (T5.setTop (mkF m 13 #[.val (.int x0)] [(.ref a9)]))
  have K15 : Keep h0 h5_ [] := (Keep.trans (Keep.refl h0 []) K12 all0)
  exact G.retA H5 (t := (.object "java/lang/String")) rfl rfl rfl D6_13 (so := []) all0 (by decide) (by decide) ⟨a9, a10, k11, rfl, rfl, K15, g13, F14⟩
set_option maxRecDepth 65536 in
set_option maxHeartbeats 40000000 in
theorem m38_sameSlot (V : Env1 Z a0 n0 uu0 uu1) (x0 : Int32) (h0 : Heap) (hO : Old Z n0 h0) (cc0 : ((XT.ushr x0 26) &&& 1) = 0) :
    Met Z a0 ELs True n0 l (⟨"com/example/schema_to_form/schematoform/record/ValuePathEqualsPinLaw", "sameSlot", "(II)Z"⟩ : MethodName) method_6_code 4 (Option.some FieldType.boolean) ({ frames := 1, cells := 0, slots := 0, locals := 18 } : Room) #[(.int x0), (.int x0)] h0 [] (fun v h so => (v = some (.int 1) ∧ so = [] ∧ h0 = h)) := by
  refine Met.of (EWl V) (by first | decide +kernel | rfl) hO (L0 := #[.val (.int x0), .val (.int x0), .unset, .unset]) rfl ?_
  intro p e s m below meth c T H
  show Go p e below _ (T.setTop (mkF m 0 #[.val (.int x0), .val (.int x0), .unset, .unset] []))
  refine G.iloadN H D8_0 (pc' := 1) rfl rfl ?_
  refine G.callS H (m12_isNullSlot V x0 h0 H.old cc0) (wd7 V) (wd8 V) (wd5 V) (wd9 V) (by decide) (argsL := [(.int x0)]) (rest := []) (W := 0) rfl rfl (lenOf (pd_0) rfl) rfl rfl D8_1 (pc' := 4) rfl (by decide) (by decide) (by decide) (by decide) all0 ?_
  intro T1 h1_ v2 s3 H1 Q4
  obtain ⟨rfl, rfl, rfl⟩ := Q4
  show Go p e below _ (T1.setTop (mkF m 4 #[.val (.int x0), .val (.int x0), .unset, .unset] [(.int 0)]))
  refine G.istoreN H1 (L' := #[.val (.int x0), .val (.int x0), .val (.int 0), .unset]) D8_4 (pc' := 5) rfl rfl ?_
  refine G.iloadN H1 D8_5 (pc' := 6) rfl rfl ?_
  refine G.callS H1 (m12_isNullSlot V x0 h0 H1.old cc0) (wd7 V) (wd8 V) (wd5 V) (wd9 V) (by decide) (argsL := [(.int x0)]) (rest := []) (W := 0) rfl rfl (lenOf (pd_0) rfl) rfl rfl D8_6 (pc' := 9) rfl (by decide) (by decide) (by decide) (by decide) all0 ?_
  intro T5 h5_ v6 s7 H5 Q8
  obtain ⟨rfl, rfl, rfl⟩ := Q8
  show Go p e below _ (T5.setTop (mkF m 9 #[.val (.int x0), .val (.int x0), .val (.int 0), .unset] [(.int 0)]))
  refine G.istoreN H5 (L' := #[.val (.int x0), .val (.int x0), .val (.int 0), .val (.int 0)]) D8_9 (pc' := 10) rfl rfl ?_
  refine G.iloadN H5 D8_10 (pc' := 11) rfl rfl ?_
  refine G.ifNo H5 D8_11 (pc' := 14) rfl (by decide) ?_
  refine G.iloadN H5 D8_14 (pc' := 15) rfl rfl ?_
  refine G.ifYes H5 D8_15 (by decide) (by decide) (pc' := 32) rfl ?_
  refine G.iloadN H5 D8_32 (pc' := 33) rfl rfl ?_
  refine G.iloadN H5 D8_33 (pc' := 34) rfl rfl ?_
  refine G.callS H5 (m34_sameStr V x0 h0 H5.old) (wd57 V) (wd58 V) (wd5 V) (wd59 V) (by decide) (argsL := [(.int x0), (.int x0)]) (rest := []) (W := 0) rfl rfl (lenOf (pd_7) rfl) rfl rfl D8_34 (pc' := 37) rfl (by decide) (by decide) (by decide) (by decide) all0 ?_
  intro T9 h9_ v10 s11 H9 Q12
  obtain ⟨rfl, rfl, rfl⟩ := Q12
  show Go p e below _ (T9.setTop (mkF m 37 #[.val (.int x0), .val (.int x0), .val (.int 0), .val (.int 0)] [(.int 1)]))
  exact G.retN H9 (t := .boolean) rfl (by decide) D8_37 (so := []) all0 (by decide) (by decide) ⟨rfl, rfl, rfl⟩
set_option maxRecDepth 65536 in
set_option maxHeartbeats 40000000 in
theorem m39_equals (V : Env1 Z a0 n0 uu0 uu1) (p0 : Addr) (p1 : Addr) (p2 : Addr) (c0 : ClassId) (cs0 : List Int32) (p3 : Addr) (c1 : ClassId) (h0 : Heap) (hO : Old Z n0 h0) (q0 : p0 ≠ p1) (f1 : Exa Z h0 p0 "java/lang/String") (f2 : Str Z h0 p0 p2 c0 cs0) (f3 : Str Z h0 p1 p3 c1 cs0) :
    Met Z a0 ELs True n0 l (⟨"java/util/Objects", "equals", "(Ljava/lang/Object;Ljava/lang/Object;)Z"⟩ : MethodName) jdk_31_method_2_code 2 (Option.some FieldType.boolean) ({ frames := 2, cells := 0, slots := 0, locals := 28 } : Room) #[(.ref p0), (.ref p1)] h0 [] (fun v h so => (cs0 = cs0 ∧ v = some (.int 1) ∧ so = [] ∧ h0 = h) ∨ (¬ cs0 = cs0 ∧ v = some (.int 0) ∧ so = [] ∧ h0 = h)) := by
  refine Met.of (EWl V) (by first | decide +kernel | rfl) hO (L0 := #[.val (.ref p0), .val (.ref p1)]) rfl ?_
  intro p e s m below meth c T H
  show Go p e below _ (T.setTop (mkF m 0 #[.val (.ref p0), .val (.ref p1)] []))
  refine G.aloadN H D0_0 (pc' := 1) rfl rfl rfl ?_
  refine G.aloadN H D0_1 (pc' := 2) rfl rfl rfl ?_
  refine G.acmpNo H D0_2 (pc' := 5) rfl rfl rfl (XT.aa_eq_f (fun q => q0 (Value.ref.inj q))) ?_
  refine G.aloadN H D0_5 (pc' := 6) rfl rfl rfl ?_
  refine G.ifnullNo H D0_6 (pc' := 9) rfl ?_
  refine G.aloadN H D0_9 (pc' := 10) rfl rfl rfl ?_
  refine G.aloadN H D0_10 (pc' := 11) rfl rfl rfl ?_
  refine G.strEq H (strwEq V) (wd14 V) (yc := "java/lang/Object") (wd71 V) (by decide) (wd72 V) (nf_rt (wd86 V)) (wd74 V) (wd75 V) f2 f3 (hv0 V) (hv1 V) (rest := []) (W := 0) rfl rfl D0_11 (pc' := 14) rfl (by decide) (by decide) (by decide) (by decide) ?_ ?_
  ·
    intro T1 H2 c3
    refine G.ifNo H2 D0_14 (pc' := 17) rfl (by decide) ?_
    refine G.iconst H2 D0_17 (pc' := 18) rfl (v := 1) rfl ?_
    refine G.goto H2 D0_18 (by decide) (pc' := 22) rfl ?_
    exact G.retN H2 (t := .boolean) rfl (by decide) D0_22 (so := []) all0 (by decide) (by decide) (Or.inl ⟨c3, rfl, rfl, rfl⟩)
  ·
    intro T4 H5 c6
    refine G.ifYes H5 D0_14 (by decide) (by decide) (pc' := 21) rfl ?_
    refine G.iconst H5 D0_21 (pc' := 22) rfl (v := 0) rfl ?_
    exact G.retN H5 (t := .boolean) rfl (by decide) D0_22 (so := []) all0 (by decide) (by decide) (Or.inr ⟨c6, rfl, rfl, rfl⟩)
set_option maxRecDepth 65536 in
set_option maxHeartbeats 40000000 in
theorem m40_equals (V : Env1 Z a0 n0 uu0 uu1) (p0 : Addr) (p1 : Addr) (p2 : Addr) (p3 : Addr) (p4 : Addr) (c0 : ClassId) (cs0 : List Int32) (p5 : Addr) (c1 : ClassId) (p6 : Addr) (p7 : Addr) (p8 : Addr) (c2 : ClassId) (cs1 : List Int32) (p9 : Addr) (c3 : ClassId) (cs2 : List Int32) (h0 : Heap) (hO : Old Z n0 h0) (f0 : Exa Z h0 p1 "com/example/schema_to_form/schematoform/record/ValuePath") (f1 : Fld Z h0 p0 "com/example/schema_to_form/schematoform/record/ValuePath" "slot" "Ljava/lang/String;" (.ref p2)) (f2 : Fld Z h0 p1 "com/example/schema_to_form/schematoform/record/ValuePath" "slot" "Ljava/lang/String;" (.ref p3)) (q3 : p2 ≠ p3) (f4 : Exa Z h0 p2 "java/lang/String") (f5 : Str Z h0 p2 p4 c0 cs0) (f6 : Str Z h0 p3 p5 c1 cs0) (f7 : Fld Z h0 p0 "com/example/schema_to_form/schematoform/record/ValuePath" "name" "Ljava/lang/String;" (.ref p6)) (f8 : Fld Z h0 p1 "com/example/schema_to_form/schematoform/record/ValuePath" "name" "Ljava/lang/String;" (.ref p7)) (f9 : Str Z h0 p6 p8 c2 cs1) (f10 : Str Z h0 p7 p9 c3 cs2) (cl11 : cs1 = cs2) :
    Met Z a0 ELs True n0 l (⟨"com/example/schema_to_form/schematoform/record/ValuePath", "equals", "(Ljava/lang/Object;)Z"⟩ : MethodName) prog_7_method_4_code 2 (Option.some FieldType.boolean) ({ frames := 3, cells := 0, slots := 0, locals := 41 } : Room) #[(.ref p0), (.ref p1)] h0 [] (fun v h so => (cs0 = cs0 ∧ cs1 = cs2 ∧ v = some (.int 1) ∧ so = [] ∧ h0 = h)) := by
  refine Met.of (EWl V) (by first | decide +kernel | rfl) hO (L0 := #[.val (.ref p0), .val (.ref p1)]) rfl ?_
  intro p e s m below meth c T H
  show Go p e below _ (T.setTop (mkF m 0 #[.val (.ref p0), .val (.ref p1)] []))
  refine G.aloadN H D10_0 (pc' := 1) rfl rfl rfl ?_
  refine G.instY H (wd65 V) (Ins.self f0) D10_1 (pc' := 4) rfl ?_
  intro T1 H2
  refine G.ifNo H2 D10_4 (pc' := 7) rfl (by decide) ?_
  refine G.aloadN H2 D10_7 (pc' := 8) rfl rfl rfl ?_
  refine G.getF H2 (wd50 V) Via.refl f1 D10_8 (pc' := 11) rfl ?_
  intro T3 H4
  refine G.aloadN H4 D10_11 (pc' := 12) rfl rfl rfl ?_
  refine G.castY H4 (wd65 V) (Ins.self f0) D10_12 (pc' := 15) rfl ?_
  intro T5 H6
  refine G.getF H6 (wd50 V) Via.refl f2 D10_15 (pc' := 18) rfl ?_
  intro T7 H8
  refine G.callS H8 (m39_equals V p2 p3 p4 c0 cs0 p5 c1 h0 H8.old q3 f4 f5 f6) (wd67 V) (wd68 V) (wd69 V) (wd70 V) (by decide) (argsL := [(.ref p2), (.ref p3)]) (rest := []) (W := 0) rfl rfl (lenOf (pd_6) rfl) rfl rfl D10_18 (pc' := 21) rfl (by decide) (by decide) (by decide) (by decide) all0 ?_
  intro T9 h9_ v10 s11 H9 Q12
  rcases Q12 with ⟨c13, rfl, rfl, rfl⟩ | ⟨c14, rfl, rfl, rfl⟩
  ·
    show Go p e below _ (T9.setTop (mkF m 21 #[.val (.ref p0), .val (.ref p1)] [(.int 1)]))
    refine G.ifNo H9 D10_21 (pc' := 24) rfl (by decide) ?_
    refine G.aloadN H9 D10_24 (pc' := 25) rfl rfl rfl ?_
    refine G.getF H9 (wd52 V) Via.refl f7 D10_25 (pc' := 28) rfl ?_
    intro T15 H16
    refine G.aloadN H16 D10_28 (pc' := 29) rfl rfl rfl ?_
    refine G.castY H16 (wd65 V) (Ins.self f0) D10_29 (pc' := 32) rfl ?_
    intro T17 H18
    refine G.getF H18 (wd52 V) Via.refl f8 D10_32 (pc' := 35) rfl ?_
    intro T19 H20
    refine G.strEq H20 (strwEq V) (wd14 V) (yc := "java/lang/String") (wd82 V) (by decide) (wd83 V) (nf_sel (wd84 V)) (wd84 V) (wd75 V) f9 f10 (hv0 V) (hv1 V) (rest := []) (W := 0) rfl rfl D10_35 (pc' := 38) rfl (by decide) (by decide) (by decide) (by decide) ?_ ?_
    ·
      intro T21 H22 c23
      refine G.ifNo H22 D10_38 (pc' := 41) rfl (by decide) ?_
      refine G.iconst H22 D10_41 (pc' := 42) rfl (v := 1) rfl ?_
      refine G.goto H22 D10_42 (by decide) (pc' := 46) rfl ?_
      exact G.retN H22 (t := .boolean) rfl (by decide) D10_46 (so := []) all0 (by decide) (by decide) ⟨c13, c23, rfl, rfl, rfl⟩
    ·
      intro T24 H25 c26
      exact absurd cl11 c26
  ·
    exact absurd rfl c14
set_option maxRecDepth 65536 in
set_option maxHeartbeats 40000000 in
theorem m41_equals (V : Env1 Z a0 n0 uu0 uu1) (p0 : Addr) (p1 : Addr) (p2 : Addr) (p3 : Addr) (p4 : Addr) (c0 : ClassId) (cs0 : List Int32) (p5 : Addr) (c1 : ClassId) (p6 : Addr) (p7 : Addr) (p8 : Addr) (c2 : ClassId) (cs1 : List Int32) (p9 : Addr) (c3 : ClassId) (cs2 : List Int32) (h0 : Heap) (hO : Old Z n0 h0) (f0 : Exa Z h0 p1 "com/example/schema_to_form/schematoform/record/ValuePath") (f1 : Fld Z h0 p0 "com/example/schema_to_form/schematoform/record/ValuePath" "slot" "Ljava/lang/String;" (.ref p2)) (f2 : Fld Z h0 p1 "com/example/schema_to_form/schematoform/record/ValuePath" "slot" "Ljava/lang/String;" (.ref p3)) (q3 : p2 ≠ p3) (f4 : Exa Z h0 p2 "java/lang/String") (f5 : Str Z h0 p2 p4 c0 cs0) (f6 : Str Z h0 p3 p5 c1 cs0) (f7 : Fld Z h0 p0 "com/example/schema_to_form/schematoform/record/ValuePath" "name" "Ljava/lang/String;" (.ref p6)) (f8 : Fld Z h0 p1 "com/example/schema_to_form/schematoform/record/ValuePath" "name" "Ljava/lang/String;" (.ref p7)) (f9 : Str Z h0 p6 p8 c2 cs1) (f10 : Str Z h0 p7 p9 c3 cs2) (cl11 : ¬ cs1 = cs2) :
    Met Z a0 ELs True n0 l (⟨"com/example/schema_to_form/schematoform/record/ValuePath", "equals", "(Ljava/lang/Object;)Z"⟩ : MethodName) prog_7_method_4_code 2 (Option.some FieldType.boolean) ({ frames := 3, cells := 0, slots := 0, locals := 41 } : Room) #[(.ref p0), (.ref p1)] h0 [] (fun v h so => (cs0 = cs0 ∧ ¬ cs1 = cs2 ∧ v = some (.int 0) ∧ so = [] ∧ h0 = h)) := by
  refine Met.of (EWl V) (by first | decide +kernel | rfl) hO (L0 := #[.val (.ref p0), .val (.ref p1)]) rfl ?_
  intro p e s m below meth c T H
  show Go p e below _ (T.setTop (mkF m 0 #[.val (.ref p0), .val (.ref p1)] []))
  refine G.aloadN H D10_0 (pc' := 1) rfl rfl rfl ?_
  refine G.instY H (wd65 V) (Ins.self f0) D10_1 (pc' := 4) rfl ?_
  intro T1 H2
  refine G.ifNo H2 D10_4 (pc' := 7) rfl (by decide) ?_
  refine G.aloadN H2 D10_7 (pc' := 8) rfl rfl rfl ?_
  refine G.getF H2 (wd50 V) Via.refl f1 D10_8 (pc' := 11) rfl ?_
  intro T3 H4
  refine G.aloadN H4 D10_11 (pc' := 12) rfl rfl rfl ?_
  refine G.castY H4 (wd65 V) (Ins.self f0) D10_12 (pc' := 15) rfl ?_
  intro T5 H6
  refine G.getF H6 (wd50 V) Via.refl f2 D10_15 (pc' := 18) rfl ?_
  intro T7 H8
  refine G.callS H8 (m39_equals V p2 p3 p4 c0 cs0 p5 c1 h0 H8.old q3 f4 f5 f6) (wd67 V) (wd68 V) (wd69 V) (wd70 V) (by decide) (argsL := [(.ref p2), (.ref p3)]) (rest := []) (W := 0) rfl rfl (lenOf (pd_6) rfl) rfl rfl D10_18 (pc' := 21) rfl (by decide) (by decide) (by decide) (by decide) all0 ?_
  intro T9 h9_ v10 s11 H9 Q12
  rcases Q12 with ⟨c13, rfl, rfl, rfl⟩ | ⟨c14, rfl, rfl, rfl⟩
  ·
    show Go p e below _ (T9.setTop (mkF m 21 #[.val (.ref p0), .val (.ref p1)] [(.int 1)]))
    refine G.ifNo H9 D10_21 (pc' := 24) rfl (by decide) ?_
    refine G.aloadN H9 D10_24 (pc' := 25) rfl rfl rfl ?_
    refine G.getF H9 (wd52 V) Via.refl f7 D10_25 (pc' := 28) rfl ?_
    intro T15 H16
    refine G.aloadN H16 D10_28 (pc' := 29) rfl rfl rfl ?_
    refine G.castY H16 (wd65 V) (Ins.self f0) D10_29 (pc' := 32) rfl ?_
    intro T17 H18
    refine G.getF H18 (wd52 V) Via.refl f8 D10_32 (pc' := 35) rfl ?_
    intro T19 H20
    refine G.strEq H20 (strwEq V) (wd14 V) (yc := "java/lang/String") (wd82 V) (by decide) (wd83 V) (nf_sel (wd84 V)) (wd84 V) (wd75 V) f9 f10 (hv0 V) (hv1 V) (rest := []) (W := 0) rfl rfl D10_35 (pc' := 38) rfl (by decide) (by decide) (by decide) (by decide) ?_ ?_
    ·
      intro T21 H22 c23
      exact absurd c23 cl11
    ·
      intro T24 H25 c26
      refine G.ifYes H25 D10_38 (by decide) (by decide) (pc' := 45) rfl ?_
      refine G.iconst H25 D10_45 (pc' := 46) rfl (v := 0) rfl ?_
      exact G.retN H25 (t := .boolean) rfl (by decide) D10_46 (so := []) all0 (by decide) (by decide) ⟨c13, c26, rfl, rfl, rfl⟩
  ·
    exact absurd rfl c14
set_option maxRecDepth 65536 in
set_option maxHeartbeats 40000000 in
theorem m42_slot (V : Env1 Z a0 n0 uu0 uu1) (x0 : Int32) (h0 : Heap) (hO : Old Z n0 h0) (cc0 : ¬ ((XT.ushr x0 26) &&& 1) = 0) :
    Met Z a0 ELs True n0 l (⟨"com/example/schema_to_form/schematoform/record/ValuePathEqualsPinLaw", "slot", "(I)Ljava/lang/String;"⟩ : MethodName) method_4_code 1 (Option.some (FieldType.object "java/lang/String")) ({ frames := 1, cells := 0, slots := 0, locals := 12 } : Room) #[(.int x0)] h0 [] (fun v h so => (v = some .null ∧ so = [] ∧ h0 = h)) := by
  refine Met.of (EWl V) (by first | decide +kernel | rfl) hO (L0 := #[.val (.int x0)]) rfl ?_
  intro p e s m below meth c T H
  show Go p e below _ (T.setTop (mkF m 0 #[.val (.int x0)] []))
  refine G.iloadN H D6_0 (pc' := 1) rfl rfl ?_
  refine G.callS H (m21_isNullSlot V x0 h0 H.old cc0) (wd7 V) (wd8 V) (wd5 V) (wd9 V) (by decide) (argsL := [(.int x0)]) (rest := []) (W := 0) rfl rfl (lenOf (pd_0) rfl) rfl rfl D6_1 (pc' := 4) rfl (by decide) (by decide) (by decide) (by decide) all0 ?_
  intro T1 h1_ v2 s3 H1 Q4
  obtain ⟨rfl, rfl, rfl⟩ := Q4
  show Go p e below _ (T1.setTop (mkF m 4 #[.val (.int x0)] [(.int 1)]))
  refine G.ifNo H1 D6_4 (pc' := 7) rfl (by decide) ?_
  refine G.aconstNull H1 D6_7 (pc' := 8) rfl ?_
  exact G.retA H1 (t := (.object "java/lang/String")) rfl rfl rfl D6_8 (so := []) all0 (by decide) (by decide) ⟨rfl, rfl, rfl⟩
set_option maxRecDepth 65536 in
set_option maxHeartbeats 40000000 in
theorem m43_sameSlot (V : Env1 Z a0 n0 uu0 uu1) (x0 : Int32) (h0 : Heap) (hO : Old Z n0 h0) (cc0 : ¬ ((XT.ushr x0 26) &&& 1) = 0) :
    Met Z a0 ELs True n0 l (⟨"com/example/schema_to_form/schematoform/record/ValuePathEqualsPinLaw", "sameSlot", "(II)Z"⟩ : MethodName) method_6_code 4 (Option.some FieldType.boolean) ({ frames := 1, cells := 0, slots := 0, locals := 12 } : Room) #[(.int x0), (.int x0)] h0 [] (fun v h so => (v = some (.int 1) ∧ so = [] ∧ h0 = h)) := by
  refine Met.of (EWl V) (by first | decide +kernel | rfl) hO (L0 := #[.val (.int x0), .val (.int x0), .unset, .unset]) rfl ?_
  intro p e s m below meth c T H
  show Go p e below _ (T.setTop (mkF m 0 #[.val (.int x0), .val (.int x0), .unset, .unset] []))
  refine G.iloadN H D8_0 (pc' := 1) rfl rfl ?_
  refine G.callS H (m21_isNullSlot V x0 h0 H.old cc0) (wd7 V) (wd8 V) (wd5 V) (wd9 V) (by decide) (argsL := [(.int x0)]) (rest := []) (W := 0) rfl rfl (lenOf (pd_0) rfl) rfl rfl D8_1 (pc' := 4) rfl (by decide) (by decide) (by decide) (by decide) all0 ?_
  intro T1 h1_ v2 s3 H1 Q4
  obtain ⟨rfl, rfl, rfl⟩ := Q4
  show Go p e below _ (T1.setTop (mkF m 4 #[.val (.int x0), .val (.int x0), .unset, .unset] [(.int 1)]))
  refine G.istoreN H1 (L' := #[.val (.int x0), .val (.int x0), .val (.int 1), .unset]) D8_4 (pc' := 5) rfl rfl ?_
  refine G.iloadN H1 D8_5 (pc' := 6) rfl rfl ?_
  refine G.callS H1 (m21_isNullSlot V x0 h0 H1.old cc0) (wd7 V) (wd8 V) (wd5 V) (wd9 V) (by decide) (argsL := [(.int x0)]) (rest := []) (W := 0) rfl rfl (lenOf (pd_0) rfl) rfl rfl D8_6 (pc' := 9) rfl (by decide) (by decide) (by decide) (by decide) all0 ?_
  intro T5 h5_ v6 s7 H5 Q8
  obtain ⟨rfl, rfl, rfl⟩ := Q8
  show Go p e below _ (T5.setTop (mkF m 9 #[.val (.int x0), .val (.int x0), .val (.int 1), .unset] [(.int 1)]))
  refine G.istoreN H5 (L' := #[.val (.int x0), .val (.int x0), .val (.int 1), .val (.int 1)]) D8_9 (pc' := 10) rfl rfl ?_
  refine G.iloadN H5 D8_10 (pc' := 11) rfl rfl ?_
  refine G.ifYes H5 D8_11 (by decide) (by decide) (pc' := 18) rfl ?_
  refine G.iloadN H5 D8_18 (pc' := 19) rfl rfl ?_
  refine G.ifNo H5 D8_19 (pc' := 22) rfl (by decide) ?_
  refine G.iloadN H5 D8_22 (pc' := 23) rfl rfl ?_
  refine G.ifNo H5 D8_23 (pc' := 26) rfl (by decide) ?_
  refine G.iconst H5 D8_26 (pc' := 27) rfl (v := 1) rfl ?_
  refine G.goto H5 D8_27 (by decide) (pc' := 31) rfl ?_
  exact G.retN H5 (t := .boolean) rfl (by decide) D8_31 (so := []) all0 (by decide) (by decide) ⟨rfl, rfl, rfl⟩
set_option maxRecDepth 65536 in
set_option maxHeartbeats 40000000 in
theorem m44_equals (V : Env1 Z a0 n0 uu0 uu1) (p0 : Addr) (p1 : Addr) (p2 : Addr) (p3 : Addr) (p4 : Addr) (c0 : ClassId) (cs0 : List Int32) (p5 : Addr) (c1 : ClassId) (p6 : Addr) (p7 : Addr) (p8 : Addr) (c2 : ClassId) (cs1 : List Int32) (p9 : Addr) (c3 : ClassId) (h0 : Heap) (hO : Old Z n0 h0) (f0 : Exa Z h0 p1 "com/example/schema_to_form/schematoform/record/ValuePath") (f1 : Fld Z h0 p0 "com/example/schema_to_form/schematoform/record/ValuePath" "slot" "Ljava/lang/String;" (.ref p2)) (f2 : Fld Z h0 p1 "com/example/schema_to_form/schematoform/record/ValuePath" "slot" "Ljava/lang/String;" (.ref p3)) (q3 : p2 ≠ p3) (f4 : Exa Z h0 p2 "java/lang/String") (f5 : Str Z h0 p2 p4 c0 cs0) (f6 : Str Z h0 p3 p5 c1 cs0) (f7 : Fld Z h0 p0 "com/example/schema_to_form/schematoform/record/ValuePath" "name" "Ljava/lang/String;" (.ref p6)) (f8 : Fld Z h0 p1 "com/example/schema_to_form/schematoform/record/ValuePath" "name" "Ljava/lang/String;" (.ref p7)) (f9 : Str Z h0 p6 p8 c2 cs1) (f10 : Str Z h0 p7 p9 c3 cs1) :
    Met Z a0 ELs True n0 l (⟨"com/example/schema_to_form/schematoform/record/ValuePath", "equals", "(Ljava/lang/Object;)Z"⟩ : MethodName) prog_7_method_4_code 2 (Option.some FieldType.boolean) ({ frames := 3, cells := 0, slots := 0, locals := 41 } : Room) #[(.ref p0), (.ref p1)] h0 [] (fun v h so => (cs0 = cs0 ∧ cs1 = cs1 ∧ v = some (.int 1) ∧ so = [] ∧ h0 = h) ∨ (cs0 = cs0 ∧ ¬ cs1 = cs1 ∧ v = some (.int 0) ∧ so = [] ∧ h0 = h)) := by
  refine Met.of (EWl V) (by first | decide +kernel | rfl) hO (L0 := #[.val (.ref p0), .val (.ref p1)]) rfl ?_
  intro p e s m below meth c T H
  show Go p e below _ (T.setTop (mkF m 0 #[.val (.ref p0), .val (.ref p1)] []))
  refine G.aloadN H D10_0 (pc' := 1) rfl rfl rfl ?_
  refine G.instY H (wd65 V) (Ins.self f0) D10_1 (pc' := 4) rfl ?_
  intro T1 H2
  refine G.ifNo H2 D10_4 (pc' := 7) rfl (by decide) ?_
  refine G.aloadN H2 D10_7 (pc' := 8) rfl rfl rfl ?_
  refine G.getF H2 (wd50 V) Via.refl f1 D10_8 (pc' := 11) rfl ?_
  intro T3 H4
  refine G.aloadN H4 D10_11 (pc' := 12) rfl rfl rfl ?_
  refine G.castY H4 (wd65 V) (Ins.self f0) D10_12 (pc' := 15) rfl ?_
  intro T5 H6
  refine G.getF H6 (wd50 V) Via.refl f2 D10_15 (pc' := 18) rfl ?_
  intro T7 H8
  refine G.callS H8 (m39_equals V p2 p3 p4 c0 cs0 p5 c1 h0 H8.old q3 f4 f5 f6) (wd67 V) (wd68 V) (wd69 V) (wd70 V) (by decide) (argsL := [(.ref p2), (.ref p3)]) (rest := []) (W := 0) rfl rfl (lenOf (pd_6) rfl) rfl rfl D10_18 (pc' := 21) rfl (by decide) (by decide) (by decide) (by decide) all0 ?_
  intro T9 h9_ v10 s11 H9 Q12
  rcases Q12 with ⟨c13, rfl, rfl, rfl⟩ | ⟨c14, rfl, rfl, rfl⟩
  ·
    show Go p e below _ (T9.setTop (mkF m 21 #[.val (.ref p0), .val (.ref p1)] [(.int 1)]))
    refine G.ifNo H9 D10_21 (pc' := 24) rfl (by decide) ?_
    refine G.aloadN H9 D10_24 (pc' := 25) rfl rfl rfl ?_
    refine G.getF H9 (wd52 V) Via.refl f7 D10_25 (pc' := 28) rfl ?_
    intro T15 H16
    refine G.aloadN H16 D10_28 (pc' := 29) rfl rfl rfl ?_
    refine G.castY H16 (wd65 V) (Ins.self f0) D10_29 (pc' := 32) rfl ?_
    intro T17 H18
    refine G.getF H18 (wd52 V) Via.refl f8 D10_32 (pc' := 35) rfl ?_
    intro T19 H20
    refine G.strEq H20 (strwEq V) (wd14 V) (yc := "java/lang/String") (wd82 V) (by decide) (wd83 V) (nf_sel (wd84 V)) (wd84 V) (wd75 V) f9 f10 (hv0 V) (hv1 V) (rest := []) (W := 0) rfl rfl D10_35 (pc' := 38) rfl (by decide) (by decide) (by decide) (by decide) ?_ ?_
    ·
      intro T21 H22 c23
      refine G.ifNo H22 D10_38 (pc' := 41) rfl (by decide) ?_
      refine G.iconst H22 D10_41 (pc' := 42) rfl (v := 1) rfl ?_
      refine G.goto H22 D10_42 (by decide) (pc' := 46) rfl ?_
      exact G.retN H22 (t := .boolean) rfl (by decide) D10_46 (so := []) all0 (by decide) (by decide) (Or.inl ⟨c13, c23, rfl, rfl, rfl⟩)
    ·
      intro T24 H25 c26
      refine G.ifYes H25 D10_38 (by decide) (by decide) (pc' := 45) rfl ?_
      refine G.iconst H25 D10_45 (pc' := 46) rfl (v := 0) rfl ?_
      exact G.retN H25 (t := .boolean) rfl (by decide) D10_46 (so := []) all0 (by decide) (by decide) (Or.inr ⟨c13, c26, rfl, rfl, rfl⟩)
  ·
    exact absurd rfl c14
set_option maxRecDepth 65536 in
set_option maxHeartbeats 40000000 in
theorem rmLaw (V : Env1 Z a0 n0 uu0 uu1) (x0 : Int32) (x1 : Int32) (x2 : Int32) (x3 : Int32) (x4 : Int32) (h0 : Heap) (hO : Old Z n0 h0) :
    Met Z a0 ELs True n0 l x code maxLocals ret room_1 #[(.int x0), (.int x1), (.int x2), (.int x3), (.int x4)] h0 [] (fun v h so => v = some (.int 1)) := by
  refine Met.of (EWl V) (by first | decide +kernel | rfl) hO (L0 := #[.val (.int x0), .val (.int x1), .val (.int x2), .val (.int x3), .val (.int x4), .unset, .unset, .unset, .unset, .unset, .unset]) rfl ?_
  intro p e s m below meth c T H
  show Go p e below _ (T.setTop (mkF m 0 #[.val (.int x0), .val (.int x1), .val (.int x2), .val (.int x3), .val (.int x4), .unset, .unset, .unset, .unset, .unset, .unset] []))
  refine G.iload H at_0 (pc' := 2) rfl rfl ?_
  refine G.iconst H at_2 (pc' := 3) rfl (v := 1) rfl ?_
  refine G.iand H at_3 (pc' := 4) rfl ?_
  by_cases c1 : (x4 &&& 1) = 0
  ·
    refine G.ifYes H at_4 (XT.i0_eq_t c1) (by decide) (pc' := 11) rfl ?_
    refine G.iloadN H at_11 (pc' := 12) rfl rfl ?_
    refine G.istore H (L' := #[.val (.int x0), .val (.int x1), .val (.int x2), .val (.int x3), .val (.int x4), .val (.int x2), .unset, .unset, .unset, .unset, .unset]) at_12 (pc' := 14) rfl rfl ?_
    refine G.iload H at_14 (pc' := 16) rfl rfl ?_
    refine G.iconst H at_16 (pc' := 17) rfl (v := 2) rfl ?_
    refine G.iand H at_17 (pc' := 18) rfl ?_
    by_cases c2 : (x4 &&& 2) = 0
    ·
      refine G.ifYes H at_18 (XT.i0_eq_t c2) (by decide) (pc' := 25) rfl ?_
      refine G.iloadN H at_25 (pc' := 26) rfl rfl ?_
      refine G.istore H (L' := #[.val (.int x0), .val (.int x1), .val (.int x2), .val (.int x3), .val (.int x4), .val (.int x2), .val (.int x3), .unset, .unset, .unset, .unset]) at_26 (pc' := 28) rfl rfl ?_
      refine G.iload H at_28 (pc' := 30) rfl rfl ?_
      refine G.iconst H at_30 (pc' := 31) rfl (v := 2) rfl ?_
      refine G.iushr H at_31 (pc' := 32) rfl ?_
      refine G.iconst H at_32 (pc' := 33) rfl (v := 3) rfl ?_
      refine G.iand H at_33 (pc' := 34) rfl ?_
      refine G.istore H (L' := #[.val (.int x0), .val (.int x1), .val (.int x2), .val (.int x3), .val (.int x4), .val (.int x2), .val (.int x3), .val (.int ((XT.ushr x4 2) &&& 3)), .unset, .unset, .unset]) at_34 (pc' := 36) rfl rfl ?_
      refine G.new H (wd0 V) (wd1 V) (wd2 V) at_36 (pc' := 39) rfl (by decide) (by decide) ?_
      intro T3 h3_ a4 ga4 H3 E5 A6 D7
      have na4 := H.nle ga4
      refine G.dup H3 at_39 (pc' := 40) rfl rfl ?_
      refine G.iloadN H3 at_40 (pc' := 41) rfl rfl ?_
      refine G.callS H3 (m5_slot V x0 h3_ H3.old) (wd3 V) (wd4 V) (wd5 V) (wd6 V) (by decide) (argsL := [(.int x0)]) (rest := [(.ref a4), (.ref a4)]) (W := 2) rfl rfl (lenOf (pd_3) rfl) rfl rfl at_41 (pc' := 44) rfl (by decide) (by decide) (by decide) (by decide) all0 ?_
      intro T8 h8_ v9 s10 H8 Q11
      rcases Q11 with ⟨a12, a13, k14, c15, rfl, rfl, K16, g17, F18⟩ | ⟨c19, rfl, rfl, rfl⟩
      ·
        have na12 : n0 ≤ a12 := Nat.le_trans H3.le g17
        show Go p e below _ (T8.setTop (mkF m 44 #[.val (.int x0), .val (.int x1), .val (.int x2), .val (.int x3), .val (.int x4), .val (.int x2), .val (.int x3), .val (.int ((XT.ushr x4 2) &&& 3)), .unset, .unset, .unset] [(.ref a12), (.ref a4), (.ref a4)]))
        refine G.iloadN H8 at_44 (pc' := 45) rfl rfl ?_
        refine G.callS H8 (m4_str V x1 h8_ H8.old) (wd10 V) (wd11 V) (wd5 V) (wd12 V) (by decide) (argsL := [(.int x1)]) (rest := [(.ref a12), (.ref a4), (.ref a4)]) (W := 3) rfl rfl (lenOf (pd_3) rfl) rfl rfl at_45 (pc' := 48) rfl (by decide) (by decide) (by decide) (by decide) all0 ?_
        intro T20 h20_ v21 s22 H20 Q23
        obtain ⟨a24, a25, k26, rfl, rfl, K27, g28, F29⟩ := Q23
        have na24 : n0 ≤ a24 := Nat.le_trans H8.le g28
        show Go p e below _ (T20.setTop (mkF m 48 #[.val (.int x0), .val (.int x1), .val (.int x2), .val (.int x3), .val (.int x4), .val (.int x2), .val (.int x3), .val (.int ((XT.ushr x4 2) &&& 3)), .unset, .unset, .unset] [(.ref a24), (.ref a12), (.ref a4), (.ref a4)]))
        have K30 : Keep h3_ h20_ [] := (Keep.trans (Keep.trans (Keep.refl h3_ []) K16 all0) K27 all0)
        have F31 := (Exa.keep A6 K30)
        have F32 : Fld Z h3_ a4 "com/example/schema_to_form/schematoform/record/ValuePath" "slot" "Ljava/lang/String;" .null := D7 (Or.inr (wd51 V)) (ty := (.object "java/lang/String")) (by decide)
        have F33 := (Fld.keep F32 K30 nin0)
        have F34 : Fld Z h3_ a4 "com/example/schema_to_form/schematoform/record/ValuePath" "name" "Ljava/lang/String;" .null := D7 (Or.inr (wd53 V)) (ty := (.object "java/lang/String")) (by decide)
        have F35 := (Fld.keep F34 K30 nin0)
        refine G.callI H20 (m6_init V a4 a12 a24 h20_ H20.old F31 F33 na4 F35) rfl (wd46 V) (wd47 V) (wd2 V) (wd48 V) (by decide) (a := a4) (argsL := [(.ref a12), (.ref a24)]) (rest := [(.ref a4)]) (W := 1) rfl rfl (lenOf (pd_4) rfl) rfl rfl at_48 (pc' := 51) rfl (by decide) (by decide) (by decide) (by decide) all0 ?_
        intro T36 h36_ v37 s38 H36 Q39
        obtain ⟨rfl, rfl, K40, U41, F42, F43, F44⟩ := Q39
        show Go p e below _ (T36.setTop (mkF m 51 #[.val (.int x0), .val (.int x1), .val (.int x2), .val (.int x3), .val (.int x4), .val (.int x2), .val (.int x3), .val (.int ((XT.ushr x4 2) &&& 3)), .unset, .unset, .unset] [(.ref a4)]))
        refine G.astore H36 (L' := #[.val (.int x0), .val (.int x1), .val (.int x2), .val (.int x3), .val (.int x4), .val (.int x2), .val (.int x3), .val (.int ((XT.ushr x4 2) &&& 3)), .val (.ref a4), .unset, .unset]) at_51 (pc' := 53) rfl rfl rfl ?_
        refine G.iload H36 at_53 (pc' := 55) rfl rfl ?_
        refine G.iconst H36 at_55 (pc' := 56) rfl (v := 2) rfl ?_
        by_cases c45 : ((XT.ushr x4 2) &&& 3) = 2
        ·
          refine G.icmpNo H36 at_56 (pc' := 59) rfl (XT.ii_ne_f c45) ?_
          refine G.aconstNull H36 at_59 (pc' := 60) rfl ?_
          refine G.astore H36 (L' := #[.val (.int x0), .val (.int x1), .val (.int x2), .val (.int x3), .val (.int x4), .val (.int x2), .val (.int x3), .val (.int ((XT.ushr x4 2) &&& 3)), .val (.ref a4), .val .null, .unset]) at_60 (pc' := 62) rfl rfl rfl ?_
          refine G.iconst H36 at_62 (pc' := 63) rfl (v := 0) rfl ?_
          refine G.istore H36 (L' := #[.val (.int x0), .val (.int x1), .val (.int x2), .val (.int x3), .val (.int x4), .val (.int x2), .val (.int x3), .val (.int ((XT.ushr x4 2) &&& 3)), .val (.ref a4), .val .null, .val (.int 0)]) at_63 (pc' := 65) rfl rfl ?_
          refine G.goto H36 at_65 (by decide) (pc' := 130) rfl ?_
          refine G.aload H36 at_130 (pc' := 132) rfl rfl rfl ?_
          refine G.aload H36 at_132 (pc' := 134) rfl rfl rfl ?_
          refine G.callV H36 (m7_equals V a4 h36_ H36.old) (wd60 V) (wd61 V) (nf_sel (wd63 V)) (wd63 V) (wd62 V) (wd2 V) (wd64 V) (by decide) F42 (argsL := [.null]) (rest := []) (W := 0) rfl rfl (lenOf (pd_5) rfl) rfl rfl at_134 (pc' := 137) rfl (by decide) (by decide) (by decide) (by decide) all0 ?_
          intro T46 h46_ v47 s48 H46 Q49
          obtain ⟨rfl, rfl, rfl⟩ := Q49
          show Go p e below _ (T46.setTop (mkF m 137 #[.val (.int x0), .val (.int x1), .val (.int x2), .val (.int x3), .val (.int x4), .val (.int x2), .val (.int x3), .val (.int ((XT.ushr x4 2) &&& 3)), .val (.ref a4), .val .null, .val (.int 0)] [(.int 0)]))
          refine G.iload H46 at_137 (pc' := 139) rfl rfl ?_
          refine G.icmpNo H46 at_139 (pc' := 142) rfl (by decide) ?_
          refine G.aload H46 at_142 (pc' := 144) rfl rfl rfl ?_
          refine G.aload H46 at_144 (pc' := 146) rfl rfl rfl ?_
          have F50 := (Exa.keep F29.1 K40)
          refine G.callV H46 (m10_equals V a4 a12 a24 h36_ H46.old F42 F43 F44 F50) (wd60 V) (wd61 V) (nf_sel (wd63 V)) (wd63 V) (wd62 V) (wd2 V) (wd64 V) (by decide) F42 (argsL := [(.ref a4)]) (rest := []) (W := 0) rfl rfl (lenOf (pd_5) rfl) rfl rfl at_146 (pc' := 149) rfl (by decide) (by decide) (by decide) (by decide) all0 ?_
          intro T51 h51_ v52 s53 H51 Q54
          obtain ⟨rfl, rfl, rfl⟩ := Q54
          show Go p e below _ (T51.setTop (mkF m 149 #[.val (.int x0), .val (.int x1), .val (.int x2), .val (.int x3), .val (.int x4), .val (.int x2), .val (.int x3), .val (.int ((XT.ushr x4 2) &&& 3)), .val (.ref a4), .val .null, .val (.int 0)] [(.int 1)]))
          refine G.ifNo H51 at_149 (pc' := 152) rfl (by decide) ?_
          refine G.iconst H51 at_152 (pc' := 153) rfl (v := 1) rfl ?_
          refine G.goto H51 at_153 (by decide) (pc' := 157) rfl ?_
          exact G.retN H51 (t := .boolean) rfl (by decide) at_157 (so := []) all0 (by decide) (by decide) rfl
        ·
          refine G.icmpYes H36 at_56 (XT.ii_ne_t c45) (by decide) (pc' := 68) rfl ?_
          refine G.iload H36 at_68 (pc' := 70) rfl rfl ?_
          refine G.iconst H36 at_70 (pc' := 71) rfl (v := 3) rfl ?_
          by_cases c55 : ((XT.ushr x4 2) &&& 3) = 3
          ·
            refine G.icmpNo H36 at_71 (pc' := 74) rfl (XT.ii_ne_f c55) ?_
            refine G.iloadN H36 at_74 (pc' := 75) rfl rfl ?_
            refine G.callS H36 (m4_str V x1 h36_ H36.old) (wd10 V) (wd11 V) (wd5 V) (wd12 V) (by decide) (argsL := [(.int x1)]) (rest := []) (W := 0) rfl rfl (lenOf (pd_3) rfl) rfl rfl at_75 (pc' := 78) rfl (by decide) (by decide) (by decide) (by decide) all0 ?_
            intro T56 h56_ v57 s58 H56 Q59
            obtain ⟨a60, a61, k62, rfl, rfl, K63, g64, F65⟩ := Q59
            have na60 : n0 ≤ a60 := Nat.le_trans H36.le g64
            show Go p e below _ (T56.setTop (mkF m 78 #[.val (.int x0), .val (.int x1), .val (.int x2), .val (.int x3), .val (.int x4), .val (.int x2), .val (.int x3), .val (.int ((XT.ushr x4 2) &&& 3)), .val (.ref a4), .unset, .unset] [(.ref a60)]))
            refine G.astore H56 (L' := #[.val (.int x0), .val (.int x1), .val (.int x2), .val (.int x3), .val (.int x4), .val (.int x2), .val (.int x3), .val (.int ((XT.ushr x4 2) &&& 3)), .val (.ref a4), .val (.ref a60), .unset]) at_78 (pc' := 80) rfl rfl rfl ?_
            refine G.iconst H56 at_80 (pc' := 81) rfl (v := 0) rfl ?_
            refine G.istore H56 (L' := #[.val (.int x0), .val (.int x1), .val (.int x2), .val (.int x3), .val (.int x4), .val (.int x2), .val (.int x3), .val (.int ((XT.ushr x4 2) &&& 3)), .val (.ref a4), .val (.ref a60), .val (.int 0)]) at_81 (pc' := 83) rfl rfl ?_
            refine G.goto H56 at_83 (by decide) (pc' := 130) rfl ?_
            refine G.aload H56 at_130 (pc' := 132) rfl rfl rfl ?_
            refine G.aload H56 at_132 (pc' := 134) rfl rfl rfl ?_
            have F66 := (Exa.keep F42 K63)
            refine G.callV H56 (m11_equals V a4 a60 h56_ H56.old F65.1) (wd60 V) (wd61 V) (nf_sel (wd63 V)) (wd63 V) (wd62 V) (wd2 V) (wd64 V) (by decide) F66 (argsL := [(.ref a60)]) (rest := []) (W := 0) rfl rfl (lenOf (pd_5) rfl) rfl rfl at_134 (pc' := 137) rfl (by decide) (by decide) (by decide) (by decide) all0 ?_
            intro T67 h67_ v68 s69 H67 Q70
            obtain ⟨rfl, rfl, rfl⟩ := Q70
            show Go p e below _ (T67.setTop (mkF m 137 #[.val (.int x0), .val (.int x1), .val (.int x2), .val (.int x3), .val (.int x4), .val (.int x2), .val (.int x3), .val (.int ((XT.ushr x4 2) &&& 3)), .val (.ref a4), .val (.ref a60), .val (.int 0)] [(.int 0)]))
            refine G.iload H67 at_137 (pc' := 139) rfl rfl ?_
            refine G.icmpNo H67 at_139 (pc' := 142) rfl (by decide) ?_
            refine G.aload H67 at_142 (pc' := 144) rfl rfl rfl ?_
            refine G.aload H67 at_144 (pc' := 146) rfl rfl rfl ?_
            have F71 := (Fld.keep F43 K63 nin0)
            have F72 := (Fld.keep F44 K63 nin0)
            have K73 : Keep h20_ h56_ [a4] := (Keep.trans (Keep.trans (Keep.refl h20_ [a4]) K40 (allS (Or.inl (mG (i := 0) rfl)) all0)) K63 all0)
            have F74 := (Exa.keep F29.1 K73)
            refine G.callV H67 (m10_equals V a4 a12 a24 h56_ H67.old F66 F71 F72 F74) (wd60 V) (wd61 V) (nf_sel (wd63 V)) (wd63 V) (wd62 V) (wd2 V) (wd64 V) (by decide) F66 (argsL := [(.ref a4)]) (rest := []) (W := 0) rfl rfl (lenOf (pd_5) rfl) rfl rfl at_146 (pc' := 149) rfl (by decide) (by decide) (by decide) (by decide) all0 ?_
            intro T75 h75_ v76 s77 H75 Q78
            obtain ⟨rfl, rfl, rfl⟩ := Q78
            show Go p e below _ (T75.setTop (mkF m 149 #[.val (.int x0), .val (.int x1), .val (.int x2), .val (.int x3), .val (.int x4), .val (.int x2), .val (.int x3), .val (.int ((XT.ushr x4 2) &&& 3)), .val (.ref a4), .val (.ref a60), .val (.int 0)] [(.int 1)]))
            refine G.ifNo H75 at_149 (pc' := 152) rfl (by decide) ?_
            refine G.iconst H75 at_152 (pc' := 153) rfl (v := 1) rfl ?_
            refine G.goto H75 at_153 (by decide) (pc' := 157) rfl ?_
            exact G.retN H75 (t := .boolean) rfl (by decide) at_157 (so := []) all0 (by decide) (by decide) rfl
          ·
            refine G.icmpYes H36 at_71 (XT.ii_ne_t c55) (by decide) (pc' := 86) rfl ?_
            refine G.new H36 (wd0 V) (wd1 V) (wd2 V) at_86 (pc' := 89) rfl (by decide) (by decide) ?_
            intro T79 h79_ a80 ga80 H79 E81 A82 D83
            have na80 := H36.nle ga80
            refine G.dup H79 at_89 (pc' := 90) rfl rfl ?_
            refine G.iload H79 at_90 (pc' := 92) rfl rfl ?_
            refine G.callS H79 (m5_slot V x2 h79_ H79.old) (wd3 V) (wd4 V) (wd5 V) (wd6 V) (by decide) (argsL := [(.int x2)]) (rest := [(.ref a80), (.ref a80)]) (W := 2) rfl rfl (lenOf (pd_3) rfl) rfl rfl at_92 (pc' := 95) rfl (by decide) (by decide) (by decide) (by decide) all0 ?_
            intro T84 h84_ v85 s86 H84 Q87
            rcases Q87 with ⟨a88, a89, k90, c91, rfl, rfl, K92, g93, F94⟩ | ⟨c95, rfl, rfl, rfl⟩
            ·
              have na88 : n0 ≤ a88 := Nat.le_trans H79.le g93
              show Go p e below _ (T84.setTop (mkF m 95 #[.val (.int x0), .val (.int x1), .val (.int x2), .val (.int x3), .val (.int x4), .val (.int x2), .val (.int x3), .val (.int ((XT.ushr x4 2) &&& 3)), .val (.ref a4), .unset, .unset] [(.ref a88), (.ref a80), (.ref a80)]))
              refine G.iload H84 at_95 (pc' := 97) rfl rfl ?_
              refine G.callS H84 (m4_str V x3 h84_ H84.old) (wd10 V) (wd11 V) (wd5 V) (wd12 V) (by decide) (argsL := [(.int x3)]) (rest := [(.ref a88), (.ref a80), (.ref a80)]) (W := 3) rfl rfl (lenOf (pd_3) rfl) rfl rfl at_97 (pc' := 100) rfl (by decide) (by decide) (by decide) (by decide) all0 ?_
              intro T96 h96_ v97 s98 H96 Q99
              obtain ⟨a100, a101, k102, rfl, rfl, K103, g104, F105⟩ := Q99
              have na100 : n0 ≤ a100 := Nat.le_trans H84.le g104
              show Go p e below _ (T96.setTop (mkF m 100 #[.val (.int x0), .val (.int x1), .val (.int x2), .val (.int x3), .val (.int x4), .val (.int x2), .val (.int x3), .val (.int ((XT.ushr x4 2) &&& 3)), .val (.ref a4), .unset, .unset] [(.ref a100), (.ref a88), (.ref a80), (.ref a80)]))
              have K106 : Keep h79_ h96_ [] := (Keep.trans (Keep.trans (Keep.refl h79_ []) K92 all0) K103 all0)
              have F107 := (Exa.keep A82 K106)
              have F108 : Fld Z h79_ a80 "com/example/schema_to_form/schematoform/record/ValuePath" "slot" "Ljava/lang/String;" .null := D83 (Or.inr (wd51 V)) (ty := (.object "java/lang/String")) (by decide)
              have F109 := (Fld.keep F108 K106 nin0)
              have F110 : Fld Z h79_ a80 "com/example/schema_to_form/schematoform/record/ValuePath" "name" "Ljava/lang/String;" .null := D83 (Or.inr (wd53 V)) (ty := (.object "java/lang/String")) (by decide)
              have F111 := (Fld.keep F110 K106 nin0)
              refine G.callI H96 (m6_init V a80 a88 a100 h96_ H96.old F107 F109 na80 F111) rfl (wd46 V) (wd47 V) (wd2 V) (wd48 V) (by decide) (a := a80) (argsL := [(.ref a88), (.ref a100)]) (rest := [(.ref a80)]) (W := 1) rfl rfl (lenOf (pd_4) rfl) rfl rfl at_100 (pc' := 103) rfl (by decide) (by decide) (by decide) (by decide) all0 ?_
              intro T112 h112_ v113 s114 H112 Q115
              obtain ⟨rfl, rfl, K116, U117, F118, F119, F120⟩ := Q115
              show Go p e below _ (T112.setTop (mkF m 103 #[.val (.int x0), .val (.int x1), .val (.int x2), .val (.int x3), .val (.int x4), .val (.int x2), .val (.int x3), .val (.int ((XT.ushr x4 2) &&& 3)), .val (.ref a4), .unset, .unset] [(.ref a80)]))
              refine G.astore H112 (L' := #[.val (.int x0), .val (.int x1), .val (.int x2), .val (.int x3), .val (.int x4), .val (.int x2), .val (.int x3), .val (.int ((XT.ushr x4 2) &&& 3)), .val (.ref a4), .val (.ref a80), .unset]) at_103 (pc' := 105) rfl rfl rfl ?_
              refine G.iloadN H112 at_105 (pc' := 106) rfl rfl ?_
              refine G.iload H112 at_106 (pc' := 108) rfl rfl ?_
              refine G.callS H112 (m14_sameSlot V x0 x2 h112_ H112.old c15 c91) (wd54 V) (wd55 V) (wd5 V) (wd56 V) (by decide) (argsL := [(.int x0), (.int x2)]) (rest := []) (W := 0) rfl rfl (lenOf (pd_7) rfl) rfl rfl at_108 (pc' := 111) rfl (by decide) (by decide) (by decide) (by decide) all0 ?_
              intro T121 h121_ v122 s123 H121 Q124
              rcases Q124 with ⟨c125, rfl, rfl, rfl⟩ | ⟨c126, rfl, rfl, rfl⟩
              ·
                show Go p e below _ (T121.setTop (mkF m 111 #[.val (.int x0), .val (.int x1), .val (.int x2), .val (.int x3), .val (.int x4), .val (.int x2), .val (.int x3), .val (.int ((XT.ushr x4 2) &&& 3)), .val (.ref a4), .val (.ref a80), .unset] [(.int 1)]))
                refine G.ifNo H121 at_111 (pc' := 114) rfl (by decide) ?_
                refine G.iloadN H121 at_114 (pc' := 115) rfl rfl ?_
                refine G.iload H121 at_115 (pc' := 117) rfl rfl ?_
                refine G.callS H121 (m13_sameStr V x1 x3 h112_ H121.old) (wd57 V) (wd58 V) (wd5 V) (wd59 V) (by decide) (argsL := [(.int x1), (.int x3)]) (rest := []) (W := 0) rfl rfl (lenOf (pd_7) rfl) rfl rfl at_117 (pc' := 120) rfl (by decide) (by decide) (by decide) (by decide) all0 ?_
                intro T127 h127_ v128 s129 H127 Q130
                rcases Q130 with ⟨c131, rfl, rfl, rfl⟩ | ⟨c132, rfl, rfl, rfl⟩
                ·
                  show Go p e below _ (T127.setTop (mkF m 120 #[.val (.int x0), .val (.int x1), .val (.int x2), .val (.int x3), .val (.int x4), .val (.int x2), .val (.int x3), .val (.int ((XT.ushr x4 2) &&& 3)), .val (.ref a4), .val (.ref a80), .unset] [(.int 1)]))
                  refine G.ifNo H127 at_120 (pc' := 123) rfl (by decide) ?_
                  refine G.iconst H127 at_123 (pc' := 124) rfl (v := 1) rfl ?_
                  refine G.goto H127 at_124 (by decide) (pc' := 128) rfl ?_
                  refine G.istore H127 (L' := #[.val (.int x0), .val (.int x1), .val (.int x2), .val (.int x3), .val (.int x4), .val (.int x2), .val (.int x3), .val (.int ((XT.ushr x4 2) &&& 3)), .val (.ref a4), .val (.ref a80), .val (.int 1)]) at_128 (pc' := 130) rfl rfl ?_
                  refine G.aload H127 at_130 (pc' := 132) rfl rfl rfl ?_
                  refine G.aload H127 at_132 (pc' := 134) rfl rfl rfl ?_
                  have K133 : Keep h36_ h112_ [] := (Keep.trans (Keep.trans (Keep.trans (Keep.ext (Keep.refl h36_ []) E81) K92 all0) K103 all0) K116 (allS (Or.inr (Nat.le_of_eq ga80.symm)) all0))
                  have F134 := (Exa.keep F42 K133)
                  have F135 := (Fld.keep F43 K133 nin0)
                  have K136 : Keep h8_ h79_ [a4] := (Keep.ext (Keep.trans (Keep.trans (Keep.refl h8_ [a4]) K27 all0) K40 (allS (Or.inl (mG (i := 0) rfl)) all0)) E81)
                  have N137 : a12 ≠ a88 := (Nat.ne_of_lt (Nat.lt_of_lt_of_le (Nat.lt_of_lt_of_le F18.1.lt K136.1) g93))
                  have K138 : Keep h8_ h36_ [a4] := (Keep.trans (Keep.trans (Keep.refl h8_ [a4]) K27 all0) K40 (allS (Or.inl (mG (i := 0) rfl)) all0))
                  have K139 : Keep h8_ h112_ [a4] := (Keep.trans (Keep.trans (Keep.trans (Keep.ext (Keep.trans (Keep.trans (Keep.refl h8_ [a4]) K27 all0) K40 (allS (Or.inl (mG (i := 0) rfl)) all0)) E81) K92 all0) K103 all0) K116 (allS (Or.inr (Nat.le_trans K138.1 (Nat.le_of_eq ga80.symm))) all0))
                  have F140 := (Exa.keep F18.1 K139)
                  have N141 : a12 ≠ a4 := Exa.ne F140 F134 (by decide)
                  have N142 : a13 ≠ a4 := Ne.symm (Exa.neArv (Exa.keep A6 K16) F18.2.2.2.1 (wd1 V))
                  have F143 := (Str.keep F18 K139 (ninS N141 nin0) (ninS N142 nin0))
                  have K144 : Keep h84_ h112_ [a80] := (Keep.trans (Keep.trans (Keep.refl h84_ [a80]) K103 all0) K116 (allS (Or.inl (mG (i := 0) rfl)) all0))
                  have N145 : a88 ≠ a80 := Exa.ne F94.1 (Exa.keep A82 K92) (by decide)
                  have N146 : a89 ≠ a80 := Ne.symm (Exa.neArv (Exa.keep A82 K92) F94.2.2.2.1 (wd1 V))
                  have F147 := (Str.keep F94 K144 (ninS N145 nin0) (ninS N146 nin0))
                  have F148 := (Fld.keep F44 K133 nin0)
                  have K149 : Keep h20_ h36_ [a4] := (Keep.trans (Keep.refl h20_ [a4]) K40 (allS (Or.inl (mG (i := 0) rfl)) all0))
                  have K150 : Keep h20_ h112_ [a4] := (Keep.trans (Keep.trans (Keep.trans (Keep.ext (Keep.trans (Keep.refl h20_ [a4]) K40 (allS (Or.inl (mG (i := 0) rfl)) all0)) E81) K92 all0) K103 all0) K116 (allS (Or.inr (Nat.le_trans K149.1 (Nat.le_of_eq ga80.symm))) all0))
                  have N151 : a24 ≠ a4 := Exa.ne F29.1 (Exa.keep (Exa.keep A6 K16) K27) (by decide)
                  have N152 : a25 ≠ a4 := Ne.symm (Exa.neArv (Exa.keep (Exa.keep A6 K16) K27) F29.2.2.2.1 (wd1 V))
                  have F153 := (Str.keep F29 K150 (ninS N151 nin0) (ninS N152 nin0))
                  have N154 : a100 ≠ a80 := Exa.ne F105.1 (Exa.keep (Exa.keep A82 K92) K103) (by decide)
                  have N155 : a101 ≠ a80 := Ne.symm (Exa.neArv (Exa.keep (Exa.keep A82 K92) K103) F105.2.2.2.1 (wd1 V))
                  have F156 := (Str.keep F105 K116 (ninS N154 nin0) (ninS N155 nin0))
                  refine G.callV H127 (m16_equals V a4 a80 a12 a88 a13 k14 (strOf x0) a89 k90 (strOf x2) a24 a100 a25 k26 (strOf x1) a101 k102 (strOf x3) h112_ H127.old F118 F135 F119 N137 F140 F143 F147 c125 F148 F120 F153 F156 c131) (wd60 V) (wd61 V) (nf_sel (wd63 V)) (wd63 V) (wd62 V) (wd2 V) (wd64 V) (by decide) F134 (argsL := [(.ref a80)]) (rest := []) (W := 0) rfl rfl (lenOf (pd_5) rfl) rfl rfl at_134 (pc' := 137) rfl (by decide) (by decide) (by decide) (by decide) all0 ?_
                  intro T157 h157_ v158 s159 H157 Q160
                  obtain ⟨c161, c162, rfl, rfl, rfl⟩ := Q160
                  show Go p e below _ (T157.setTop (mkF m 137 #[.val (.int x0), .val (.int x1), .val (.int x2), .val (.int x3), .val (.int x4), .val (.int x2), .val (.int x3), .val (.int ((XT.ushr x4 2) &&& 3)), .val (.ref a4), .val (.ref a80), .val (.int 1)] [(.int 1)]))
                  refine G.iload H157 at_137 (pc' := 139) rfl rfl ?_
                  refine G.icmpNo H157 at_139 (pc' := 142) rfl (by decide) ?_
                  refine G.aload H157 at_142 (pc' := 144) rfl rfl rfl ?_
                  refine G.aload H157 at_144 (pc' := 146) rfl rfl rfl ?_
                  refine G.callV H157 (m10_equals V a4 a12 a24 h112_ H157.old F134 F135 F148 F153.1) (wd60 V) (wd61 V) (nf_sel (wd63 V)) (wd63 V) (wd62 V) (wd2 V) (wd64 V) (by decide) F134 (argsL := [(.ref a4)]) (rest := []) (W := 0) rfl rfl (lenOf (pd_5) rfl) rfl rfl at_146 (pc' := 149) rfl (by decide) (by decide) (by decide) (by decide) all0 ?_
                  intro T163 h163_ v164 s165 H163 Q166
                  obtain ⟨rfl, rfl, rfl⟩ := Q166
                  show Go p e below _ (T163.setTop (mkF m 149 #[.val (.int x0), .val (.int x1), .val (.int x2), .val (.int x3), .val (.int x4), .val (.int x2), .val (.int x3), .val (.int ((XT.ushr x4 2) &&& 3)), .val (.ref a4), .val (.ref a80), .val (.int 1)] [(.int 1)]))
                  refine G.ifNo H163 at_149 (pc' := 152) rfl (by decide) ?_
                  refine G.iconst H163 at_152 (pc' := 153) rfl (v := 1) rfl ?_
                  refine G.goto H163 at_153 (by decide) (pc' := 157) rfl ?_
                  exact G.retN H163 (t := .boolean) rfl (by decide) at_157 (so := []) all0 (by decide) (by decide) rfl
                ·
                  show Go p e below _ (T127.setTop (mkF m 120 #[.val (.int x0), .val (.int x1), .val (.int x2), .val (.int x3), .val (.int x4), .val (.int x2), .val (.int x3), .val (.int ((XT.ushr x4 2) &&& 3)), .val (.ref a4), .val (.ref a80), .unset] [(.int 0)]))
                  refine G.ifYes H127 at_120 (by decide) (by decide) (pc' := 127) rfl ?_
                  refine G.iconst H127 at_127 (pc' := 128) rfl (v := 0) rfl ?_
                  refine G.istore H127 (L' := #[.val (.int x0), .val (.int x1), .val (.int x2), .val (.int x3), .val (.int x4), .val (.int x2), .val (.int x3), .val (.int ((XT.ushr x4 2) &&& 3)), .val (.ref a4), .val (.ref a80), .val (.int 0)]) at_128 (pc' := 130) rfl rfl ?_
                  refine G.aload H127 at_130 (pc' := 132) rfl rfl rfl ?_
                  refine G.aload H127 at_132 (pc' := 134) rfl rfl rfl ?_
                  have K167 : Keep h36_ h112_ [] := (Keep.trans (Keep.trans (Keep.trans (Keep.ext (Keep.refl h36_ []) E81) K92 all0) K103 all0) K116 (allS (Or.inr (Nat.le_of_eq ga80.symm)) all0))
                  have F168 := (Exa.keep F42 K167)
                  have F169 := (Fld.keep F43 K167 nin0)
                  have K170 : Keep h8_ h79_ [a4] := (Keep.ext (Keep.trans (Keep.trans (Keep.refl h8_ [a4]) K27 all0) K40 (allS (Or.inl (mG (i := 0) rfl)) all0)) E81)
                  have N171 : a12 ≠ a88 := (Nat.ne_of_lt (Nat.lt_of_lt_of_le (Nat.lt_of_lt_of_le F18.1.lt K170.1) g93))
                  have K172 : Keep h8_ h36_ [a4] := (Keep.trans (Keep.trans (Keep.refl h8_ [a4]) K27 all0) K40 (allS (Or.inl (mG (i := 0) rfl)) all0))
                  have K173 : Keep h8_ h112_ [a4] := (Keep.trans (Keep.trans (Keep.trans (Keep.ext (Keep.trans (Keep.trans (Keep.refl h8_ [a4]) K27 all0) K40 (allS (Or.inl (mG (i := 0) rfl)) all0)) E81) K92 all0) K103 all0) K116 (allS (Or.inr (Nat.le_trans K172.1 (Nat.le_of_eq ga80.symm))) all0))
                  have F174 := (Exa.keep F18.1 K173)
                  have N175 : a12 ≠ a4 := Exa.ne F174 F168 (by decide)
                  have N176 : a13 ≠ a4 := Ne.symm (Exa.neArv (Exa.keep A6 K16) F18.2.2.2.1 (wd1 V))
                  have F177 := (Str.keep F18 K173 (ninS N175 nin0) (ninS N176 nin0))
                  have K178 : Keep h84_ h112_ [a80] := (Keep.trans (Keep.trans (Keep.refl h84_ [a80]) K103 all0) K116 (allS (Or.inl (mG (i := 0) rfl)) all0))
                  have N179 : a88 ≠ a80 := Exa.ne F94.1 (Exa.keep A82 K92) (by decide)
                  have N180 : a89 ≠ a80 := Ne.symm (Exa.neArv (Exa.keep A82 K92) F94.2.2.2.1 (wd1 V))
                  have F181 := (Str.keep F94 K178 (ninS N179 nin0) (ninS N180 nin0))
                  have F182 := (Fld.keep F44 K167 nin0)
                  have K183 : Keep h20_ h36_ [a4] := (Keep.trans (Keep.refl h20_ [a4]) K40 (allS (Or.inl (mG (i := 0) rfl)) all0))
                  have K184 : Keep h20_ h112_ [a4] := (Keep.trans (Keep.trans (Keep.trans (Keep.ext (Keep.trans (Keep.refl h20_ [a4]) K40 (allS (Or.inl (mG (i := 0) rfl)) all0)) E81) K92 all0) K103 all0) K116 (allS (Or.inr (Nat.le_trans K183.1 (Nat.le_of_eq ga80.symm))) all0))
                  have N185 : a24 ≠ a4 := Exa.ne F29.1 (Exa.keep (Exa.keep A6 K16) K27) (by decide)
                  have N186 : a25 ≠ a4 := Ne.symm (Exa.neArv (Exa.keep (Exa.keep A6 K16) K27) F29.2.2.2.1 (wd1 V))
                  have F187 := (Str.keep F29 K184 (ninS N185 nin0) (ninS N186 nin0))
                  have N188 : a100 ≠ a80 := Exa.ne F105.1 (Exa.keep (Exa.keep A82 K92) K103) (by decide)
                  have N189 : a101 ≠ a80 := Ne.symm (Exa.neArv (Exa.keep (Exa.keep A82 K92) K103) F105.2.2.2.1 (wd1 V))
                  have F190 := (Str.keep F105 K116 (ninS N188 nin0) (ninS N189 nin0))
                  refine G.callV H127 (m17_equals V a4 a80 a12 a88 a13 k14 (strOf x0) a89 k90 (strOf x2) a24 a100 a25 k26 (strOf x1) a101 k102 (strOf x3) h112_ H127.old F118 F169 F119 N171 F174 F177 F181 c125 F182 F120 F187 F190 c132) (wd60 V) (wd61 V) (nf_sel (wd63 V)) (wd63 V) (wd62 V) (wd2 V) (wd64 V) (by decide) F168 (argsL := [(.ref a80)]) (rest := []) (W := 0) rfl rfl (lenOf (pd_5) rfl) rfl rfl at_134 (pc' := 137) rfl (by decide) (by decide) (by decide) (by decide) all0 ?_
                  intro T191 h191_ v192 s193 H191 Q194
                  obtain ⟨c195, c196, rfl, rfl, rfl⟩ := Q194
                  show Go p e below _ (T191.setTop (mkF m 137 #[.val (.int x0), .val (.int x1), .val (.int x2), .val (.int x3), .val (.int x4), .val (.int x2), .val (.int x3), .val (.int ((XT.ushr x4 2) &&& 3)), .val (.ref a4), .val (.ref a80), .val (.int 0)] [(.int 0)]))
                  refine G.iload H191 at_137 (pc' := 139) rfl rfl ?_
                  refine G.icmpNo H191 at_139 (pc' := 142) rfl (by decide) ?_
                  refine G.aload H191 at_142 (pc' := 144) rfl rfl rfl ?_
                  refine G.aload H191 at_144 (pc' := 146) rfl rfl rfl ?_
                  refine G.callV H191 (m10_equals V a4 a12 a24 h112_ H191.old F168 F169 F182 F187.1) (wd60 V) (wd61 V) (nf_sel (wd63 V)) (wd63 V) (wd62 V) (wd2 V) (wd64 V) (by decide) F168 (argsL := [(.ref a4)]) (rest := []) (W := 0) rfl rfl (lenOf (pd_5) rfl) rfl rfl at_146 (pc' := 149) rfl (by decide) (by decide) (by decide) (by decide) all0 ?_
                  intro T197 h197_ v198 s199 H197 Q200
                  obtain ⟨rfl, rfl, rfl⟩ := Q200
                  show Go p e below _ (T197.setTop (mkF m 149 #[.val (.int x0), .val (.int x1), .val (.int x2), .val (.int x3), .val (.int x4), .val (.int x2), .val (.int x3), .val (.int ((XT.ushr x4 2) &&& 3)), .val (.ref a4), .val (.ref a80), .val (.int 0)] [(.int 1)]))
                  refine G.ifNo H197 at_149 (pc' := 152) rfl (by decide) ?_
                  refine G.iconst H197 at_152 (pc' := 153) rfl (v := 1) rfl ?_
                  refine G.goto H197 at_153 (by decide) (pc' := 157) rfl ?_
                  exact G.retN H197 (t := .boolean) rfl (by decide) at_157 (so := []) all0 (by decide) (by decide) rfl
              ·
                show Go p e below _ (T121.setTop (mkF m 111 #[.val (.int x0), .val (.int x1), .val (.int x2), .val (.int x3), .val (.int x4), .val (.int x2), .val (.int x3), .val (.int ((XT.ushr x4 2) &&& 3)), .val (.ref a4), .val (.ref a80), .unset] [(.int 0)]))
                refine G.ifYes H121 at_111 (by decide) (by decide) (pc' := 127) rfl ?_
                refine G.iconst H121 at_127 (pc' := 128) rfl (v := 0) rfl ?_
                refine G.istore H121 (L' := #[.val (.int x0), .val (.int x1), .val (.int x2), .val (.int x3), .val (.int x4), .val (.int x2), .val (.int x3), .val (.int ((XT.ushr x4 2) &&& 3)), .val (.ref a4), .val (.ref a80), .val (.int 0)]) at_128 (pc' := 130) rfl rfl ?_
                refine G.aload H121 at_130 (pc' := 132) rfl rfl rfl ?_
                refine G.aload H121 at_132 (pc' := 134) rfl rfl rfl ?_
                have K201 : Keep h36_ h112_ [] := (Keep.trans (Keep.trans (Keep.trans (Keep.ext (Keep.refl h36_ []) E81) K92 all0) K103 all0) K116 (allS (Or.inr (Nat.le_of_eq ga80.symm)) all0))
                have F202 := (Exa.keep F42 K201)
                have F203 := (Fld.keep F43 K201 nin0)
                have K204 : Keep h8_ h79_ [a4] := (Keep.ext (Keep.trans (Keep.trans (Keep.refl h8_ [a4]) K27 all0) K40 (allS (Or.inl (mG (i := 0) rfl)) all0)) E81)
                have N205 : a12 ≠ a88 := (Nat.ne_of_lt (Nat.lt_of_lt_of_le (Nat.lt_of_lt_of_le F18.1.lt K204.1) g93))
                have K206 : Keep h8_ h36_ [a4] := (Keep.trans (Keep.trans (Keep.refl h8_ [a4]) K27 all0) K40 (allS (Or.inl (mG (i := 0) rfl)) all0))
                have K207 : Keep h8_ h112_ [a4] := (Keep.trans (Keep.trans (Keep.trans (Keep.ext (Keep.trans (Keep.trans (Keep.refl h8_ [a4]) K27 all0) K40 (allS (Or.inl (mG (i := 0) rfl)) all0)) E81) K92 all0) K103 all0) K116 (allS (Or.inr (Nat.le_trans K206.1 (Nat.le_of_eq ga80.symm))) all0))
                have F208 := (Exa.keep F18.1 K207)
                have N209 : a12 ≠ a4 := Exa.ne F208 F202 (by decide)
                have N210 : a13 ≠ a4 := Ne.symm (Exa.neArv (Exa.keep A6 K16) F18.2.2.2.1 (wd1 V))
                have F211 := (Str.keep F18 K207 (ninS N209 nin0) (ninS N210 nin0))
                have K212 : Keep h84_ h112_ [a80] := (Keep.trans (Keep.trans (Keep.refl h84_ [a80]) K103 all0) K116 (allS (Or.inl (mG (i := 0) rfl)) all0))
                have N213 : a88 ≠ a80 := Exa.ne F94.1 (Exa.keep A82 K92) (by decide)
                have N214 : a89 ≠ a80 := Ne.symm (Exa.neArv (Exa.keep A82 K92) F94.2.2.2.1 (wd1 V))
                have F215 := (Str.keep F94 K212 (ninS N213 nin0) (ninS N214 nin0))
                refine G.callV H121 (m19_equals V a4 a80 a12 a88 a13 k14 (strOf x0) a89 k90 (strOf x2) h112_ H121.old F118 F203 F119 N205 F208 F211 F215 c126) (wd60 V) (wd61 V) (nf_sel (wd63 V)) (wd63 V) (wd62 V) (wd2 V) (wd64 V) (by decide) F202 (argsL := [(.ref a80)]) (rest := []) (W := 0) rfl rfl (lenOf (pd_5) rfl) rfl rfl at_134 (pc' := 137) rfl (by decide) (by decide) (by decide) (by decide) all0 ?_
                intro T216 h216_ v217 s218 H216 Q219
                obtain ⟨c220, rfl, rfl, rfl⟩ := Q219
                show Go p e below _ (T216.setTop (mkF m 137 #[.val (.int x0), .val (.int x1), .val (.int x2), .val (.int x3), .val (.int x4), .val (.int x2), .val (.int x3), .val (.int ((XT.ushr x4 2) &&& 3)), .val (.ref a4), .val (.ref a80), .val (.int 0)] [(.int 0)]))
                refine G.iload H216 at_137 (pc' := 139) rfl rfl ?_
                refine G.icmpNo H216 at_139 (pc' := 142) rfl (by decide) ?_
                refine G.aload H216 at_142 (pc' := 144) rfl rfl rfl ?_
                refine G.aload H216 at_144 (pc' := 146) rfl rfl rfl ?_
                have F221 := (Fld.keep F44 K201 nin0)
                have K222 : Keep h20_ h36_ [a4] := (Keep.trans (Keep.refl h20_ [a4]) K40 (allS (Or.inl (mG (i := 0) rfl)) all0))
                have K223 : Keep h20_ h112_ [a4] := (Keep.trans (Keep.trans (Keep.trans (Keep.ext (Keep.trans (Keep.refl h20_ [a4]) K40 (allS (Or.inl (mG (i := 0) rfl)) all0)) E81) K92 all0) K103 all0) K116 (allS (Or.inr (Nat.le_trans K222.1 (Nat.le_of_eq ga80.symm))) all0))
                have F224 := (Exa.keep F29.1 K223)
                refine G.callV H216 (m10_equals V a4 a12 a24 h112_ H216.old F202 F203 F221 F224) (wd60 V) (wd61 V) (nf_sel (wd63 V)) (wd63 V) (wd62 V) (wd2 V) (wd64 V) (by decide) F202 (argsL := [(.ref a4)]) (rest := []) (W := 0) rfl rfl (lenOf (pd_5) rfl) rfl rfl at_146 (pc' := 149) rfl (by decide) (by decide) (by decide) (by decide) all0 ?_
                intro T225 h225_ v226 s227 H225 Q228
                obtain ⟨rfl, rfl, rfl⟩ := Q228
                show Go p e below _ (T225.setTop (mkF m 149 #[.val (.int x0), .val (.int x1), .val (.int x2), .val (.int x3), .val (.int x4), .val (.int x2), .val (.int x3), .val (.int ((XT.ushr x4 2) &&& 3)), .val (.ref a4), .val (.ref a80), .val (.int 0)] [(.int 1)]))
                refine G.ifNo H225 at_149 (pc' := 152) rfl (by decide) ?_
                refine G.iconst H225 at_152 (pc' := 153) rfl (v := 1) rfl ?_
                refine G.goto H225 at_153 (by decide) (pc' := 157) rfl ?_
                exact G.retN H225 (t := .boolean) rfl (by decide) at_157 (so := []) all0 (by decide) (by decide) rfl
            ·
              show Go p e below _ (T84.setTop (mkF m 95 #[.val (.int x0), .val (.int x1), .val (.int x2), .val (.int x3), .val (.int x4), .val (.int x2), .val (.int x3), .val (.int ((XT.ushr x4 2) &&& 3)), .val (.ref a4), .unset, .unset] [.null, (.ref a80), (.ref a80)]))
              refine G.iload H84 at_95 (pc' := 97) rfl rfl ?_
              refine G.callS H84 (m4_str V x3 h79_ H84.old) (wd10 V) (wd11 V) (wd5 V) (wd12 V) (by decide) (argsL := [(.int x3)]) (rest := [.null, (.ref a80), (.ref a80)]) (W := 3) rfl rfl (lenOf (pd_3) rfl) rfl rfl at_97 (pc' := 100) rfl (by decide) (by decide) (by decide) (by decide) all0 ?_
              intro T229 h229_ v230 s231 H229 Q232
              obtain ⟨a233, a234, k235, rfl, rfl, K236, g237, F238⟩ := Q232
              have na233 : n0 ≤ a233 := Nat.le_trans H84.le g237
              show Go p e below _ (T229.setTop (mkF m 100 #[.val (.int x0), .val (.int x1), .val (.int x2), .val (.int x3), .val (.int x4), .val (.int x2), .val (.int x3), .val (.int ((XT.ushr x4 2) &&& 3)), .val (.ref a4), .unset, .unset] [(.ref a233), .null, (.ref a80), (.ref a80)]))
              have F239 := (Exa.keep A82 K236)
              have F240 : Fld Z h79_ a80 "com/example/schema_to_form/schematoform/record/ValuePath" "slot" "Ljava/lang/String;" .null := D83 (Or.inr (wd51 V)) (ty := (.object "java/lang/String")) (by decide)
              have F241 := (Fld.keep F240 K236 nin0)
              have F242 : Fld Z h79_ a80 "com/example/schema_to_form/schematoform/record/ValuePath" "name" "Ljava/lang/String;" .null := D83 (Or.inr (wd53 V)) (ty := (.object "java/lang/String")) (by decide)
              have F243 := (Fld.keep F242 K236 nin0)
              refine G.callI H229 (m20_init V a80 a233 h229_ H229.old F239 F241 na80 F243) rfl (wd46 V) (wd47 V) (wd2 V) (wd48 V) (by decide) (a := a80) (argsL := [.null, (.ref a233)]) (rest := [(.ref a80)]) (W := 1) rfl rfl (lenOf (pd_4) rfl) rfl rfl at_100 (pc' := 103) rfl (by decide) (by decide) (by decide) (by decide) all0 ?_
              intro T244 h244_ v245 s246 H244 Q247
              obtain ⟨rfl, rfl, K248, U249, F250, F251, F252⟩ := Q247
              show Go p e below _ (T244.setTop (mkF m 103 #[.val (.int x0), .val (.int x1), .val (.int x2), .val (.int x3), .val (.int x4), .val (.int x2), .val (.int x3), .val (.int ((XT.ushr x4 2) &&& 3)), .val (.ref a4), .unset, .unset] [(.ref a80)]))
              refine G.astore H244 (L' := #[.val (.int x0), .val (.int x1), .val (.int x2), .val (.int x3), .val (.int x4), .val (.int x2), .val (.int x3), .val (.int ((XT.ushr x4 2) &&& 3)), .val (.ref a4), .val (.ref a80), .unset]) at_103 (pc' := 105) rfl rfl rfl ?_
              refine G.iloadN H244 at_105 (pc' := 106) rfl rfl ?_
              refine G.iload H244 at_106 (pc' := 108) rfl rfl ?_
              refine G.callS H244 (m22_sameSlot V x0 x2 h244_ H244.old c15 c95) (wd54 V) (wd55 V) (wd5 V) (wd56 V) (by decide) (argsL := [(.int x0), (.int x2)]) (rest := []) (W := 0) rfl rfl (lenOf (pd_7) rfl) rfl rfl at_108 (pc' := 111) rfl (by decide) (by decide) (by decide) (by decide) all0 ?_
              intro T253 h253_ v254 s255 H253 Q256
              obtain ⟨rfl, rfl, rfl⟩ := Q256
              show Go p e below _ (T253.setTop (mkF m 111 #[.val (.int x0), .val (.int x1), .val (.int x2), .val (.int x3), .val (.int x4), .val (.int x2), .val (.int x3), .val (.int ((XT.ushr x4 2) &&& 3)), .val (.ref a4), .val (.ref a80), .unset] [(.int 0)]))
              refine G.ifYes H253 at_111 (by decide) (by decide) (pc' := 127) rfl ?_
              refine G.iconst H253 at_127 (pc' := 128) rfl (v := 0) rfl ?_
              refine G.istore H253 (L' := #[.val (.int x0), .val (.int x1), .val (.int x2), .val (.int x3), .val (.int x4), .val (.int x2), .val (.int x3), .val (.int ((XT.ushr x4 2) &&& 3)), .val (.ref a4), .val (.ref a80), .val (.int 0)]) at_128 (pc' := 130) rfl rfl ?_
              refine G.aload H253 at_130 (pc' := 132) rfl rfl rfl ?_
              refine G.aload H253 at_132 (pc' := 134) rfl rfl rfl ?_
              have K257 : Keep h36_ h244_ [] := (Keep.trans (Keep.trans (Keep.ext (Keep.refl h36_ []) E81) K236 all0) K248 (allS (Or.inr (Nat.le_of_eq ga80.symm)) all0))
              have F258 := (Exa.keep F42 K257)
              have F259 := (Fld.keep F43 K257 nin0)
              have K260 : Keep h8_ h36_ [a4] := (Keep.trans (Keep.trans (Keep.refl h8_ [a4]) K27 all0) K40 (allS (Or.inl (mG (i := 0) rfl)) all0))
              have K261 : Keep h8_ h244_ [a4] := (Keep.trans (Keep.trans (Keep.ext (Keep.trans (Keep.trans (Keep.refl h8_ [a4]) K27 all0) K40 (allS (Or.inl (mG (i := 0) rfl)) all0)) E81) K236 all0) K248 (allS (Or.inr (Nat.le_trans K260.1 (Nat.le_of_eq ga80.symm))) all0))
              have F262 := (Exa.keep F18.1 K261)
              refine G.callV H253 (m25_equals V a4 a80 a12 h244_ H253.old F250 F259 F251 F262) (wd60 V) (wd61 V) (nf_sel (wd63 V)) (wd63 V) (wd62 V) (wd2 V) (wd64 V) (by decide) F258 (argsL := [(.ref a80)]) (rest := []) (W := 0) rfl rfl (lenOf (pd_5) rfl) rfl rfl at_134 (pc' := 137) rfl (by decide) (by decide) (by decide) (by decide) all0 ?_
              intro T263 h263_ v264 s265 H263 Q266
              obtain ⟨rfl, rfl, rfl⟩ := Q266
              show Go p e below _ (T263.setTop (mkF m 137 #[.val (.int x0), .val (.int x1), .val (.int x2), .val (.int x3), .val (.int x4), .val (.int x2), .val (.int x3), .val (.int ((XT.ushr x4 2) &&& 3)), .val (.ref a4), .val (.ref a80), .val (.int 0)] [(.int 0)]))
              refine G.iload H263 at_137 (pc' := 139) rfl rfl ?_
              refine G.icmpNo H263 at_139 (pc' := 142) rfl (by decide) ?_
              refine G.aload H263 at_142 (pc' := 144) rfl rfl rfl ?_
              refine G.aload H263 at_144 (pc' := 146) rfl rfl rfl ?_
              have F267 := (Fld.keep F44 K257 nin0)
              have K268 : Keep h20_ h36_ [a4] := (Keep.trans (Keep.refl h20_ [a4]) K40 (allS (Or.inl (mG (i := 0) rfl)) all0))
              have K269 : Keep h20_ h244_ [a4] := (Keep.trans (Keep.trans (Keep.ext (Keep.trans (Keep.refl h20_ [a4]) K40 (allS (Or.inl (mG (i := 0) rfl)) all0)) E81) K236 all0) K248 (allS (Or.inr (Nat.le_trans K268.1 (Nat.le_of_eq ga80.symm))) all0))
              have F270 := (Exa.keep F29.1 K269)
              refine G.callV H263 (m10_equals V a4 a12 a24 h244_ H263.old F258 F259 F267 F270) (wd60 V) (wd61 V) (nf_sel (wd63 V)) (wd63 V) (wd62 V) (wd2 V) (wd64 V) (by decide) F258 (argsL := [(.ref a4)]) (rest := []) (W := 0) rfl rfl (lenOf (pd_5) rfl) rfl rfl at_146 (pc' := 149) rfl (by decide) (by decide) (by decide) (by decide) all0 ?_
              intro T271 h271_ v272 s273 H271 Q274
              obtain ⟨rfl, rfl, rfl⟩ := Q274
              show Go p e below _ (T271.setTop (mkF m 149 #[.val (.int x0), .val (.int x1), .val (.int x2), .val (.int x3), .val (.int x4), .val (.int x2), .val (.int x3), .val (.int ((XT.ushr x4 2) &&& 3)), .val (.ref a4), .val (.ref a80), .val (.int 0)] [(.int 1)]))
              refine G.ifNo H271 at_149 (pc' := 152) rfl (by decide) ?_
              refine G.iconst H271 at_152 (pc' := 153) rfl (v := 1) rfl ?_
              refine G.goto H271 at_153 (by decide) (pc' := 157) rfl ?_
              exact G.retN H271 (t := .boolean) rfl (by decide) at_157 (so := []) all0 (by decide) (by decide) rfl
      ·
        show Go p e below _ (T8.setTop (mkF m 44 #[.val (.int x0), .val (.int x1), .val (.int x2), .val (.int x3), .val (.int x4), .val (.int x2), .val (.int x3), .val (.int ((XT.ushr x4 2) &&& 3)), .unset, .unset, .unset] [.null, (.ref a4), (.ref a4)]))
        refine G.iloadN H8 at_44 (pc' := 45) rfl rfl ?_
        refine G.callS H8 (m4_str V x1 h3_ H8.old) (wd10 V) (wd11 V) (wd5 V) (wd12 V) (by decide) (argsL := [(.int x1)]) (rest := [.null, (.ref a4), (.ref a4)]) (W := 3) rfl rfl (lenOf (pd_3) rfl) rfl rfl at_45 (pc' := 48) rfl (by decide) (by decide) (by decide) (by decide) all0 ?_
        intro T275 h275_ v276 s277 H275 Q278
        obtain ⟨a279, a280, k281, rfl, rfl, K282, g283, F284⟩ := Q278
        have na279 : n0 ≤ a279 := Nat.le_trans H8.le g283
        show Go p e below _ (T275.setTop (mkF m 48 #[.val (.int x0), .val (.int x1), .val (.int x2), .val (.int x3), .val (.int x4), .val (.int x2), .val (.int x3), .val (.int ((XT.ushr x4 2) &&& 3)), .unset, .unset, .unset] [(.ref a279), .null, (.ref a4), (.ref a4)]))
        have F285 := (Exa.keep A6 K282)
        have F286 : Fld Z h3_ a4 "com/example/schema_to_form/schematoform/record/ValuePath" "slot" "Ljava/lang/String;" .null := D7 (Or.inr (wd51 V)) (ty := (.object "java/lang/String")) (by decide)
        have F287 := (Fld.keep F286 K282 nin0)
        have F288 : Fld Z h3_ a4 "com/example/schema_to_form/schematoform/record/ValuePath" "name" "Ljava/lang/String;" .null := D7 (Or.inr (wd53 V)) (ty := (.object "java/lang/String")) (by decide)
        have F289 := (Fld.keep F288 K282 nin0)
        refine G.callI H275 (m20_init V a4 a279 h275_ H275.old F285 F287 na4 F289) rfl (wd46 V) (wd47 V) (wd2 V) (wd48 V) (by decide) (a := a4) (argsL := [.null, (.ref a279)]) (rest := [(.ref a4)]) (W := 1) rfl rfl (lenOf (pd_4) rfl) rfl rfl at_48 (pc' := 51) rfl (by decide) (by decide) (by decide) (by decide) all0 ?_
        intro T290 h290_ v291 s292 H290 Q293
        obtain ⟨rfl, rfl, K294, U295, F296, F297, F298⟩ := Q293
        show Go p e below _ (T290.setTop (mkF m 51 #[.val (.int x0), .val (.int x1), .val (.int x2), .val (.int x3), .val (.int x4), .val (.int x2), .val (.int x3), .val (.int ((XT.ushr x4 2) &&& 3)), .unset, .unset, .unset] [(.ref a4)]))
        refine G.astore H290 (L' := #[.val (.int x0), .val (.int x1), .val (.int x2), .val (.int x3), .val (.int x4), .val (.int x2), .val (.int x3), .val (.int ((XT.ushr x4 2) &&& 3)), .val (.ref a4), .unset, .unset]) at_51 (pc' := 53) rfl rfl rfl ?_
        refine G.iload H290 at_53 (pc' := 55) rfl rfl ?_
        refine G.iconst H290 at_55 (pc' := 56) rfl (v := 2) rfl ?_
        by_cases c299 : ((XT.ushr x4 2) &&& 3) = 2
        ·
          refine G.icmpNo H290 at_56 (pc' := 59) rfl (XT.ii_ne_f c299) ?_
          refine G.aconstNull H290 at_59 (pc' := 60) rfl ?_
          refine G.astore H290 (L' := #[.val (.int x0), .val (.int x1), .val (.int x2), .val (.int x3), .val (.int x4), .val (.int x2), .val (.int x3), .val (.int ((XT.ushr x4 2) &&& 3)), .val (.ref a4), .val .null, .unset]) at_60 (pc' := 62) rfl rfl rfl ?_
          refine G.iconst H290 at_62 (pc' := 63) rfl (v := 0) rfl ?_
          refine G.istore H290 (L' := #[.val (.int x0), .val (.int x1), .val (.int x2), .val (.int x3), .val (.int x4), .val (.int x2), .val (.int x3), .val (.int ((XT.ushr x4 2) &&& 3)), .val (.ref a4), .val .null, .val (.int 0)]) at_63 (pc' := 65) rfl rfl ?_
          refine G.goto H290 at_65 (by decide) (pc' := 130) rfl ?_
          refine G.aload H290 at_130 (pc' := 132) rfl rfl rfl ?_
          refine G.aload H290 at_132 (pc' := 134) rfl rfl rfl ?_
          refine G.callV H290 (m7_equals V a4 h290_ H290.old) (wd60 V) (wd61 V) (nf_sel (wd63 V)) (wd63 V) (wd62 V) (wd2 V) (wd64 V) (by decide) F296 (argsL := [.null]) (rest := []) (W := 0) rfl rfl (lenOf (pd_5) rfl) rfl rfl at_134 (pc' := 137) rfl (by decide) (by decide) (by decide) (by decide) all0 ?_
          intro T300 h300_ v301 s302 H300 Q303
          obtain ⟨rfl, rfl, rfl⟩ := Q303
          show Go p e below _ (T300.setTop (mkF m 137 #[.val (.int x0), .val (.int x1), .val (.int x2), .val (.int x3), .val (.int x4), .val (.int x2), .val (.int x3), .val (.int ((XT.ushr x4 2) &&& 3)), .val (.ref a4), .val .null, .val (.int 0)] [(.int 0)]))
          refine G.iload H300 at_137 (pc' := 139) rfl rfl ?_
          refine G.icmpNo H300 at_139 (pc' := 142) rfl (by decide) ?_
          refine G.aload H300 at_142 (pc' := 144) rfl rfl rfl ?_
          refine G.aload H300 at_144 (pc' := 146) rfl rfl rfl ?_
          have F304 := (Exa.keep F284.1 K294)
          refine G.callV H300 (m27_equals V a4 a279 h290_ H300.old F296 F297 F298 F304) (wd60 V) (wd61 V) (nf_sel (wd63 V)) (wd63 V) (wd62 V) (wd2 V) (wd64 V) (by decide) F296 (argsL := [(.ref a4)]) (rest := []) (W := 0) rfl rfl (lenOf (pd_5) rfl) rfl rfl at_146 (pc' := 149) rfl (by decide) (by decide) (by decide) (by decide) all0 ?_
          intro T305 h305_ v306 s307 H305 Q308
          obtain ⟨rfl, rfl, rfl⟩ := Q308
          show Go p e below _ (T305.setTop (mkF m 149 #[.val (.int x0), .val (.int x1), .val (.int x2), .val (.int x3), .val (.int x4), .val (.int x2), .val (.int x3), .val (.int ((XT.ushr x4 2) &&& 3)), .val (.ref a4), .val .null, .val (.int 0)] [(.int 1)]))
          refine G.ifNo H305 at_149 (pc' := 152) rfl (by decide) ?_
          refine G.iconst H305 at_152 (pc' := 153) rfl (v := 1) rfl ?_
          refine G.goto H305 at_153 (by decide) (pc' := 157) rfl ?_
          exact G.retN H305 (t := .boolean) rfl (by decide) at_157 (so := []) all0 (by decide) (by decide) rfl
        ·
          refine G.icmpYes H290 at_56 (XT.ii_ne_t c299) (by decide) (pc' := 68) rfl ?_
          refine G.iload H290 at_68 (pc' := 70) rfl rfl ?_
          refine G.iconst H290 at_70 (pc' := 71) rfl (v := 3) rfl ?_
          by_cases c309 : ((XT.ushr x4 2) &&& 3) = 3
          ·
            refine G.icmpNo H290 at_71 (pc' := 74) rfl (XT.ii_ne_f c309) ?_
            refine G.iloadN H290 at_74 (pc' := 75) rfl rfl ?_
            refine G.callS H290 (m4_str V x1 h290_ H290.old) (wd10 V) (wd11 V) (wd5 V) (wd12 V) (by decide) (argsL := [(.int x1)]) (rest := []) (W := 0) rfl rfl (lenOf (pd_3) rfl) rfl rfl at_75 (pc' := 78) rfl (by decide) (by decide) (by decide) (by decide) all0 ?_
            intro T310 h310_ v311 s312 H310 Q313
            obtain ⟨a314, a315, k316, rfl, rfl, K317, g318, F319⟩ := Q313
            have na314 : n0 ≤ a314 := Nat.le_trans H290.le g318
            show Go p e below _ (T310.setTop (mkF m 78 #[.val (.int x0), .val (.int x1), .val (.int x2), .val (.int x3), .val (.int x4), .val (.int x2), .val (.int x3), .val (.int ((XT.ushr x4 2) &&& 3)), .val (.ref a4), .unset, .unset] [(.ref a314)]))
            refine G.astore H310 (L' := #[.val (.int x0), .val (.int x1), .val (.int x2), .val (.int x3), .val (.int x4), .val (.int x2), .val (.int x3), .val (.int ((XT.ushr x4 2) &&& 3)), .val (.ref a4), .val (.ref a314), .unset]) at_78 (pc' := 80) rfl rfl rfl ?_
            refine G.iconst H310 at_80 (pc' := 81) rfl (v := 0) rfl ?_
            refine G.istore H310 (L' := #[.val (.int x0), .val (.int x1), .val (.int x2), .val (.int x3), .val (.int x4), .val (.int x2), .val (.int x3), .val (.int ((XT.ushr x4 2) &&& 3)), .val (.ref a4), .val (.ref a314), .val (.int 0)]) at_81 (pc' := 83) rfl rfl ?_
            refine G.goto H310 at_83 (by decide) (pc' := 130) rfl ?_
            refine G.aload H310 at_130 (pc' := 132) rfl rfl rfl ?_
            refine G.aload H310 at_132 (pc' := 134) rfl rfl rfl ?_
            have F320 := (Exa.keep F296 K317)
            refine G.callV H310 (m11_equals V a4 a314 h310_ H310.old F319.1) (wd60 V) (wd61 V) (nf_sel (wd63 V)) (wd63 V) (wd62 V) (wd2 V) (wd64 V) (by decide) F320 (argsL := [(.ref a314)]) (rest := []) (W := 0) rfl rfl (lenOf (pd_5) rfl) rfl rfl at_134 (pc' := 137) rfl (by decide) (by decide) (by decide) (by decide) all0 ?_
            intro T321 h321_ v322 s323 H321 Q324
            obtain ⟨rfl, rfl, rfl⟩ := Q324
            show Go p e below _ (T321.setTop (mkF m 137 #[.val (.int x0), .val (.int x1), .val (.int x2), .val (.int x3), .val (.int x4), .val (.int x2), .val (.int x3), .val (.int ((XT.ushr x4 2) &&& 3)), .val (.ref a4), .val (.ref a314), .val (.int 0)] [(.int 0)]))
            refine G.iload H321 at_137 (pc' := 139) rfl rfl ?_
            refine G.icmpNo H321 at_139 (pc' := 142) rfl (by decide) ?_
            refine G.aload H321 at_142 (pc' := 144) rfl rfl rfl ?_
            refine G.aload H321 at_144 (pc' := 146) rfl rfl rfl ?_
            have F325 := (Fld.keep F297 K317 nin0)
            have F326 := (Fld.keep F298 K317 nin0)
            have K327 : Keep h275_ h310_ [a4] := (Keep.trans (Keep.trans (Keep.refl h275_ [a4]) K294 (allS (Or.inl (mG (i := 0) rfl)) all0)) K317 all0)
            have F328 := (Exa.keep F284.1 K327)
            refine G.callV H321 (m27_equals V a4 a279 h310_ H321.old F320 F325 F326 F328) (wd60 V) (wd61 V) (nf_sel (wd63 V)) (wd63 V) (wd62 V) (wd2 V) (wd64 V) (by decide) F320 (argsL := [(.ref a4)]) (rest := []) (W := 0) rfl rfl (lenOf (pd_5) rfl) rfl rfl at_146 (pc' := 149) rfl (by decide) (by decide) (by decide) (by decide) all0 ?_
            intro T329 h329_ v330 s331 H329 Q332
            obtain ⟨rfl, rfl, rfl⟩ := Q332
            show Go p e below _ (T329.setTop (mkF m 149 #[.val (.int x0), .val (.int x1), .val (.int x2), .val (.int x3), .val (.int x4), .val (.int x2), .val (.int x3), .val (.int ((XT.ushr x4 2) &&& 3)), .val (.ref a4), .val (.ref a314), .val (.int 0)] [(.int 1)]))
            refine G.ifNo H329 at_149 (pc' := 152) rfl (by decide) ?_
            refine G.iconst H329 at_152 (pc' := 153) rfl (v := 1) rfl ?_
            refine G.goto H329 at_153 (by decide) (pc' := 157) rfl ?_
            exact G.retN H329 (t := .boolean) rfl (by decide) at_157 (so := []) all0 (by decide) (by decide) rfl
          ·
            refine G.icmpYes H290 at_71 (XT.ii_ne_t c309) (by decide) (pc' := 86) rfl ?_
            refine G.new H290 (wd0 V) (wd1 V) (wd2 V) at_86 (pc' := 89) rfl (by decide) (by decide) ?_
            intro T333 h333_ a334 ga334 H333 E335 A336 D337
            have na334 := H290.nle ga334
            refine G.dup H333 at_89 (pc' := 90) rfl rfl ?_
            refine G.iload H333 at_90 (pc' := 92) rfl rfl ?_
            refine G.callS H333 (m5_slot V x2 h333_ H333.old) (wd3 V) (wd4 V) (wd5 V) (wd6 V) (by decide) (argsL := [(.int x2)]) (rest := [(.ref a334), (.ref a334)]) (W := 2) rfl rfl (lenOf (pd_3) rfl) rfl rfl at_92 (pc' := 95) rfl (by decide) (by decide) (by decide) (by decide) all0 ?_
            intro T338 h338_ v339 s340 H338 Q341
            rcases Q341 with ⟨a342, a343, k344, c345, rfl, rfl, K346, g347, F348⟩ | ⟨c349, rfl, rfl, rfl⟩
            ·
              have na342 : n0 ≤ a342 := Nat.le_trans H333.le g347
              show Go p e below _ (T338.setTop (mkF m 95 #[.val (.int x0), .val (.int x1), .val (.int x2), .val (.int x3), .val (.int x4), .val (.int x2), .val (.int x3), .val (.int ((XT.ushr x4 2) &&& 3)), .val (.ref a4), .unset, .unset] [(.ref a342), (.ref a334), (.ref a334)]))
              refine G.iload H338 at_95 (pc' := 97) rfl rfl ?_
              refine G.callS H338 (m4_str V x3 h338_ H338.old) (wd10 V) (wd11 V) (wd5 V) (wd12 V) (by decide) (argsL := [(.int x3)]) (rest := [(.ref a342), (.ref a334), (.ref a334)]) (W := 3) rfl rfl (lenOf (pd_3) rfl) rfl rfl at_97 (pc' := 100) rfl (by decide) (by decide) (by decide) (by decide) all0 ?_
              intro T350 h350_ v351 s352 H350 Q353
              obtain ⟨a354, a355, k356, rfl, rfl, K357, g358, F359⟩ := Q353
              have na354 : n0 ≤ a354 := Nat.le_trans H338.le g358
              show Go p e below _ (T350.setTop (mkF m 100 #[.val (.int x0), .val (.int x1), .val (.int x2), .val (.int x3), .val (.int x4), .val (.int x2), .val (.int x3), .val (.int ((XT.ushr x4 2) &&& 3)), .val (.ref a4), .unset, .unset] [(.ref a354), (.ref a342), (.ref a334), (.ref a334)]))
              have K360 : Keep h333_ h350_ [] := (Keep.trans (Keep.trans (Keep.refl h333_ []) K346 all0) K357 all0)
              have F361 := (Exa.keep A336 K360)
              have F362 : Fld Z h333_ a334 "com/example/schema_to_form/schematoform/record/ValuePath" "slot" "Ljava/lang/String;" .null := D337 (Or.inr (wd51 V)) (ty := (.object "java/lang/String")) (by decide)
              have F363 := (Fld.keep F362 K360 nin0)
              have F364 : Fld Z h333_ a334 "com/example/schema_to_form/schematoform/record/ValuePath" "name" "Ljava/lang/String;" .null := D337 (Or.inr (wd53 V)) (ty := (.object "java/lang/String")) (by decide)
              have F365 := (Fld.keep F364 K360 nin0)
              refine G.callI H350 (m6_init V a334 a342 a354 h350_ H350.old F361 F363 na334 F365) rfl (wd46 V) (wd47 V) (wd2 V) (wd48 V) (by decide) (a := a334) (argsL := [(.ref a342), (.ref a354)]) (rest := [(.ref a334)]) (W := 1) rfl rfl (lenOf (pd_4) rfl) rfl rfl at_100 (pc' := 103) rfl (by decide) (by decide) (by decide) (by decide) all0 ?_
              intro T366 h366_ v367 s368 H366 Q369
              obtain ⟨rfl, rfl, K370, U371, F372, F373, F374⟩ := Q369
              show Go p e below _ (T366.setTop (mkF m 103 #[.val (.int x0), .val (.int x1), .val (.int x2), .val (.int x3), .val (.int x4), .val (.int x2), .val (.int x3), .val (.int ((XT.ushr x4 2) &&& 3)), .val (.ref a4), .unset, .unset] [(.ref a334)]))
              refine G.astore H366 (L' := #[.val (.int x0), .val (.int x1), .val (.int x2), .val (.int x3), .val (.int x4), .val (.int x2), .val (.int x3), .val (.int ((XT.ushr x4 2) &&& 3)), .val (.ref a4), .val (.ref a334), .unset]) at_103 (pc' := 105) rfl rfl rfl ?_
              refine G.iloadN H366 at_105 (pc' := 106) rfl rfl ?_
              refine G.iload H366 at_106 (pc' := 108) rfl rfl ?_
              refine G.callS H366 (m28_sameSlot V x0 x2 h366_ H366.old c19 c345) (wd54 V) (wd55 V) (wd5 V) (wd56 V) (by decide) (argsL := [(.int x0), (.int x2)]) (rest := []) (W := 0) rfl rfl (lenOf (pd_7) rfl) rfl rfl at_108 (pc' := 111) rfl (by decide) (by decide) (by decide) (by decide) all0 ?_
              intro T375 h375_ v376 s377 H375 Q378
              obtain ⟨rfl, rfl, rfl⟩ := Q378
              show Go p e below _ (T375.setTop (mkF m 111 #[.val (.int x0), .val (.int x1), .val (.int x2), .val (.int x3), .val (.int x4), .val (.int x2), .val (.int x3), .val (.int ((XT.ushr x4 2) &&& 3)), .val (.ref a4), .val (.ref a334), .unset] [(.int 0)]))
              refine G.ifYes H375 at_111 (by decide) (by decide) (pc' := 127) rfl ?_
              refine G.iconst H375 at_127 (pc' := 128) rfl (v := 0) rfl ?_
              refine G.istore H375 (L' := #[.val (.int x0), .val (.int x1), .val (.int x2), .val (.int x3), .val (.int x4), .val (.int x2), .val (.int x3), .val (.int ((XT.ushr x4 2) &&& 3)), .val (.ref a4), .val (.ref a334), .val (.int 0)]) at_128 (pc' := 130) rfl rfl ?_
              refine G.aload H375 at_130 (pc' := 132) rfl rfl rfl ?_
              refine G.aload H375 at_132 (pc' := 134) rfl rfl rfl ?_
              have K379 : Keep h290_ h366_ [] := (Keep.trans (Keep.trans (Keep.trans (Keep.ext (Keep.refl h290_ []) E335) K346 all0) K357 all0) K370 (allS (Or.inr (Nat.le_of_eq ga334.symm)) all0))
              have F380 := (Exa.keep F296 K379)
              have F381 := (Fld.keep F297 K379 nin0)
              refine G.callV H375 (m30_equals V a4 a334 a342 h366_ H375.old F372 F381 F373) (wd60 V) (wd61 V) (nf_sel (wd63 V)) (wd63 V) (wd62 V) (wd2 V) (wd64 V) (by decide) F380 (argsL := [(.ref a334)]) (rest := []) (W := 0) rfl rfl (lenOf (pd_5) rfl) rfl rfl at_134 (pc' := 137) rfl (by decide) (by decide) (by decide) (by decide) all0 ?_
              intro T382 h382_ v383 s384 H382 Q385
              obtain ⟨rfl, rfl, rfl⟩ := Q385
              show Go p e below _ (T382.setTop (mkF m 137 #[.val (.int x0), .val (.int x1), .val (.int x2), .val (.int x3), .val (.int x4), .val (.int x2), .val (.int x3), .val (.int ((XT.ushr x4 2) &&& 3)), .val (.ref a4), .val (.ref a334), .val (.int 0)] [(.int 0)]))
              refine G.iload H382 at_137 (pc' := 139) rfl rfl ?_
              refine G.icmpNo H382 at_139 (pc' := 142) rfl (by decide) ?_
              refine G.aload H382 at_142 (pc' := 144) rfl rfl rfl ?_
              refine G.aload H382 at_144 (pc' := 146) rfl rfl rfl ?_
              have F386 := (Fld.keep F298 K379 nin0)
              have K387 : Keep h275_ h290_ [a4] := (Keep.trans (Keep.refl h275_ [a4]) K294 (allS (Or.inl (mG (i := 0) rfl)) all0))
              have K388 : Keep h275_ h366_ [a4] := (Keep.trans (Keep.trans (Keep.trans (Keep.ext (Keep.trans (Keep.refl h275_ [a4]) K294 (allS (Or.inl (mG (i := 0) rfl)) all0)) E335) K346 all0) K357 all0) K370 (allS (Or.inr (Nat.le_trans K387.1 (Nat.le_of_eq ga334.symm))) all0))
              have F389 := (Exa.keep F284.1 K388)
              refine G.callV H382 (m27_equals V a4 a279 h366_ H382.old F380 F381 F386 F389) (wd60 V) (wd61 V) (nf_sel (wd63 V)) (wd63 V) (wd62 V) (wd2 V) (wd64 V) (by decide) F380 (argsL := [(.ref a4)]) (rest := []) (W := 0) rfl rfl (lenOf (pd_5) rfl) rfl rfl at_146 (pc' := 149) rfl (by decide) (by decide) (by decide) (by decide) all0 ?_
              intro T390 h390_ v391 s392 H390 Q393
              obtain ⟨rfl, rfl, rfl⟩ := Q393
              show Go p e below _ (T390.setTop (mkF m 149 #[.val (.int x0), .val (.int x1), .val (.int x2), .val (.int x3), .val (.int x4), .val (.int x2), .val (.int x3), .val (.int ((XT.ushr x4 2) &&& 3)), .val (.ref a4), .val (.ref a334), .val (.int 0)] [(.int 1)]))
              refine G.ifNo H390 at_149 (pc' := 152) rfl (by decide) ?_
              refine G.iconst H390 at_152 (pc' := 153) rfl (v := 1) rfl ?_
              refine G.goto H390 at_153 (by decide) (pc' := 157) rfl ?_
              exact G.retN H390 (t := .boolean) rfl (by decide) at_157 (so := []) all0 (by decide) (by decide) rfl
            ·
              show Go p e below _ (T338.setTop (mkF m 95 #[.val (.int x0), .val (.int x1), .val (.int x2), .val (.int x3), .val (.int x4), .val (.int x2), .val (.int x3), .val (.int ((XT.ushr x4 2) &&& 3)), .val (.ref a4), .unset, .unset] [.null, (.ref a334), (.ref a334)]))
              refine G.iload H338 at_95 (pc' := 97) rfl rfl ?_
              refine G.callS H338 (m4_str V x3 h333_ H338.old) (wd10 V) (wd11 V) (wd5 V) (wd12 V) (by decide) (argsL := [(.int x3)]) (rest := [.null, (.ref a334), (.ref a334)]) (W := 3) rfl rfl (lenOf (pd_3) rfl) rfl rfl at_97 (pc' := 100) rfl (by decide) (by decide) (by decide) (by decide) all0 ?_
              intro T394 h394_ v395 s396 H394 Q397
              obtain ⟨a398, a399, k400, rfl, rfl, K401, g402, F403⟩ := Q397
              have na398 : n0 ≤ a398 := Nat.le_trans H338.le g402
              show Go p e below _ (T394.setTop (mkF m 100 #[.val (.int x0), .val (.int x1), .val (.int x2), .val (.int x3), .val (.int x4), .val (.int x2), .val (.int x3), .val (.int ((XT.ushr x4 2) &&& 3)), .val (.ref a4), .unset, .unset] [(.ref a398), .null, (.ref a334), (.ref a334)]))
              have F404 := (Exa.keep A336 K401)
              have F405 : Fld Z h333_ a334 "com/example/schema_to_form/schematoform/record/ValuePath" "slot" "Ljava/lang/String;" .null := D337 (Or.inr (wd51 V)) (ty := (.object "java/lang/String")) (by decide)
              have F406 := (Fld.keep F405 K401 nin0)
              have F407 : Fld Z h333_ a334 "com/example/schema_to_form/schematoform/record/ValuePath" "name" "Ljava/lang/String;" .null := D337 (Or.inr (wd53 V)) (ty := (.object "java/lang/String")) (by decide)
              have F408 := (Fld.keep F407 K401 nin0)
              refine G.callI H394 (m20_init V a334 a398 h394_ H394.old F404 F406 na334 F408) rfl (wd46 V) (wd47 V) (wd2 V) (wd48 V) (by decide) (a := a334) (argsL := [.null, (.ref a398)]) (rest := [(.ref a334)]) (W := 1) rfl rfl (lenOf (pd_4) rfl) rfl rfl at_100 (pc' := 103) rfl (by decide) (by decide) (by decide) (by decide) all0 ?_
              intro T409 h409_ v410 s411 H409 Q412
              obtain ⟨rfl, rfl, K413, U414, F415, F416, F417⟩ := Q412
              show Go p e below _ (T409.setTop (mkF m 103 #[.val (.int x0), .val (.int x1), .val (.int x2), .val (.int x3), .val (.int x4), .val (.int x2), .val (.int x3), .val (.int ((XT.ushr x4 2) &&& 3)), .val (.ref a4), .unset, .unset] [(.ref a334)]))
              refine G.astore H409 (L' := #[.val (.int x0), .val (.int x1), .val (.int x2), .val (.int x3), .val (.int x4), .val (.int x2), .val (.int x3), .val (.int ((XT.ushr x4 2) &&& 3)), .val (.ref a4), .val (.ref a334), .unset]) at_103 (pc' := 105) rfl rfl rfl ?_
              refine G.iloadN H409 at_105 (pc' := 106) rfl rfl ?_
              refine G.iload H409 at_106 (pc' := 108) rfl rfl ?_
              refine G.callS H409 (m31_sameSlot V x0 x2 h409_ H409.old c19 c349) (wd54 V) (wd55 V) (wd5 V) (wd56 V) (by decide) (argsL := [(.int x0), (.int x2)]) (rest := []) (W := 0) rfl rfl (lenOf (pd_7) rfl) rfl rfl at_108 (pc' := 111) rfl (by decide) (by decide) (by decide) (by decide) all0 ?_
              intro T418 h418_ v419 s420 H418 Q421
              obtain ⟨rfl, rfl, rfl⟩ := Q421
              show Go p e below _ (T418.setTop (mkF m 111 #[.val (.int x0), .val (.int x1), .val (.int x2), .val (.int x3), .val (.int x4), .val (.int x2), .val (.int x3), .val (.int ((XT.ushr x4 2) &&& 3)), .val (.ref a4), .val (.ref a334), .unset] [(.int 1)]))
              refine G.ifNo H418 at_111 (pc' := 114) rfl (by decide) ?_
              refine G.iloadN H418 at_114 (pc' := 115) rfl rfl ?_
              refine G.iload H418 at_115 (pc' := 117) rfl rfl ?_
              refine G.callS H418 (m13_sameStr V x1 x3 h409_ H418.old) (wd57 V) (wd58 V) (wd5 V) (wd59 V) (by decide) (argsL := [(.int x1), (.int x3)]) (rest := []) (W := 0) rfl rfl (lenOf (pd_7) rfl) rfl rfl at_117 (pc' := 120) rfl (by decide) (by decide) (by decide) (by decide) all0 ?_
              intro T422 h422_ v423 s424 H422 Q425
              rcases Q425 with ⟨c426, rfl, rfl, rfl⟩ | ⟨c427, rfl, rfl, rfl⟩
              ·
                show Go p e below _ (T422.setTop (mkF m 120 #[.val (.int x0), .val (.int x1), .val (.int x2), .val (.int x3), .val (.int x4), .val (.int x2), .val (.int x3), .val (.int ((XT.ushr x4 2) &&& 3)), .val (.ref a4), .val (.ref a334), .unset] [(.int 1)]))
                refine G.ifNo H422 at_120 (pc' := 123) rfl (by decide) ?_
                refine G.iconst H422 at_123 (pc' := 124) rfl (v := 1) rfl ?_
                refine G.goto H422 at_124 (by decide) (pc' := 128) rfl ?_
                refine G.istore H422 (L' := #[.val (.int x0), .val (.int x1), .val (.int x2), .val (.int x3), .val (.int x4), .val (.int x2), .val (.int x3), .val (.int ((XT.ushr x4 2) &&& 3)), .val (.ref a4), .val (.ref a334), .val (.int 1)]) at_128 (pc' := 130) rfl rfl ?_
                refine G.aload H422 at_130 (pc' := 132) rfl rfl rfl ?_
                refine G.aload H422 at_132 (pc' := 134) rfl rfl rfl ?_
                have K428 : Keep h290_ h409_ [] := (Keep.trans (Keep.trans (Keep.ext (Keep.refl h290_ []) E335) K401 all0) K413 (allS (Or.inr (Nat.le_of_eq ga334.symm)) all0))
                have F429 := (Exa.keep F296 K428)
                have F430 := (Fld.keep F297 K428 nin0)
                have F431 := (Fld.keep F298 K428 nin0)
                have K432 : Keep h275_ h290_ [a4] := (Keep.trans (Keep.refl h275_ [a4]) K294 (allS (Or.inl (mG (i := 0) rfl)) all0))
                have K433 : Keep h275_ h409_ [a4] := (Keep.trans (Keep.trans (Keep.ext (Keep.trans (Keep.refl h275_ [a4]) K294 (allS (Or.inl (mG (i := 0) rfl)) all0)) E335) K401 all0) K413 (allS (Or.inr (Nat.le_trans K432.1 (Nat.le_of_eq ga334.symm))) all0))
                have N434 : a279 ≠ a4 := Exa.ne F284.1 (Exa.keep A6 K282) (by decide)
                have N435 : a280 ≠ a4 := Ne.symm (Exa.neArv (Exa.keep A6 K282) F284.2.2.2.1 (wd1 V))
                have F436 := (Str.keep F284 K433 (ninS N434 nin0) (ninS N435 nin0))
                have N437 : a398 ≠ a334 := Exa.ne F403.1 (Exa.keep A336 K401) (by decide)
                have N438 : a399 ≠ a334 := Ne.symm (Exa.neArv (Exa.keep A336 K401) F403.2.2.2.1 (wd1 V))
                have F439 := (Str.keep F403 K413 (ninS N437 nin0) (ninS N438 nin0))
                refine G.callV H422 (m32_equals V a4 a334 a279 a398 a280 k281 (strOf x1) a399 k400 (strOf x3) h409_ H422.old F415 F430 F416 F431 F417 F436 F439 c426) (wd60 V) (wd61 V) (nf_sel (wd63 V)) (wd63 V) (wd62 V) (wd2 V) (wd64 V) (by decide) F429 (argsL := [(.ref a334)]) (rest := []) (W := 0) rfl rfl (lenOf (pd_5) rfl) rfl rfl at_134 (pc' := 137) rfl (by decide) (by decide) (by decide) (by decide) all0 ?_
                intro T440 h440_ v441 s442 H440 Q443
                obtain ⟨c444, rfl, rfl, rfl⟩ := Q443
                show Go p e below _ (T440.setTop (mkF m 137 #[.val (.int x0), .val (.int x1), .val (.int x2), .val (.int x3), .val (.int x4), .val (.int x2), .val (.int x3), .val (.int ((XT.ushr x4 2) &&& 3)), .val (.ref a4), .val (.ref a334), .val (.int 1)] [(.int 1)]))
                refine G.iload H440 at_137 (pc' := 139) rfl rfl ?_
                refine G.icmpNo H440 at_139 (pc' := 142) rfl (by decide) ?_
                refine G.aload H440 at_142 (pc' := 144) rfl rfl rfl ?_
                refine G.aload H440 at_144 (pc' := 146) rfl rfl rfl ?_
                refine G.callV H440 (m27_equals V a4 a279 h409_ H440.old F429 F430 F431 F436.1) (wd60 V) (wd61 V) (nf_sel (wd63 V)) (wd63 V) (wd62 V) (wd2 V) (wd64 V) (by decide) F429 (argsL := [(.ref a4)]) (rest := []) (W := 0) rfl rfl (lenOf (pd_5) rfl) rfl rfl at_146 (pc' := 149) rfl (by decide) (by decide) (by decide) (by decide) all0 ?_
                intro T445 h445_ v446 s447 H445 Q448
                obtain ⟨rfl, rfl, rfl⟩ := Q448
                show Go p e below _ (T445.setTop (mkF m 149 #[.val (.int x0), .val (.int x1), .val (.int x2), .val (.int x3), .val (.int x4), .val (.int x2), .val (.int x3), .val (.int ((XT.ushr x4 2) &&& 3)), .val (.ref a4), .val (.ref a334), .val (.int 1)] [(.int 1)]))
                refine G.ifNo H445 at_149 (pc' := 152) rfl (by decide) ?_
                refine G.iconst H445 at_152 (pc' := 153) rfl (v := 1) rfl ?_
                refine G.goto H445 at_153 (by decide) (pc' := 157) rfl ?_
                exact G.retN H445 (t := .boolean) rfl (by decide) at_157 (so := []) all0 (by decide) (by decide) rfl
              ·
                show Go p e below _ (T422.setTop (mkF m 120 #[.val (.int x0), .val (.int x1), .val (.int x2), .val (.int x3), .val (.int x4), .val (.int x2), .val (.int x3), .val (.int ((XT.ushr x4 2) &&& 3)), .val (.ref a4), .val (.ref a334), .unset] [(.int 0)]))
                refine G.ifYes H422 at_120 (by decide) (by decide) (pc' := 127) rfl ?_
                refine G.iconst H422 at_127 (pc' := 128) rfl (v := 0) rfl ?_
                refine G.istore H422 (L' := #[.val (.int x0), .val (.int x1), .val (.int x2), .val (.int x3), .val (.int x4), .val (.int x2), .val (.int x3), .val (.int ((XT.ushr x4 2) &&& 3)), .val (.ref a4), .val (.ref a334), .val (.int 0)]) at_128 (pc' := 130) rfl rfl ?_
                refine G.aload H422 at_130 (pc' := 132) rfl rfl rfl ?_
                refine G.aload H422 at_132 (pc' := 134) rfl rfl rfl ?_
                have K449 : Keep h290_ h409_ [] := (Keep.trans (Keep.trans (Keep.ext (Keep.refl h290_ []) E335) K401 all0) K413 (allS (Or.inr (Nat.le_of_eq ga334.symm)) all0))
                have F450 := (Exa.keep F296 K449)
                have F451 := (Fld.keep F297 K449 nin0)
                have F452 := (Fld.keep F298 K449 nin0)
                have K453 : Keep h275_ h290_ [a4] := (Keep.trans (Keep.refl h275_ [a4]) K294 (allS (Or.inl (mG (i := 0) rfl)) all0))
                have K454 : Keep h275_ h409_ [a4] := (Keep.trans (Keep.trans (Keep.ext (Keep.trans (Keep.refl h275_ [a4]) K294 (allS (Or.inl (mG (i := 0) rfl)) all0)) E335) K401 all0) K413 (allS (Or.inr (Nat.le_trans K453.1 (Nat.le_of_eq ga334.symm))) all0))
                have N455 : a279 ≠ a4 := Exa.ne F284.1 (Exa.keep A6 K282) (by decide)
                have N456 : a280 ≠ a4 := Ne.symm (Exa.neArv (Exa.keep A6 K282) F284.2.2.2.1 (wd1 V))
                have F457 := (Str.keep F284 K454 (ninS N455 nin0) (ninS N456 nin0))
                have N458 : a398 ≠ a334 := Exa.ne F403.1 (Exa.keep A336 K401) (by decide)
                have N459 : a399 ≠ a334 := Ne.symm (Exa.neArv (Exa.keep A336 K401) F403.2.2.2.1 (wd1 V))
                have F460 := (Str.keep F403 K413 (ninS N458 nin0) (ninS N459 nin0))
                refine G.callV H422 (m33_equals V a4 a334 a279 a398 a280 k281 (strOf x1) a399 k400 (strOf x3) h409_ H422.old F415 F451 F416 F452 F417 F457 F460 c427) (wd60 V) (wd61 V) (nf_sel (wd63 V)) (wd63 V) (wd62 V) (wd2 V) (wd64 V) (by decide) F450 (argsL := [(.ref a334)]) (rest := []) (W := 0) rfl rfl (lenOf (pd_5) rfl) rfl rfl at_134 (pc' := 137) rfl (by decide) (by decide) (by decide) (by decide) all0 ?_
                intro T461 h461_ v462 s463 H461 Q464
                obtain ⟨c465, rfl, rfl, rfl⟩ := Q464
                show Go p e below _ (T461.setTop (mkF m 137 #[.val (.int x0), .val (.int x1), .val (.int x2), .val (.int x3), .val (.int x4), .val (.int x2), .val (.int x3), .val (.int ((XT.ushr x4 2) &&& 3)), .val (.ref a4), .val (.ref a334), .val (.int 0)] [(.int 0)]))
                refine G.iload H461 at_137 (pc' := 139) rfl rfl ?_
                refine G.icmpNo H461 at_139 (pc' := 142) rfl (by decide) ?_
                refine G.aload H461 at_142 (pc' := 144) rfl rfl rfl ?_
                refine G.aload H461 at_144 (pc' := 146) rfl rfl rfl ?_
                refine G.callV H461 (m27_equals V a4 a279 h409_ H461.old F450 F451 F452 F457.1) (wd60 V) (wd61 V) (nf_sel (wd63 V)) (wd63 V) (wd62 V) (wd2 V) (wd64 V) (by decide) F450 (argsL := [(.ref a4)]) (rest := []) (W := 0) rfl rfl (lenOf (pd_5) rfl) rfl rfl at_146 (pc' := 149) rfl (by decide) (by decide) (by decide) (by decide) all0 ?_
                intro T466 h466_ v467 s468 H466 Q469
                obtain ⟨rfl, rfl, rfl⟩ := Q469
                show Go p e below _ (T466.setTop (mkF m 149 #[.val (.int x0), .val (.int x1), .val (.int x2), .val (.int x3), .val (.int x4), .val (.int x2), .val (.int x3), .val (.int ((XT.ushr x4 2) &&& 3)), .val (.ref a4), .val (.ref a334), .val (.int 0)] [(.int 1)]))
                refine G.ifNo H466 at_149 (pc' := 152) rfl (by decide) ?_
                refine G.iconst H466 at_152 (pc' := 153) rfl (v := 1) rfl ?_
                refine G.goto H466 at_153 (by decide) (pc' := 157) rfl ?_
                exact G.retN H466 (t := .boolean) rfl (by decide) at_157 (so := []) all0 (by decide) (by decide) rfl
    ·
      refine G.ifNo H at_18 (pc' := 21) rfl (XT.i0_eq_f c2) ?_
      refine G.iloadN H at_21 (pc' := 22) rfl rfl ?_
      refine G.goto H at_22 (by decide) (pc' := 26) rfl ?_
      refine G.istore H (L' := #[.val (.int x0), .val (.int x1), .val (.int x2), .val (.int x3), .val (.int x4), .val (.int x2), .val (.int x1), .unset, .unset, .unset, .unset]) at_26 (pc' := 28) rfl rfl ?_
      refine G.iload H at_28 (pc' := 30) rfl rfl ?_
      refine G.iconst H at_30 (pc' := 31) rfl (v := 2) rfl ?_
      refine G.iushr H at_31 (pc' := 32) rfl ?_
      refine G.iconst H at_32 (pc' := 33) rfl (v := 3) rfl ?_
      refine G.iand H at_33 (pc' := 34) rfl ?_
      refine G.istore H (L' := #[.val (.int x0), .val (.int x1), .val (.int x2), .val (.int x3), .val (.int x4), .val (.int x2), .val (.int x1), .val (.int ((XT.ushr x4 2) &&& 3)), .unset, .unset, .unset]) at_34 (pc' := 36) rfl rfl ?_
      refine G.new H (wd0 V) (wd1 V) (wd2 V) at_36 (pc' := 39) rfl (by decide) (by decide) ?_
      intro T470 h470_ a471 ga471 H470 E472 A473 D474
      have na471 := H.nle ga471
      refine G.dup H470 at_39 (pc' := 40) rfl rfl ?_
      refine G.iloadN H470 at_40 (pc' := 41) rfl rfl ?_
      refine G.callS H470 (m5_slot V x0 h470_ H470.old) (wd3 V) (wd4 V) (wd5 V) (wd6 V) (by decide) (argsL := [(.int x0)]) (rest := [(.ref a471), (.ref a471)]) (W := 2) rfl rfl (lenOf (pd_3) rfl) rfl rfl at_41 (pc' := 44) rfl (by decide) (by decide) (by decide) (by decide) all0 ?_
      intro T475 h475_ v476 s477 H475 Q478
      rcases Q478 with ⟨a479, a480, k481, c482, rfl, rfl, K483, g484, F485⟩ | ⟨c486, rfl, rfl, rfl⟩
      ·
        have na479 : n0 ≤ a479 := Nat.le_trans H470.le g484
        show Go p e below _ (T475.setTop (mkF m 44 #[.val (.int x0), .val (.int x1), .val (.int x2), .val (.int x3), .val (.int x4), .val (.int x2), .val (.int x1), .val (.int ((XT.ushr x4 2) &&& 3)), .unset, .unset, .unset] [(.ref a479), (.ref a471), (.ref a471)]))
        refine G.iloadN H475 at_44 (pc' := 45) rfl rfl ?_
        refine G.callS H475 (m4_str V x1 h475_ H475.old) (wd10 V) (wd11 V) (wd5 V) (wd12 V) (by decide) (argsL := [(.int x1)]) (rest := [(.ref a479), (.ref a471), (.ref a471)]) (W := 3) rfl rfl (lenOf (pd_3) rfl) rfl rfl at_45 (pc' := 48) rfl (by decide) (by decide) (by decide) (by decide) all0 ?_
        intro T487 h487_ v488 s489 H487 Q490
        obtain ⟨a491, a492, k493, rfl, rfl, K494, g495, F496⟩ := Q490
        have na491 : n0 ≤ a491 := Nat.le_trans H475.le g495
        show Go p e below _ (T487.setTop (mkF m 48 #[.val (.int x0), .val (.int x1), .val (.int x2), .val (.int x3), .val (.int x4), .val (.int x2), .val (.int x1), .val (.int ((XT.ushr x4 2) &&& 3)), .unset, .unset, .unset] [(.ref a491), (.ref a479), (.ref a471), (.ref a471)]))
        have K497 : Keep h470_ h487_ [] := (Keep.trans (Keep.trans (Keep.refl h470_ []) K483 all0) K494 all0)
        have F498 := (Exa.keep A473 K497)
        have F499 : Fld Z h470_ a471 "com/example/schema_to_form/schematoform/record/ValuePath" "slot" "Ljava/lang/String;" .null := D474 (Or.inr (wd51 V)) (ty := (.object "java/lang/String")) (by decide)
        have F500 := (Fld.keep F499 K497 nin0)
        have F501 : Fld Z h470_ a471 "com/example/schema_to_form/schematoform/record/ValuePath" "name" "Ljava/lang/String;" .null := D474 (Or.inr (wd53 V)) (ty := (.object "java/lang/String")) (by decide)
        have F502 := (Fld.keep F501 K497 nin0)
        refine G.callI H487 (m6_init V a471 a479 a491 h487_ H487.old F498 F500 na471 F502) rfl (wd46 V) (wd47 V) (wd2 V) (wd48 V) (by decide) (a := a471) (argsL := [(.ref a479), (.ref a491)]) (rest := [(.ref a471)]) (W := 1) rfl rfl (lenOf (pd_4) rfl) rfl rfl at_48 (pc' := 51) rfl (by decide) (by decide) (by decide) (by decide) all0 ?_
        intro T503 h503_ v504 s505 H503 Q506
        obtain ⟨rfl, rfl, K507, U508, F509, F510, F511⟩ := Q506
        show Go p e below _ (T503.setTop (mkF m 51 #[.val (.int x0), .val (.int x1), .val (.int x2), .val (.int x3), .val (.int x4), .val (.int x2), .val (.int x1), .val (.int ((XT.ushr x4 2) &&& 3)), .unset, .unset, .unset] [(.ref a471)]))
        refine G.astore H503 (L' := #[.val (.int x0), .val (.int x1), .val (.int x2), .val (.int x3), .val (.int x4), .val (.int x2), .val (.int x1), .val (.int ((XT.ushr x4 2) &&& 3)), .val (.ref a471), .unset, .unset]) at_51 (pc' := 53) rfl rfl rfl ?_
        refine G.iload H503 at_53 (pc' := 55) rfl rfl ?_
        refine G.iconst H503 at_55 (pc' := 56) rfl (v := 2) rfl ?_
        by_cases c512 : ((XT.ushr x4 2) &&& 3) = 2
        ·
          refine G.icmpNo H503 at_56 (pc' := 59) rfl (XT.ii_ne_f c512) ?_
          refine G.aconstNull H503 at_59 (pc' := 60) rfl ?_
          refine G.astore H503 (L' := #[.val (.int x0), .val (.int x1), .val (.int x2), .val (.int x3), .val (.int x4), .val (.int x2), .val (.int x1), .val (.int ((XT.ushr x4 2) &&& 3)), .val (.ref a471), .val .null, .unset]) at_60 (pc' := 62) rfl rfl rfl ?_
          refine G.iconst H503 at_62 (pc' := 63) rfl (v := 0) rfl ?_
          refine G.istore H503 (L' := #[.val (.int x0), .val (.int x1), .val (.int x2), .val (.int x3), .val (.int x4), .val (.int x2), .val (.int x1), .val (.int ((XT.ushr x4 2) &&& 3)), .val (.ref a471), .val .null, .val (.int 0)]) at_63 (pc' := 65) rfl rfl ?_
          refine G.goto H503 at_65 (by decide) (pc' := 130) rfl ?_
          refine G.aload H503 at_130 (pc' := 132) rfl rfl rfl ?_
          refine G.aload H503 at_132 (pc' := 134) rfl rfl rfl ?_
          refine G.callV H503 (m7_equals V a471 h503_ H503.old) (wd60 V) (wd61 V) (nf_sel (wd63 V)) (wd63 V) (wd62 V) (wd2 V) (wd64 V) (by decide) F509 (argsL := [.null]) (rest := []) (W := 0) rfl rfl (lenOf (pd_5) rfl) rfl rfl at_134 (pc' := 137) rfl (by decide) (by decide) (by decide) (by decide) all0 ?_
          intro T513 h513_ v514 s515 H513 Q516
          obtain ⟨rfl, rfl, rfl⟩ := Q516
          show Go p e below _ (T513.setTop (mkF m 137 #[.val (.int x0), .val (.int x1), .val (.int x2), .val (.int x3), .val (.int x4), .val (.int x2), .val (.int x1), .val (.int ((XT.ushr x4 2) &&& 3)), .val (.ref a471), .val .null, .val (.int 0)] [(.int 0)]))
          refine G.iload H513 at_137 (pc' := 139) rfl rfl ?_
          refine G.icmpNo H513 at_139 (pc' := 142) rfl (by decide) ?_
          refine G.aload H513 at_142 (pc' := 144) rfl rfl rfl ?_
          refine G.aload H513 at_144 (pc' := 146) rfl rfl rfl ?_
          have F517 := (Exa.keep F496.1 K507)
          refine G.callV H513 (m10_equals V a471 a479 a491 h503_ H513.old F509 F510 F511 F517) (wd60 V) (wd61 V) (nf_sel (wd63 V)) (wd63 V) (wd62 V) (wd2 V) (wd64 V) (by decide) F509 (argsL := [(.ref a471)]) (rest := []) (W := 0) rfl rfl (lenOf (pd_5) rfl) rfl rfl at_146 (pc' := 149) rfl (by decide) (by decide) (by decide) (by decide) all0 ?_
          intro T518 h518_ v519 s520 H518 Q521
          obtain ⟨rfl, rfl, rfl⟩ := Q521
          show Go p e below _ (T518.setTop (mkF m 149 #[.val (.int x0), .val (.int x1), .val (.int x2), .val (.int x3), .val (.int x4), .val (.int x2), .val (.int x1), .val (.int ((XT.ushr x4 2) &&& 3)), .val (.ref a471), .val .null, .val (.int 0)] [(.int 1)]))
          refine G.ifNo H518 at_149 (pc' := 152) rfl (by decide) ?_
          refine G.iconst H518 at_152 (pc' := 153) rfl (v := 1) rfl ?_
          refine G.goto H518 at_153 (by decide) (pc' := 157) rfl ?_
          exact G.retN H518 (t := .boolean) rfl (by decide) at_157 (so := []) all0 (by decide) (by decide) rfl
        ·
          refine G.icmpYes H503 at_56 (XT.ii_ne_t c512) (by decide) (pc' := 68) rfl ?_
          refine G.iload H503 at_68 (pc' := 70) rfl rfl ?_
          refine G.iconst H503 at_70 (pc' := 71) rfl (v := 3) rfl ?_
          by_cases c522 : ((XT.ushr x4 2) &&& 3) = 3
          ·
            refine G.icmpNo H503 at_71 (pc' := 74) rfl (XT.ii_ne_f c522) ?_
            refine G.iloadN H503 at_74 (pc' := 75) rfl rfl ?_
            refine G.callS H503 (m4_str V x1 h503_ H503.old) (wd10 V) (wd11 V) (wd5 V) (wd12 V) (by decide) (argsL := [(.int x1)]) (rest := []) (W := 0) rfl rfl (lenOf (pd_3) rfl) rfl rfl at_75 (pc' := 78) rfl (by decide) (by decide) (by decide) (by decide) all0 ?_
            intro T523 h523_ v524 s525 H523 Q526
            obtain ⟨a527, a528, k529, rfl, rfl, K530, g531, F532⟩ := Q526
            have na527 : n0 ≤ a527 := Nat.le_trans H503.le g531
            show Go p e below _ (T523.setTop (mkF m 78 #[.val (.int x0), .val (.int x1), .val (.int x2), .val (.int x3), .val (.int x4), .val (.int x2), .val (.int x1), .val (.int ((XT.ushr x4 2) &&& 3)), .val (.ref a471), .unset, .unset] [(.ref a527)]))
            refine G.astore H523 (L' := #[.val (.int x0), .val (.int x1), .val (.int x2), .val (.int x3), .val (.int x4), .val (.int x2), .val (.int x1), .val (.int ((XT.ushr x4 2) &&& 3)), .val (.ref a471), .val (.ref a527), .unset]) at_78 (pc' := 80) rfl rfl rfl ?_
            refine G.iconst H523 at_80 (pc' := 81) rfl (v := 0) rfl ?_
            refine G.istore H523 (L' := #[.val (.int x0), .val (.int x1), .val (.int x2), .val (.int x3), .val (.int x4), .val (.int x2), .val (.int x1), .val (.int ((XT.ushr x4 2) &&& 3)), .val (.ref a471), .val (.ref a527), .val (.int 0)]) at_81 (pc' := 83) rfl rfl ?_
            refine G.goto H523 at_83 (by decide) (pc' := 130) rfl ?_
            refine G.aload H523 at_130 (pc' := 132) rfl rfl rfl ?_
            refine G.aload H523 at_132 (pc' := 134) rfl rfl rfl ?_
            have F533 := (Exa.keep F509 K530)
            refine G.callV H523 (m11_equals V a471 a527 h523_ H523.old F532.1) (wd60 V) (wd61 V) (nf_sel (wd63 V)) (wd63 V) (wd62 V) (wd2 V) (wd64 V) (by decide) F533 (argsL := [(.ref a527)]) (rest := []) (W := 0) rfl rfl (lenOf (pd_5) rfl) rfl rfl at_134 (pc' := 137) rfl (by decide) (by decide) (by decide) (by decide) all0 ?_
            intro T534 h534_ v535 s536 H534 Q537
            obtain ⟨rfl, rfl, rfl⟩ := Q537
            show Go p e below _ (T534.setTop (mkF m 137 #[.val (.int x0), .val (.int x1), .val (.int x2), .val (.int x3), .val (.int x4), .val (.int x2), .val (.int x1), .val (.int ((XT.ushr x4 2) &&& 3)), .val (.ref a471), .val (.ref a527), .val (.int 0)] [(.int 0)]))
            refine G.iload H534 at_137 (pc' := 139) rfl rfl ?_
            refine G.icmpNo H534 at_139 (pc' := 142) rfl (by decide) ?_
            refine G.aload H534 at_142 (pc' := 144) rfl rfl rfl ?_
            refine G.aload H534 at_144 (pc' := 146) rfl rfl rfl ?_
            have F538 := (Fld.keep F510 K530 nin0)
            have F539 := (Fld.keep F511 K530 nin0)
            have K540 : Keep h487_ h523_ [a471] := (Keep.trans (Keep.trans (Keep.refl h487_ [a471]) K507 (allS (Or.inl (mG (i := 0) rfl)) all0)) K530 all0)
            have F541 := (Exa.keep F496.1 K540)
            refine G.callV H534 (m10_equals V a471 a479 a491 h523_ H534.old F533 F538 F539 F541) (wd60 V) (wd61 V) (nf_sel (wd63 V)) (wd63 V) (wd62 V) (wd2 V) (wd64 V) (by decide) F533 (argsL := [(.ref a471)]) (rest := []) (W := 0) rfl rfl (lenOf (pd_5) rfl) rfl rfl at_146 (pc' := 149) rfl (by decide) (by decide) (by decide) (by decide) all0 ?_
            intro T542 h542_ v543 s544 H542 Q545
            obtain ⟨rfl, rfl, rfl⟩ := Q545
            show Go p e below _ (T542.setTop (mkF m 149 #[.val (.int x0), .val (.int x1), .val (.int x2), .val (.int x3), .val (.int x4), .val (.int x2), .val (.int x1), .val (.int ((XT.ushr x4 2) &&& 3)), .val (.ref a471), .val (.ref a527), .val (.int 0)] [(.int 1)]))
            refine G.ifNo H542 at_149 (pc' := 152) rfl (by decide) ?_
            refine G.iconst H542 at_152 (pc' := 153) rfl (v := 1) rfl ?_
            refine G.goto H542 at_153 (by decide) (pc' := 157) rfl ?_
            exact G.retN H542 (t := .boolean) rfl (by decide) at_157 (so := []) all0 (by decide) (by decide) rfl
          ·
            refine G.icmpYes H503 at_71 (XT.ii_ne_t c522) (by decide) (pc' := 86) rfl ?_
            refine G.new H503 (wd0 V) (wd1 V) (wd2 V) at_86 (pc' := 89) rfl (by decide) (by decide) ?_
            intro T546 h546_ a547 ga547 H546 E548 A549 D550
            have na547 := H503.nle ga547
            refine G.dup H546 at_89 (pc' := 90) rfl rfl ?_
            refine G.iload H546 at_90 (pc' := 92) rfl rfl ?_
            refine G.callS H546 (m5_slot V x2 h546_ H546.old) (wd3 V) (wd4 V) (wd5 V) (wd6 V) (by decide) (argsL := [(.int x2)]) (rest := [(.ref a547), (.ref a547)]) (W := 2) rfl rfl (lenOf (pd_3) rfl) rfl rfl at_92 (pc' := 95) rfl (by decide) (by decide) (by decide) (by decide) all0 ?_
            intro T551 h551_ v552 s553 H551 Q554
            rcases Q554 with ⟨a555, a556, k557, c558, rfl, rfl, K559, g560, F561⟩ | ⟨c562, rfl, rfl, rfl⟩
            ·
              have na555 : n0 ≤ a555 := Nat.le_trans H546.le g560
              show Go p e below _ (T551.setTop (mkF m 95 #[.val (.int x0), .val (.int x1), .val (.int x2), .val (.int x3), .val (.int x4), .val (.int x2), .val (.int x1), .val (.int ((XT.ushr x4 2) &&& 3)), .val (.ref a471), .unset, .unset] [(.ref a555), (.ref a547), (.ref a547)]))
              refine G.iload H551 at_95 (pc' := 97) rfl rfl ?_
              refine G.callS H551 (m4_str V x1 h551_ H551.old) (wd10 V) (wd11 V) (wd5 V) (wd12 V) (by decide) (argsL := [(.int x1)]) (rest := [(.ref a555), (.ref a547), (.ref a547)]) (W := 3) rfl rfl (lenOf (pd_3) rfl) rfl rfl at_97 (pc' := 100) rfl (by decide) (by decide) (by decide) (by decide) all0 ?_
              intro T563 h563_ v564 s565 H563 Q566
              obtain ⟨a567, a568, k569, rfl, rfl, K570, g571, F572⟩ := Q566
              have na567 : n0 ≤ a567 := Nat.le_trans H551.le g571
              show Go p e below _ (T563.setTop (mkF m 100 #[.val (.int x0), .val (.int x1), .val (.int x2), .val (.int x3), .val (.int x4), .val (.int x2), .val (.int x1), .val (.int ((XT.ushr x4 2) &&& 3)), .val (.ref a471), .unset, .unset] [(.ref a567), (.ref a555), (.ref a547), (.ref a547)]))
              have K573 : Keep h546_ h563_ [] := (Keep.trans (Keep.trans (Keep.refl h546_ []) K559 all0) K570 all0)
              have F574 := (Exa.keep A549 K573)
              have F575 : Fld Z h546_ a547 "com/example/schema_to_form/schematoform/record/ValuePath" "slot" "Ljava/lang/String;" .null := D550 (Or.inr (wd51 V)) (ty := (.object "java/lang/String")) (by decide)
              have F576 := (Fld.keep F575 K573 nin0)
              have F577 : Fld Z h546_ a547 "com/example/schema_to_form/schematoform/record/ValuePath" "name" "Ljava/lang/String;" .null := D550 (Or.inr (wd53 V)) (ty := (.object "java/lang/String")) (by decide)
              have F578 := (Fld.keep F577 K573 nin0)
              refine G.callI H563 (m6_init V a547 a555 a567 h563_ H563.old F574 F576 na547 F578) rfl (wd46 V) (wd47 V) (wd2 V) (wd48 V) (by decide) (a := a547) (argsL := [(.ref a555), (.ref a567)]) (rest := [(.ref a547)]) (W := 1) rfl rfl (lenOf (pd_4) rfl) rfl rfl at_100 (pc' := 103) rfl (by decide) (by decide) (by decide) (by decide) all0 ?_
              intro T579 h579_ v580 s581 H579 Q582
              obtain ⟨rfl, rfl, K583, U584, F585, F586, F587⟩ := Q582
              show Go p e below _ (T579.setTop (mkF m 103 #[.val (.int x0), .val (.int x1), .val (.int x2), .val (.int x3), .val (.int x4), .val (.int x2), .val (.int x1), .val (.int ((XT.ushr x4 2) &&& 3)), .val (.ref a471), .unset, .unset] [(.ref a547)]))
              refine G.astore H579 (L' := #[.val (.int x0), .val (.int x1), .val (.int x2), .val (.int x3), .val (.int x4), .val (.int x2), .val (.int x1), .val (.int ((XT.ushr x4 2) &&& 3)), .val (.ref a471), .val (.ref a547), .unset]) at_103 (pc' := 105) rfl rfl rfl ?_
              refine G.iloadN H579 at_105 (pc' := 106) rfl rfl ?_
              refine G.iload H579 at_106 (pc' := 108) rfl rfl ?_
              refine G.callS H579 (m14_sameSlot V x0 x2 h579_ H579.old c482 c558) (wd54 V) (wd55 V) (wd5 V) (wd56 V) (by decide) (argsL := [(.int x0), (.int x2)]) (rest := []) (W := 0) rfl rfl (lenOf (pd_7) rfl) rfl rfl at_108 (pc' := 111) rfl (by decide) (by decide) (by decide) (by decide) all0 ?_
              intro T588 h588_ v589 s590 H588 Q591
              rcases Q591 with ⟨c592, rfl, rfl, rfl⟩ | ⟨c593, rfl, rfl, rfl⟩
              ·
                show Go p e below _ (T588.setTop (mkF m 111 #[.val (.int x0), .val (.int x1), .val (.int x2), .val (.int x3), .val (.int x4), .val (.int x2), .val (.int x1), .val (.int ((XT.ushr x4 2) &&& 3)), .val (.ref a471), .val (.ref a547), .unset] [(.int 1)]))
                refine G.ifNo H588 at_111 (pc' := 114) rfl (by decide) ?_
                refine G.iloadN H588 at_114 (pc' := 115) rfl rfl ?_
                refine G.iload H588 at_115 (pc' := 117) rfl rfl ?_
                refine G.callS H588 (m34_sameStr V x1 h579_ H588.old) (wd57 V) (wd58 V) (wd5 V) (wd59 V) (by decide) (argsL := [(.int x1), (.int x1)]) (rest := []) (W := 0) rfl rfl (lenOf (pd_7) rfl) rfl rfl at_117 (pc' := 120) rfl (by decide) (by decide) (by decide) (by decide) all0 ?_
                intro T594 h594_ v595 s596 H594 Q597
                obtain ⟨rfl, rfl, rfl⟩ := Q597
                show Go p e below _ (T594.setTop (mkF m 120 #[.val (.int x0), .val (.int x1), .val (.int x2), .val (.int x3), .val (.int x4), .val (.int x2), .val (.int x1), .val (.int ((XT.ushr x4 2) &&& 3)), .val (.ref a471), .val (.ref a547), .unset] [(.int 1)]))
                refine G.ifNo H594 at_120 (pc' := 123) rfl (by decide) ?_
                refine G.iconst H594 at_123 (pc' := 124) rfl (v := 1) rfl ?_
                refine G.goto H594 at_124 (by decide) (pc' := 128) rfl ?_
                refine G.istore H594 (L' := #[.val (.int x0), .val (.int x1), .val (.int x2), .val (.int x3), .val (.int x4), .val (.int x2), .val (.int x1), .val (.int ((XT.ushr x4 2) &&& 3)), .val (.ref a471), .val (.ref a547), .val (.int 1)]) at_128 (pc' := 130) rfl rfl ?_
                refine G.aload H594 at_130 (pc' := 132) rfl rfl rfl ?_
                refine G.aload H594 at_132 (pc' := 134) rfl rfl rfl ?_
                have K598 : Keep h503_ h579_ [] := (Keep.trans (Keep.trans (Keep.trans (Keep.ext (Keep.refl h503_ []) E548) K559 all0) K570 all0) K583 (allS (Or.inr (Nat.le_of_eq ga547.symm)) all0))
                have F599 := (Exa.keep F509 K598)
                have F600 := (Fld.keep F510 K598 nin0)
                have K601 : Keep h475_ h546_ [a471] := (Keep.ext (Keep.trans (Keep.trans (Keep.refl h475_ [a471]) K494 all0) K507 (allS (Or.inl (mG (i := 0) rfl)) all0)) E548)
                have N602 : a479 ≠ a555 := (Nat.ne_of_lt (Nat.lt_of_lt_of_le (Nat.lt_of_lt_of_le F485.1.lt K601.1) g560))
                have K603 : Keep h475_ h503_ [a471] := (Keep.trans (Keep.trans (Keep.refl h475_ [a471]) K494 all0) K507 (allS (Or.inl (mG (i := 0) rfl)) all0))
                have K604 : Keep h475_ h579_ [a471] := (Keep.trans (Keep.trans (Keep.trans (Keep.ext (Keep.trans (Keep.trans (Keep.refl h475_ [a471]) K494 all0) K507 (allS (Or.inl (mG (i := 0) rfl)) all0)) E548) K559 all0) K570 all0) K583 (allS (Or.inr (Nat.le_trans K603.1 (Nat.le_of_eq ga547.symm))) all0))
                have F605 := (Exa.keep F485.1 K604)
                have N606 : a479 ≠ a471 := Exa.ne F605 F599 (by decide)
                have N607 : a480 ≠ a471 := Ne.symm (Exa.neArv (Exa.keep A473 K483) F485.2.2.2.1 (wd1 V))
                have F608 := (Str.keep F485 K604 (ninS N606 nin0) (ninS N607 nin0))
                have K609 : Keep h551_ h579_ [a547] := (Keep.trans (Keep.trans (Keep.refl h551_ [a547]) K570 all0) K583 (allS (Or.inl (mG (i := 0) rfl)) all0))
                have N610 : a555 ≠ a547 := Exa.ne F561.1 (Exa.keep A549 K559) (by decide)
                have N611 : a556 ≠ a547 := Ne.symm (Exa.neArv (Exa.keep A549 K559) F561.2.2.2.1 (wd1 V))
                have F612 := (Str.keep F561 K609 (ninS N610 nin0) (ninS N611 nin0))
                have F613 := (Fld.keep F511 K598 nin0)
                have K614 : Keep h487_ h503_ [a471] := (Keep.trans (Keep.refl h487_ [a471]) K507 (allS (Or.inl (mG (i := 0) rfl)) all0))
                have K615 : Keep h487_ h579_ [a471] := (Keep.trans (Keep.trans (Keep.trans (Keep.ext (Keep.trans (Keep.refl h487_ [a471]) K507 (allS (Or.inl (mG (i := 0) rfl)) all0)) E548) K559 all0) K570 all0) K583 (allS (Or.inr (Nat.le_trans K614.1 (Nat.le_of_eq ga547.symm))) all0))
                have N616 : a491 ≠ a471 := Exa.ne F496.1 (Exa.keep (Exa.keep A473 K483) K494) (by decide)
                have N617 : a492 ≠ a471 := Ne.symm (Exa.neArv (Exa.keep (Exa.keep A473 K483) K494) F496.2.2.2.1 (wd1 V))
                have F618 := (Str.keep F496 K615 (ninS N616 nin0) (ninS N617 nin0))
                have N619 : a567 ≠ a547 := Exa.ne F572.1 (Exa.keep (Exa.keep A549 K559) K570) (by decide)
                have N620 : a568 ≠ a547 := Ne.symm (Exa.neArv (Exa.keep (Exa.keep A549 K559) K570) F572.2.2.2.1 (wd1 V))
                have F621 := (Str.keep F572 K583 (ninS N619 nin0) (ninS N620 nin0))
                refine G.callV H594 (m35_equals V a471 a547 a479 a555 a480 k481 (strOf x0) a556 k557 (strOf x2) a491 a567 a492 k493 (strOf x1) a568 k569 h579_ H594.old F585 F600 F586 N602 F605 F608 F612 c592 F613 F587 F618 F621) (wd60 V) (wd61 V) (nf_sel (wd63 V)) (wd63 V) (wd62 V) (wd2 V) (wd64 V) (by decide) F599 (argsL := [(.ref a547)]) (rest := []) (W := 0) rfl rfl (lenOf (pd_5) rfl) rfl rfl at_134 (pc' := 137) rfl (by decide) (by decide) (by decide) (by decide) all0 ?_
                intro T622 h622_ v623 s624 H622 Q625
                rcases Q625 with ⟨c626, c627, rfl, rfl, rfl⟩ | ⟨c628, c629, rfl, rfl, rfl⟩
                ·
                  show Go p e below _ (T622.setTop (mkF m 137 #[.val (.int x0), .val (.int x1), .val (.int x2), .val (.int x3), .val (.int x4), .val (.int x2), .val (.int x1), .val (.int ((XT.ushr x4 2) &&& 3)), .val (.ref a471), .val (.ref a547), .val (.int 1)] [(.int 1)]))
                  refine G.iload H622 at_137 (pc' := 139) rfl rfl ?_
                  refine G.icmpNo H622 at_139 (pc' := 142) rfl (by decide) ?_
                  refine G.aload H622 at_142 (pc' := 144) rfl rfl rfl ?_
                  refine G.aload H622 at_144 (pc' := 146) rfl rfl rfl ?_
                  refine G.callV H622 (m10_equals V a471 a479 a491 h579_ H622.old F599 F600 F613 F618.1) (wd60 V) (wd61 V) (nf_sel (wd63 V)) (wd63 V) (wd62 V) (wd2 V) (wd64 V) (by decide) F599 (argsL := [(.ref a471)]) (rest := []) (W := 0) rfl rfl (lenOf (pd_5) rfl) rfl rfl at_146 (pc' := 149) rfl (by decide) (by decide) (by decide) (by decide) all0 ?_
                  intro T630 h630_ v631 s632 H630 Q633
                  obtain ⟨rfl, rfl, rfl⟩ := Q633
                  show Go p e below _ (T630.setTop (mkF m 149 #[.val (.int x0), .val (.int x1), .val (.int x2), .val (.int x3), .val (.int x4), .val (.int x2), .val (.int x1), .val (.int ((XT.ushr x4 2) &&& 3)), .val (.ref a471), .val (.ref a547), .val (.int 1)] [(.int 1)]))
                  refine G.ifNo H630 at_149 (pc' := 152) rfl (by decide) ?_
                  refine G.iconst H630 at_152 (pc' := 153) rfl (v := 1) rfl ?_
                  refine G.goto H630 at_153 (by decide) (pc' := 157) rfl ?_
                  exact G.retN H630 (t := .boolean) rfl (by decide) at_157 (so := []) all0 (by decide) (by decide) rfl
                ·
                  exact absurd rfl c629
              ·
                show Go p e below _ (T588.setTop (mkF m 111 #[.val (.int x0), .val (.int x1), .val (.int x2), .val (.int x3), .val (.int x4), .val (.int x2), .val (.int x1), .val (.int ((XT.ushr x4 2) &&& 3)), .val (.ref a471), .val (.ref a547), .unset] [(.int 0)]))
                refine G.ifYes H588 at_111 (by decide) (by decide) (pc' := 127) rfl ?_
                refine G.iconst H588 at_127 (pc' := 128) rfl (v := 0) rfl ?_
                refine G.istore H588 (L' := #[.val (.int x0), .val (.int x1), .val (.int x2), .val (.int x3), .val (.int x4), .val (.int x2), .val (.int x1), .val (.int ((XT.ushr x4 2) &&& 3)), .val (.ref a471), .val (.ref a547), .val (.int 0)]) at_128 (pc' := 130) rfl rfl ?_
                refine G.aload H588 at_130 (pc' := 132) rfl rfl rfl ?_
                refine G.aload H588 at_132 (pc' := 134) rfl rfl rfl ?_
                have K634 : Keep h503_ h579_ [] := (Keep.trans (Keep.trans (Keep.trans (Keep.ext (Keep.refl h503_ []) E548) K559 all0) K570 all0) K583 (allS (Or.inr (Nat.le_of_eq ga547.symm)) all0))
                have F635 := (Exa.keep F509 K634)
                have F636 := (Fld.keep F510 K634 nin0)
                have K637 : Keep h475_ h546_ [a471] := (Keep.ext (Keep.trans (Keep.trans (Keep.refl h475_ [a471]) K494 all0) K507 (allS (Or.inl (mG (i := 0) rfl)) all0)) E548)
                have N638 : a479 ≠ a555 := (Nat.ne_of_lt (Nat.lt_of_lt_of_le (Nat.lt_of_lt_of_le F485.1.lt K637.1) g560))
                have K639 : Keep h475_ h503_ [a471] := (Keep.trans (Keep.trans (Keep.refl h475_ [a471]) K494 all0) K507 (allS (Or.inl (mG (i := 0) rfl)) all0))
                have K640 : Keep h475_ h579_ [a471] := (Keep.trans (Keep.trans (Keep.trans (Keep.ext (Keep.trans (Keep.trans (Keep.refl h475_ [a471]) K494 all0) K507 (allS (Or.inl (mG (i := 0) rfl)) all0)) E548) K559 all0) K570 all0) K583 (allS (Or.inr (Nat.le_trans K639.1 (Nat.le_of_eq ga547.symm))) all0))
                have F641 := (Exa.keep F485.1 K640)
                have N642 : a479 ≠ a471 := Exa.ne F641 F635 (by decide)
                have N643 : a480 ≠ a471 := Ne.symm (Exa.neArv (Exa.keep A473 K483) F485.2.2.2.1 (wd1 V))
                have F644 := (Str.keep F485 K640 (ninS N642 nin0) (ninS N643 nin0))
                have K645 : Keep h551_ h579_ [a547] := (Keep.trans (Keep.trans (Keep.refl h551_ [a547]) K570 all0) K583 (allS (Or.inl (mG (i := 0) rfl)) all0))
                have N646 : a555 ≠ a547 := Exa.ne F561.1 (Exa.keep A549 K559) (by decide)
                have N647 : a556 ≠ a547 := Ne.symm (Exa.neArv (Exa.keep A549 K559) F561.2.2.2.1 (wd1 V))
                have F648 := (Str.keep F561 K645 (ninS N646 nin0) (ninS N647 nin0))
                refine G.callV H588 (m19_equals V a471 a547 a479 a555 a480 k481 (strOf x0) a556 k557 (strOf x2) h579_ H588.old F585 F636 F586 N638 F641 F644 F648 c593) (wd60 V) (wd61 V) (nf_sel (wd63 V)) (wd63 V) (wd62 V) (wd2 V) (wd64 V) (by decide) F635 (argsL := [(.ref a547)]) (rest := []) (W := 0) rfl rfl (lenOf (pd_5) rfl) rfl rfl at_134 (pc' := 137) rfl (by decide) (by decide) (by decide) (by decide) all0 ?_
                intro T649 h649_ v650 s651 H649 Q652
                obtain ⟨c653, rfl, rfl, rfl⟩ := Q652
                show Go p e below _ (T649.setTop (mkF m 137 #[.val (.int x0), .val (.int x1), .val (.int x2), .val (.int x3), .val (.int x4), .val (.int x2), .val (.int x1), .val (.int ((XT.ushr x4 2) &&& 3)), .val (.ref a471), .val (.ref a547), .val (.int 0)] [(.int 0)]))
                refine G.iload H649 at_137 (pc' := 139) rfl rfl ?_
                refine G.icmpNo H649 at_139 (pc' := 142) rfl (by decide) ?_
                refine G.aload H649 at_142 (pc' := 144) rfl rfl rfl ?_
                refine G.aload H649 at_144 (pc' := 146) rfl rfl rfl ?_
                have F654 := (Fld.keep F511 K634 nin0)
                have K655 : Keep h487_ h503_ [a471] := (Keep.trans (Keep.refl h487_ [a471]) K507 (allS (Or.inl (mG (i := 0) rfl)) all0))
                have K656 : Keep h487_ h579_ [a471] := (Keep.trans (Keep.trans (Keep.trans (Keep.ext (Keep.trans (Keep.refl h487_ [a471]) K507 (allS (Or.inl (mG (i := 0) rfl)) all0)) E548) K559 all0) K570 all0) K583 (allS (Or.inr (Nat.le_trans K655.1 (Nat.le_of_eq ga547.symm))) all0))
                have F657 := (Exa.keep F496.1 K656)
                refine G.callV H649 (m10_equals V a471 a479 a491 h579_ H649.old F635 F636 F654 F657) (wd60 V) (wd61 V) (nf_sel (wd63 V)) (wd63 V) (wd62 V) (wd2 V) (wd64 V) (by decide) F635 (argsL := [(.ref a471)]) (rest := []) (W := 0) rfl rfl (lenOf (pd_5) rfl) rfl rfl at_146 (pc' := 149) rfl (by decide) (by decide) (by decide) (by decide) all0 ?_
                intro T658 h658_ v659 s660 H658 Q661
                obtain ⟨rfl, rfl, rfl⟩ := Q661
                show Go p e below _ (T658.setTop (mkF m 149 #[.val (.int x0), .val (.int x1), .val (.int x2), .val (.int x3), .val (.int x4), .val (.int x2), .val (.int x1), .val (.int ((XT.ushr x4 2) &&& 3)), .val (.ref a471), .val (.ref a547), .val (.int 0)] [(.int 1)]))
                refine G.ifNo H658 at_149 (pc' := 152) rfl (by decide) ?_
                refine G.iconst H658 at_152 (pc' := 153) rfl (v := 1) rfl ?_
                refine G.goto H658 at_153 (by decide) (pc' := 157) rfl ?_
                exact G.retN H658 (t := .boolean) rfl (by decide) at_157 (so := []) all0 (by decide) (by decide) rfl
            ·
              show Go p e below _ (T551.setTop (mkF m 95 #[.val (.int x0), .val (.int x1), .val (.int x2), .val (.int x3), .val (.int x4), .val (.int x2), .val (.int x1), .val (.int ((XT.ushr x4 2) &&& 3)), .val (.ref a471), .unset, .unset] [.null, (.ref a547), (.ref a547)]))
              refine G.iload H551 at_95 (pc' := 97) rfl rfl ?_
              refine G.callS H551 (m4_str V x1 h546_ H551.old) (wd10 V) (wd11 V) (wd5 V) (wd12 V) (by decide) (argsL := [(.int x1)]) (rest := [.null, (.ref a547), (.ref a547)]) (W := 3) rfl rfl (lenOf (pd_3) rfl) rfl rfl at_97 (pc' := 100) rfl (by decide) (by decide) (by decide) (by decide) all0 ?_
              intro T662 h662_ v663 s664 H662 Q665
              obtain ⟨a666, a667, k668, rfl, rfl, K669, g670, F671⟩ := Q665
              have na666 : n0 ≤ a666 := Nat.le_trans H551.le g670
              show Go p e below _ (T662.setTop (mkF m 100 #[.val (.int x0), .val (.int x1), .val (.int x2), .val (.int x3), .val (.int x4), .val (.int x2), .val (.int x1), .val (.int ((XT.ushr x4 2) &&& 3)), .val (.ref a471), .unset, .unset] [(.ref a666), .null, (.ref a547), (.ref a547)]))
              have F672 := (Exa.keep A549 K669)
              have F673 : Fld Z h546_ a547 "com/example/schema_to_form/schematoform/record/ValuePath" "slot" "Ljava/lang/String;" .null := D550 (Or.inr (wd51 V)) (ty := (.object "java/lang/String")) (by decide)
              have F674 := (Fld.keep F673 K669 nin0)
              have F675 : Fld Z h546_ a547 "com/example/schema_to_form/schematoform/record/ValuePath" "name" "Ljava/lang/String;" .null := D550 (Or.inr (wd53 V)) (ty := (.object "java/lang/String")) (by decide)
              have F676 := (Fld.keep F675 K669 nin0)
              refine G.callI H662 (m20_init V a547 a666 h662_ H662.old F672 F674 na547 F676) rfl (wd46 V) (wd47 V) (wd2 V) (wd48 V) (by decide) (a := a547) (argsL := [.null, (.ref a666)]) (rest := [(.ref a547)]) (W := 1) rfl rfl (lenOf (pd_4) rfl) rfl rfl at_100 (pc' := 103) rfl (by decide) (by decide) (by decide) (by decide) all0 ?_
              intro T677 h677_ v678 s679 H677 Q680
              obtain ⟨rfl, rfl, K681, U682, F683, F684, F685⟩ := Q680
              show Go p e below _ (T677.setTop (mkF m 103 #[.val (.int x0), .val (.int x1), .val (.int x2), .val (.int x3), .val (.int x4), .val (.int x2), .val (.int x1), .val (.int ((XT.ushr x4 2) &&& 3)), .val (.ref a471), .unset, .unset] [(.ref a547)]))
              refine G.astore H677 (L' := #[.val (.int x0), .val (.int x1), .val (.int x2), .val (.int x3), .val (.int x4), .val (.int x2), .val (.int x1), .val (.int ((XT.ushr x4 2) &&& 3)), .val (.ref a471), .val (.ref a547), .unset]) at_103 (pc' := 105) rfl rfl rfl ?_
              refine G.iloadN H677 at_105 (pc' := 106) rfl rfl ?_
              refine G.iload H677 at_106 (pc' := 108) rfl rfl ?_
              refine G.callS H677 (m22_sameSlot V x0 x2 h677_ H677.old c482 c562) (wd54 V) (wd55 V) (wd5 V) (wd56 V) (by decide) (argsL := [(.int x0), (.int x2)]) (rest := []) (W := 0) rfl rfl (lenOf (pd_7) rfl) rfl rfl at_108 (pc' := 111) rfl (by decide) (by decide) (by decide) (by decide) all0 ?_
              intro T686 h686_ v687 s688 H686 Q689
              obtain ⟨rfl, rfl, rfl⟩ := Q689
              show Go p e below _ (T686.setTop (mkF m 111 #[.val (.int x0), .val (.int x1), .val (.int x2), .val (.int x3), .val (.int x4), .val (.int x2), .val (.int x1), .val (.int ((XT.ushr x4 2) &&& 3)), .val (.ref a471), .val (.ref a547), .unset] [(.int 0)]))
              refine G.ifYes H686 at_111 (by decide) (by decide) (pc' := 127) rfl ?_
              refine G.iconst H686 at_127 (pc' := 128) rfl (v := 0) rfl ?_
              refine G.istore H686 (L' := #[.val (.int x0), .val (.int x1), .val (.int x2), .val (.int x3), .val (.int x4), .val (.int x2), .val (.int x1), .val (.int ((XT.ushr x4 2) &&& 3)), .val (.ref a471), .val (.ref a547), .val (.int 0)]) at_128 (pc' := 130) rfl rfl ?_
              refine G.aload H686 at_130 (pc' := 132) rfl rfl rfl ?_
              refine G.aload H686 at_132 (pc' := 134) rfl rfl rfl ?_
              have K690 : Keep h503_ h677_ [] := (Keep.trans (Keep.trans (Keep.ext (Keep.refl h503_ []) E548) K669 all0) K681 (allS (Or.inr (Nat.le_of_eq ga547.symm)) all0))
              have F691 := (Exa.keep F509 K690)
              have F692 := (Fld.keep F510 K690 nin0)
              have K693 : Keep h475_ h503_ [a471] := (Keep.trans (Keep.trans (Keep.refl h475_ [a471]) K494 all0) K507 (allS (Or.inl (mG (i := 0) rfl)) all0))
              have K694 : Keep h475_ h677_ [a471] := (Keep.trans (Keep.trans (Keep.ext (Keep.trans (Keep.trans (Keep.refl h475_ [a471]) K494 all0) K507 (allS (Or.inl (mG (i := 0) rfl)) all0)) E548) K669 all0) K681 (allS (Or.inr (Nat.le_trans K693.1 (Nat.le_of_eq ga547.symm))) all0))
              have F695 := (Exa.keep F485.1 K694)
              refine G.callV H686 (m25_equals V a471 a547 a479 h677_ H686.old F683 F692 F684 F695) (wd60 V) (wd61 V) (nf_sel (wd63 V)) (wd63 V) (wd62 V) (wd2 V) (wd64 V) (by decide) F691 (argsL := [(.ref a547)]) (rest := []) (W := 0) rfl rfl (lenOf (pd_5) rfl) rfl rfl at_134 (pc' := 137) rfl (by decide) (by decide) (by decide) (by decide) all0 ?_
              intro T696 h696_ v697 s698 H696 Q699
              obtain ⟨rfl, rfl, rfl⟩ := Q699
              show Go p e below _ (T696.setTop (mkF m 137 #[.val (.int x0), .val (.int x1), .val (.int x2), .val (.int x3), .val (.int x4), .val (.int x2), .val (.int x1), .val (.int ((XT.ushr x4 2) &&& 3)), .val (.ref a471), .val (.ref a547), .val (.int 0)] [(.int 0)]))
              refine G.iload H696 at_137 (pc' := 139) rfl rfl ?_
              refine G.icmpNo H696 at_139 (pc' := 142) rfl (by decide) ?_
              refine G.aload H696 at_142 (pc' := 144) rfl rfl rfl ?_
              refine G.aload H696 at_144 (pc' := 146) rfl rfl rfl ?_
              have F700 := (Fld.keep F511 K690 nin0)
              have K701 : Keep h487_ h503_ [a471] := (Keep.trans (Keep.refl h487_ [a471]) K507 (allS (Or.inl (mG (i := 0) rfl)) all0))
              have K702 : Keep h487_ h677_ [a471] := (Keep.trans (Keep.trans (Keep.ext (Keep.trans (Keep.refl h487_ [a471]) K507 (allS (Or.inl (mG (i := 0) rfl)) all0)) E548) K669 all0) K681 (allS (Or.inr (Nat.le_trans K701.1 (Nat.le_of_eq ga547.symm))) all0))
              have F703 := (Exa.keep F496.1 K702)
              refine G.callV H696 (m10_equals V a471 a479 a491 h677_ H696.old F691 F692 F700 F703) (wd60 V) (wd61 V) (nf_sel (wd63 V)) (wd63 V) (wd62 V) (wd2 V) (wd64 V) (by decide) F691 (argsL := [(.ref a471)]) (rest := []) (W := 0) rfl rfl (lenOf (pd_5) rfl) rfl rfl at_146 (pc' := 149) rfl (by decide) (by decide) (by decide) (by decide) all0 ?_
              intro T704 h704_ v705 s706 H704 Q707
              obtain ⟨rfl, rfl, rfl⟩ := Q707
              show Go p e below _ (T704.setTop (mkF m 149 #[.val (.int x0), .val (.int x1), .val (.int x2), .val (.int x3), .val (.int x4), .val (.int x2), .val (.int x1), .val (.int ((XT.ushr x4 2) &&& 3)), .val (.ref a471), .val (.ref a547), .val (.int 0)] [(.int 1)]))
              refine G.ifNo H704 at_149 (pc' := 152) rfl (by decide) ?_
              refine G.iconst H704 at_152 (pc' := 153) rfl (v := 1) rfl ?_
              refine G.goto H704 at_153 (by decide) (pc' := 157) rfl ?_
              exact G.retN H704 (t := .boolean) rfl (by decide) at_157 (so := []) all0 (by decide) (by decide) rfl
      ·
        show Go p e below _ (T475.setTop (mkF m 44 #[.val (.int x0), .val (.int x1), .val (.int x2), .val (.int x3), .val (.int x4), .val (.int x2), .val (.int x1), .val (.int ((XT.ushr x4 2) &&& 3)), .unset, .unset, .unset] [.null, (.ref a471), (.ref a471)]))
        refine G.iloadN H475 at_44 (pc' := 45) rfl rfl ?_
        refine G.callS H475 (m4_str V x1 h470_ H475.old) (wd10 V) (wd11 V) (wd5 V) (wd12 V) (by decide) (argsL := [(.int x1)]) (rest := [.null, (.ref a471), (.ref a471)]) (W := 3) rfl rfl (lenOf (pd_3) rfl) rfl rfl at_45 (pc' := 48) rfl (by decide) (by decide) (by decide) (by decide) all0 ?_
        intro T708 h708_ v709 s710 H708 Q711
        obtain ⟨a712, a713, k714, rfl, rfl, K715, g716, F717⟩ := Q711
        have na712 : n0 ≤ a712 := Nat.le_trans H475.le g716
        show Go p e below _ (T708.setTop (mkF m 48 #[.val (.int x0), .val (.int x1), .val (.int x2), .val (.int x3), .val (.int x4), .val (.int x2), .val (.int x1), .val (.int ((XT.ushr x4 2) &&& 3)), .unset, .unset, .unset] [(.ref a712), .null, (.ref a471), (.ref a471)]))
        have F718 := (Exa.keep A473 K715)
        have F719 : Fld Z h470_ a471 "com/example/schema_to_form/schematoform/record/ValuePath" "slot" "Ljava/lang/String;" .null := D474 (Or.inr (wd51 V)) (ty := (.object "java/lang/String")) (by decide)
        have F720 := (Fld.keep F719 K715 nin0)
        have F721 : Fld Z h470_ a471 "com/example/schema_to_form/schematoform/record/ValuePath" "name" "Ljava/lang/String;" .null := D474 (Or.inr (wd53 V)) (ty := (.object "java/lang/String")) (by decide)
        have F722 := (Fld.keep F721 K715 nin0)
        refine G.callI H708 (m20_init V a471 a712 h708_ H708.old F718 F720 na471 F722) rfl (wd46 V) (wd47 V) (wd2 V) (wd48 V) (by decide) (a := a471) (argsL := [.null, (.ref a712)]) (rest := [(.ref a471)]) (W := 1) rfl rfl (lenOf (pd_4) rfl) rfl rfl at_48 (pc' := 51) rfl (by decide) (by decide) (by decide) (by decide) all0 ?_
        intro T723 h723_ v724 s725 H723 Q726
        obtain ⟨rfl, rfl, K727, U728, F729, F730, F731⟩ := Q726
        show Go p e below _ (T723.setTop (mkF m 51 #[.val (.int x0), .val (.int x1), .val (.int x2), .val (.int x3), .val (.int x4), .val (.int x2), .val (.int x1), .val (.int ((XT.ushr x4 2) &&& 3)), .unset, .unset, .unset] [(.ref a471)]))
        refine G.astore H723 (L' := #[.val (.int x0), .val (.int x1), .val (.int x2), .val (.int x3), .val (.int x4), .val (.int x2), .val (.int x1), .val (.int ((XT.ushr x4 2) &&& 3)), .val (.ref a471), .unset, .unset]) at_51 (pc' := 53) rfl rfl rfl ?_
        refine G.iload H723 at_53 (pc' := 55) rfl rfl ?_
        refine G.iconst H723 at_55 (pc' := 56) rfl (v := 2) rfl ?_
        by_cases c732 : ((XT.ushr x4 2) &&& 3) = 2
        ·
          refine G.icmpNo H723 at_56 (pc' := 59) rfl (XT.ii_ne_f c732) ?_
          refine G.aconstNull H723 at_59 (pc' := 60) rfl ?_
          refine G.astore H723 (L' := #[.val (.int x0), .val (.int x1), .val (.int x2), .val (.int x3), .val (.int x4), .val (.int x2), .val (.int x1), .val (.int ((XT.ushr x4 2) &&& 3)), .val (.ref a471), .val .null, .unset]) at_60 (pc' := 62) rfl rfl rfl ?_
          refine G.iconst H723 at_62 (pc' := 63) rfl (v := 0) rfl ?_
          refine G.istore H723 (L' := #[.val (.int x0), .val (.int x1), .val (.int x2), .val (.int x3), .val (.int x4), .val (.int x2), .val (.int x1), .val (.int ((XT.ushr x4 2) &&& 3)), .val (.ref a471), .val .null, .val (.int 0)]) at_63 (pc' := 65) rfl rfl ?_
          refine G.goto H723 at_65 (by decide) (pc' := 130) rfl ?_
          refine G.aload H723 at_130 (pc' := 132) rfl rfl rfl ?_
          refine G.aload H723 at_132 (pc' := 134) rfl rfl rfl ?_
          refine G.callV H723 (m7_equals V a471 h723_ H723.old) (wd60 V) (wd61 V) (nf_sel (wd63 V)) (wd63 V) (wd62 V) (wd2 V) (wd64 V) (by decide) F729 (argsL := [.null]) (rest := []) (W := 0) rfl rfl (lenOf (pd_5) rfl) rfl rfl at_134 (pc' := 137) rfl (by decide) (by decide) (by decide) (by decide) all0 ?_
          intro T733 h733_ v734 s735 H733 Q736
          obtain ⟨rfl, rfl, rfl⟩ := Q736
          show Go p e below _ (T733.setTop (mkF m 137 #[.val (.int x0), .val (.int x1), .val (.int x2), .val (.int x3), .val (.int x4), .val (.int x2), .val (.int x1), .val (.int ((XT.ushr x4 2) &&& 3)), .val (.ref a471), .val .null, .val (.int 0)] [(.int 0)]))
          refine G.iload H733 at_137 (pc' := 139) rfl rfl ?_
          refine G.icmpNo H733 at_139 (pc' := 142) rfl (by decide) ?_
          refine G.aload H733 at_142 (pc' := 144) rfl rfl rfl ?_
          refine G.aload H733 at_144 (pc' := 146) rfl rfl rfl ?_
          have F737 := (Exa.keep F717.1 K727)
          refine G.callV H733 (m27_equals V a471 a712 h723_ H733.old F729 F730 F731 F737) (wd60 V) (wd61 V) (nf_sel (wd63 V)) (wd63 V) (wd62 V) (wd2 V) (wd64 V) (by decide) F729 (argsL := [(.ref a471)]) (rest := []) (W := 0) rfl rfl (lenOf (pd_5) rfl) rfl rfl at_146 (pc' := 149) rfl (by decide) (by decide) (by decide) (by decide) all0 ?_
          intro T738 h738_ v739 s740 H738 Q741
          obtain ⟨rfl, rfl, rfl⟩ := Q741
          show Go p e below _ (T738.setTop (mkF m 149 #[.val (.int x0), .val (.int x1), .val (.int x2), .val (.int x3), .val (.int x4), .val (.int x2), .val (.int x1), .val (.int ((XT.ushr x4 2) &&& 3)), .val (.ref a471), .val .null, .val (.int 0)] [(.int 1)]))
          refine G.ifNo H738 at_149 (pc' := 152) rfl (by decide) ?_
          refine G.iconst H738 at_152 (pc' := 153) rfl (v := 1) rfl ?_
          refine G.goto H738 at_153 (by decide) (pc' := 157) rfl ?_
          exact G.retN H738 (t := .boolean) rfl (by decide) at_157 (so := []) all0 (by decide) (by decide) rfl
        ·
          refine G.icmpYes H723 at_56 (XT.ii_ne_t c732) (by decide) (pc' := 68) rfl ?_
          refine G.iload H723 at_68 (pc' := 70) rfl rfl ?_
          refine G.iconst H723 at_70 (pc' := 71) rfl (v := 3) rfl ?_
          by_cases c742 : ((XT.ushr x4 2) &&& 3) = 3
          ·
            refine G.icmpNo H723 at_71 (pc' := 74) rfl (XT.ii_ne_f c742) ?_
            refine G.iloadN H723 at_74 (pc' := 75) rfl rfl ?_
            refine G.callS H723 (m4_str V x1 h723_ H723.old) (wd10 V) (wd11 V) (wd5 V) (wd12 V) (by decide) (argsL := [(.int x1)]) (rest := []) (W := 0) rfl rfl (lenOf (pd_3) rfl) rfl rfl at_75 (pc' := 78) rfl (by decide) (by decide) (by decide) (by decide) all0 ?_
            intro T743 h743_ v744 s745 H743 Q746
            obtain ⟨a747, a748, k749, rfl, rfl, K750, g751, F752⟩ := Q746
            have na747 : n0 ≤ a747 := Nat.le_trans H723.le g751
            show Go p e below _ (T743.setTop (mkF m 78 #[.val (.int x0), .val (.int x1), .val (.int x2), .val (.int x3), .val (.int x4), .val (.int x2), .val (.int x1), .val (.int ((XT.ushr x4 2) &&& 3)), .val (.ref a471), .unset, .unset] [(.ref a747)]))
            refine G.astore H743 (L' := #[.val (.int x0), .val (.int x1), .val (.int x2), .val (.int x3), .val (.int x4), .val (.int x2), .val (.int x1), .val (.int ((XT.ushr x4 2) &&& 3)), .val (.ref a471), .val (.ref a747), .unset]) at_78 (pc' := 80) rfl rfl rfl ?_
            refine G.iconst H743 at_80 (pc' := 81) rfl (v := 0) rfl ?_
            refine G.istore H743 (L' := #[.val (.int x0), .val (.int x1), .val (.int x2), .val (.int x3), .val (.int x4), .val (.int x2), .val (.int x1), .val (.int ((XT.ushr x4 2) &&& 3)), .val (.ref a471), .val (.ref a747), .val (.int 0)]) at_81 (pc' := 83) rfl rfl ?_
            refine G.goto H743 at_83 (by decide) (pc' := 130) rfl ?_
            refine G.aload H743 at_130 (pc' := 132) rfl rfl rfl ?_
            refine G.aload H743 at_132 (pc' := 134) rfl rfl rfl ?_
            have F753 := (Exa.keep F729 K750)
            refine G.callV H743 (m11_equals V a471 a747 h743_ H743.old F752.1) (wd60 V) (wd61 V) (nf_sel (wd63 V)) (wd63 V) (wd62 V) (wd2 V) (wd64 V) (by decide) F753 (argsL := [(.ref a747)]) (rest := []) (W := 0) rfl rfl (lenOf (pd_5) rfl) rfl rfl at_134 (pc' := 137) rfl (by decide) (by decide) (by decide) (by decide) all0 ?_
            intro T754 h754_ v755 s756 H754 Q757
            obtain ⟨rfl, rfl, rfl⟩ := Q757
            show Go p e below _ (T754.setTop (mkF m 137 #[.val (.int x0), .val (.int x1), .val (.int x2), .val (.int x3), .val (.int x4), .val (.int x2), .val (.int x1), .val (.int ((XT.ushr x4 2) &&& 3)), .val (.ref a471), .val (.ref a747), .val (.int 0)] [(.int 0)]))
            refine G.iload H754 at_137 (pc' := 139) rfl rfl ?_
            refine G.icmpNo H754 at_139 (pc' := 142) rfl (by decide) ?_
            refine G.aload H754 at_142 (pc' := 144) rfl rfl rfl ?_
            refine G.aload H754 at_144 (pc' := 146) rfl rfl rfl ?_
            have F758 := (Fld.keep F730 K750 nin0)
            have F759 := (Fld.keep F731 K750 nin0)
            have K760 : Keep h708_ h743_ [a471] := (Keep.trans (Keep.trans (Keep.refl h708_ [a471]) K727 (allS (Or.inl (mG (i := 0) rfl)) all0)) K750 all0)
            have F761 := (Exa.keep F717.1 K760)
            refine G.callV H754 (m27_equals V a471 a712 h743_ H754.old F753 F758 F759 F761) (wd60 V) (wd61 V) (nf_sel (wd63 V)) (wd63 V) (wd62 V) (wd2 V) (wd64 V) (by decide) F753 (argsL := [(.ref a471)]) (rest := []) (W := 0) rfl rfl (lenOf (pd_5) rfl) rfl rfl at_146 (pc' := 149) rfl (by decide) (by decide) (by decide) (by decide) all0 ?_
            intro T762 h762_ v763 s764 H762 Q765
            obtain ⟨rfl, rfl, rfl⟩ := Q765
            show Go p e below _ (T762.setTop (mkF m 149 #[.val (.int x0), .val (.int x1), .val (.int x2), .val (.int x3), .val (.int x4), .val (.int x2), .val (.int x1), .val (.int ((XT.ushr x4 2) &&& 3)), .val (.ref a471), .val (.ref a747), .val (.int 0)] [(.int 1)]))
            refine G.ifNo H762 at_149 (pc' := 152) rfl (by decide) ?_
            refine G.iconst H762 at_152 (pc' := 153) rfl (v := 1) rfl ?_
            refine G.goto H762 at_153 (by decide) (pc' := 157) rfl ?_
            exact G.retN H762 (t := .boolean) rfl (by decide) at_157 (so := []) all0 (by decide) (by decide) rfl
          ·
            refine G.icmpYes H723 at_71 (XT.ii_ne_t c742) (by decide) (pc' := 86) rfl ?_
            refine G.new H723 (wd0 V) (wd1 V) (wd2 V) at_86 (pc' := 89) rfl (by decide) (by decide) ?_
            intro T766 h766_ a767 ga767 H766 E768 A769 D770
            have na767 := H723.nle ga767
            refine G.dup H766 at_89 (pc' := 90) rfl rfl ?_
            refine G.iload H766 at_90 (pc' := 92) rfl rfl ?_
            refine G.callS H766 (m5_slot V x2 h766_ H766.old) (wd3 V) (wd4 V) (wd5 V) (wd6 V) (by decide) (argsL := [(.int x2)]) (rest := [(.ref a767), (.ref a767)]) (W := 2) rfl rfl (lenOf (pd_3) rfl) rfl rfl at_92 (pc' := 95) rfl (by decide) (by decide) (by decide) (by decide) all0 ?_
            intro T771 h771_ v772 s773 H771 Q774
            rcases Q774 with ⟨a775, a776, k777, c778, rfl, rfl, K779, g780, F781⟩ | ⟨c782, rfl, rfl, rfl⟩
            ·
              have na775 : n0 ≤ a775 := Nat.le_trans H766.le g780
              show Go p e below _ (T771.setTop (mkF m 95 #[.val (.int x0), .val (.int x1), .val (.int x2), .val (.int x3), .val (.int x4), .val (.int x2), .val (.int x1), .val (.int ((XT.ushr x4 2) &&& 3)), .val (.ref a471), .unset, .unset] [(.ref a775), (.ref a767), (.ref a767)]))
              refine G.iload H771 at_95 (pc' := 97) rfl rfl ?_
              refine G.callS H771 (m4_str V x1 h771_ H771.old) (wd10 V) (wd11 V) (wd5 V) (wd12 V) (by decide) (argsL := [(.int x1)]) (rest := [(.ref a775), (.ref a767), (.ref a767)]) (W := 3) rfl rfl (lenOf (pd_3) rfl) rfl rfl at_97 (pc' := 100) rfl (by decide) (by decide) (by decide) (by decide) all0 ?_
              intro T783 h783_ v784 s785 H783 Q786
              obtain ⟨a787, a788, k789, rfl, rfl, K790, g791, F792⟩ := Q786
              have na787 : n0 ≤ a787 := Nat.le_trans H771.le g791
              show Go p e below _ (T783.setTop (mkF m 100 #[.val (.int x0), .val (.int x1), .val (.int x2), .val (.int x3), .val (.int x4), .val (.int x2), .val (.int x1), .val (.int ((XT.ushr x4 2) &&& 3)), .val (.ref a471), .unset, .unset] [(.ref a787), (.ref a775), (.ref a767), (.ref a767)]))
              have K793 : Keep h766_ h783_ [] := (Keep.trans (Keep.trans (Keep.refl h766_ []) K779 all0) K790 all0)
              have F794 := (Exa.keep A769 K793)
              have F795 : Fld Z h766_ a767 "com/example/schema_to_form/schematoform/record/ValuePath" "slot" "Ljava/lang/String;" .null := D770 (Or.inr (wd51 V)) (ty := (.object "java/lang/String")) (by decide)
              have F796 := (Fld.keep F795 K793 nin0)
              have F797 : Fld Z h766_ a767 "com/example/schema_to_form/schematoform/record/ValuePath" "name" "Ljava/lang/String;" .null := D770 (Or.inr (wd53 V)) (ty := (.object "java/lang/String")) (by decide)
              have F798 := (Fld.keep F797 K793 nin0)
              refine G.callI H783 (m6_init V a767 a775 a787 h783_ H783.old F794 F796 na767 F798) rfl (wd46 V) (wd47 V) (wd2 V) (wd48 V) (by decide) (a := a767) (argsL := [(.ref a775), (.ref a787)]) (rest := [(.ref a767)]) (W := 1) rfl rfl (lenOf (pd_4) rfl) rfl rfl at_100 (pc' := 103) rfl (by decide) (by decide) (by decide) (by decide) all0 ?_
              intro T799 h799_ v800 s801 H799 Q802
              obtain ⟨rfl, rfl, K803, U804, F805, F806, F807⟩ := Q802
              show Go p e below _ (T799.setTop (mkF m 103 #[.val (.int x0), .val (.int x1), .val (.int x2), .val (.int x3), .val (.int x4), .val (.int x2), .val (.int x1), .val (.int ((XT.ushr x4 2) &&& 3)), .val (.ref a471), .unset, .unset] [(.ref a767)]))
              refine G.astore H799 (L' := #[.val (.int x0), .val (.int x1), .val (.int x2), .val (.int x3), .val (.int x4), .val (.int x2), .val (.int x1), .val (.int ((XT.ushr x4 2) &&& 3)), .val (.ref a471), .val (.ref a767), .unset]) at_103 (pc' := 105) rfl rfl rfl ?_
              refine G.iloadN H799 at_105 (pc' := 106) rfl rfl ?_
              refine G.iload H799 at_106 (pc' := 108) rfl rfl ?_
              refine G.callS H799 (m28_sameSlot V x0 x2 h799_ H799.old c486 c778) (wd54 V) (wd55 V) (wd5 V) (wd56 V) (by decide) (argsL := [(.int x0), (.int x2)]) (rest := []) (W := 0) rfl rfl (lenOf (pd_7) rfl) rfl rfl at_108 (pc' := 111) rfl (by decide) (by decide) (by decide) (by decide) all0 ?_
              intro T808 h808_ v809 s810 H808 Q811
              obtain ⟨rfl, rfl, rfl⟩ := Q811
              show Go p e below _ (T808.setTop (mkF m 111 #[.val (.int x0), .val (.int x1), .val (.int x2), .val (.int x3), .val (.int x4), .val (.int x2), .val (.int x1), .val (.int ((XT.ushr x4 2) &&& 3)), .val (.ref a471), .val (.ref a767), .unset] [(.int 0)]))
              refine G.ifYes H808 at_111 (by decide) (by decide) (pc' := 127) rfl ?_
              refine G.iconst H808 at_127 (pc' := 128) rfl (v := 0) rfl ?_
              refine G.istore H808 (L' := #[.val (.int x0), .val (.int x1), .val (.int x2), .val (.int x3), .val (.int x4), .val (.int x2), .val (.int x1), .val (.int ((XT.ushr x4 2) &&& 3)), .val (.ref a471), .val (.ref a767), .val (.int 0)]) at_128 (pc' := 130) rfl rfl ?_
              refine G.aload H808 at_130 (pc' := 132) rfl rfl rfl ?_
              refine G.aload H808 at_132 (pc' := 134) rfl rfl rfl ?_
              have K812 : Keep h723_ h799_ [] := (Keep.trans (Keep.trans (Keep.trans (Keep.ext (Keep.refl h723_ []) E768) K779 all0) K790 all0) K803 (allS (Or.inr (Nat.le_of_eq ga767.symm)) all0))
              have F813 := (Exa.keep F729 K812)
              have F814 := (Fld.keep F730 K812 nin0)
              refine G.callV H808 (m30_equals V a471 a767 a775 h799_ H808.old F805 F814 F806) (wd60 V) (wd61 V) (nf_sel (wd63 V)) (wd63 V) (wd62 V) (wd2 V) (wd64 V) (by decide) F813 (argsL := [(.ref a767)]) (rest := []) (W := 0) rfl rfl (lenOf (pd_5) rfl) rfl rfl at_134 (pc' := 137) rfl (by decide) (by decide) (by decide) (by decide) all0 ?_
              intro T815 h815_ v816 s817 H815 Q818
              obtain ⟨rfl, rfl, rfl⟩ := Q818
              show Go p e below _ (T815.setTop (mkF m 137 #[.val (.int x0), .val (.int x1), .val (.int x2), .val (.int x3), .val (.int x4), .val (.int x2), .val (.int x1), .val (.int ((XT.ushr x4 2) &&& 3)), .val (.ref a471), .val (.ref a767), .val (.int 0)] [(.int 0)]))
              refine G.iload H815 at_137 (pc' := 139) rfl rfl ?_
              refine G.icmpNo H815 at_139 (pc' := 142) rfl (by decide) ?_
              refine G.aload H815 at_142 (pc' := 144) rfl rfl rfl ?_
              refine G.aload H815 at_144 (pc' := 146) rfl rfl rfl ?_
              have F819 := (Fld.keep F731 K812 nin0)
              have K820 : Keep h708_ h723_ [a471] := (Keep.trans (Keep.refl h708_ [a471]) K727 (allS (Or.inl (mG (i := 0) rfl)) all0))
              have K821 : Keep h708_ h799_ [a471] := (Keep.trans (Keep.trans (Keep.trans (Keep.ext (Keep.trans (Keep.refl h708_ [a471]) K727 (allS (Or.inl (mG (i := 0) rfl)) all0)) E768) K779 all0) K790 all0) K803 (allS (Or.inr (Nat.le_trans K820.1 (Nat.le_of_eq ga767.symm))) all0))
              have F822 := (Exa.keep F717.1 K821)
              refine G.callV H815 (m27_equals V a471 a712 h799_ H815.old F813 F814 F819 F822) (wd60 V) (wd61 V) (nf_sel (wd63 V)) (wd63 V) (wd62 V) (wd2 V) (wd64 V) (by decide) F813 (argsL := [(.ref a471)]) (rest := []) (W := 0) rfl rfl (lenOf (pd_5) rfl) rfl rfl at_146 (pc' := 149) rfl (by decide) (by decide) (by decide) (by decide) all0 ?_
              intro T823 h823_ v824 s825 H823 Q826
              obtain ⟨rfl, rfl, rfl⟩ := Q826
              show Go p e below _ (T823.setTop (mkF m 149 #[.val (.int x0), .val (.int x1), .val (.int x2), .val (.int x3), .val (.int x4), .val (.int x2), .val (.int x1), .val (.int ((XT.ushr x4 2) &&& 3)), .val (.ref a471), .val (.ref a767), .val (.int 0)] [(.int 1)]))
              refine G.ifNo H823 at_149 (pc' := 152) rfl (by decide) ?_
              refine G.iconst H823 at_152 (pc' := 153) rfl (v := 1) rfl ?_
              refine G.goto H823 at_153 (by decide) (pc' := 157) rfl ?_
              exact G.retN H823 (t := .boolean) rfl (by decide) at_157 (so := []) all0 (by decide) (by decide) rfl
            ·
              show Go p e below _ (T771.setTop (mkF m 95 #[.val (.int x0), .val (.int x1), .val (.int x2), .val (.int x3), .val (.int x4), .val (.int x2), .val (.int x1), .val (.int ((XT.ushr x4 2) &&& 3)), .val (.ref a471), .unset, .unset] [.null, (.ref a767), (.ref a767)]))
              refine G.iload H771 at_95 (pc' := 97) rfl rfl ?_
              refine G.callS H771 (m4_str V x1 h766_ H771.old) (wd10 V) (wd11 V) (wd5 V) (wd12 V) (by decide) (argsL := [(.int x1)]) (rest := [.null, (.ref a767), (.ref a767)]) (W := 3) rfl rfl (lenOf (pd_3) rfl) rfl rfl at_97 (pc' := 100) rfl (by decide) (by decide) (by decide) (by decide) all0 ?_
              intro T827 h827_ v828 s829 H827 Q830
              obtain ⟨a831, a832, k833, rfl, rfl, K834, g835, F836⟩ := Q830
              have na831 : n0 ≤ a831 := Nat.le_trans H771.le g835
              show Go p e below _ (T827.setTop (mkF m 100 #[.val (.int x0), .val (.int x1), .val (.int x2), .val (.int x3), .val (.int x4), .val (.int x2), .val (.int x1), .val (.int ((XT.ushr x4 2) &&& 3)), .val (.ref a471), .unset, .unset] [(.ref a831), .null, (.ref a767), (.ref a767)]))
              have F837 := (Exa.keep A769 K834)
              have F838 : Fld Z h766_ a767 "com/example/schema_to_form/schematoform/record/ValuePath" "slot" "Ljava/lang/String;" .null := D770 (Or.inr (wd51 V)) (ty := (.object "java/lang/String")) (by decide)
              have F839 := (Fld.keep F838 K834 nin0)
              have F840 : Fld Z h766_ a767 "com/example/schema_to_form/schematoform/record/ValuePath" "name" "Ljava/lang/String;" .null := D770 (Or.inr (wd53 V)) (ty := (.object "java/lang/String")) (by decide)
              have F841 := (Fld.keep F840 K834 nin0)
              refine G.callI H827 (m20_init V a767 a831 h827_ H827.old F837 F839 na767 F841) rfl (wd46 V) (wd47 V) (wd2 V) (wd48 V) (by decide) (a := a767) (argsL := [.null, (.ref a831)]) (rest := [(.ref a767)]) (W := 1) rfl rfl (lenOf (pd_4) rfl) rfl rfl at_100 (pc' := 103) rfl (by decide) (by decide) (by decide) (by decide) all0 ?_
              intro T842 h842_ v843 s844 H842 Q845
              obtain ⟨rfl, rfl, K846, U847, F848, F849, F850⟩ := Q845
              show Go p e below _ (T842.setTop (mkF m 103 #[.val (.int x0), .val (.int x1), .val (.int x2), .val (.int x3), .val (.int x4), .val (.int x2), .val (.int x1), .val (.int ((XT.ushr x4 2) &&& 3)), .val (.ref a471), .unset, .unset] [(.ref a767)]))
              refine G.astore H842 (L' := #[.val (.int x0), .val (.int x1), .val (.int x2), .val (.int x3), .val (.int x4), .val (.int x2), .val (.int x1), .val (.int ((XT.ushr x4 2) &&& 3)), .val (.ref a471), .val (.ref a767), .unset]) at_103 (pc' := 105) rfl rfl rfl ?_
              refine G.iloadN H842 at_105 (pc' := 106) rfl rfl ?_
              refine G.iload H842 at_106 (pc' := 108) rfl rfl ?_
              refine G.callS H842 (m31_sameSlot V x0 x2 h842_ H842.old c486 c782) (wd54 V) (wd55 V) (wd5 V) (wd56 V) (by decide) (argsL := [(.int x0), (.int x2)]) (rest := []) (W := 0) rfl rfl (lenOf (pd_7) rfl) rfl rfl at_108 (pc' := 111) rfl (by decide) (by decide) (by decide) (by decide) all0 ?_
              intro T851 h851_ v852 s853 H851 Q854
              obtain ⟨rfl, rfl, rfl⟩ := Q854
              show Go p e below _ (T851.setTop (mkF m 111 #[.val (.int x0), .val (.int x1), .val (.int x2), .val (.int x3), .val (.int x4), .val (.int x2), .val (.int x1), .val (.int ((XT.ushr x4 2) &&& 3)), .val (.ref a471), .val (.ref a767), .unset] [(.int 1)]))
              refine G.ifNo H851 at_111 (pc' := 114) rfl (by decide) ?_
              refine G.iloadN H851 at_114 (pc' := 115) rfl rfl ?_
              refine G.iload H851 at_115 (pc' := 117) rfl rfl ?_
              refine G.callS H851 (m34_sameStr V x1 h842_ H851.old) (wd57 V) (wd58 V) (wd5 V) (wd59 V) (by decide) (argsL := [(.int x1), (.int x1)]) (rest := []) (W := 0) rfl rfl (lenOf (pd_7) rfl) rfl rfl at_117 (pc' := 120) rfl (by decide) (by decide) (by decide) (by decide) all0 ?_
              intro T855 h855_ v856 s857 H855 Q858
              obtain ⟨rfl, rfl, rfl⟩ := Q858
              show Go p e below _ (T855.setTop (mkF m 120 #[.val (.int x0), .val (.int x1), .val (.int x2), .val (.int x3), .val (.int x4), .val (.int x2), .val (.int x1), .val (.int ((XT.ushr x4 2) &&& 3)), .val (.ref a471), .val (.ref a767), .unset] [(.int 1)]))
              refine G.ifNo H855 at_120 (pc' := 123) rfl (by decide) ?_
              refine G.iconst H855 at_123 (pc' := 124) rfl (v := 1) rfl ?_
              refine G.goto H855 at_124 (by decide) (pc' := 128) rfl ?_
              refine G.istore H855 (L' := #[.val (.int x0), .val (.int x1), .val (.int x2), .val (.int x3), .val (.int x4), .val (.int x2), .val (.int x1), .val (.int ((XT.ushr x4 2) &&& 3)), .val (.ref a471), .val (.ref a767), .val (.int 1)]) at_128 (pc' := 130) rfl rfl ?_
              refine G.aload H855 at_130 (pc' := 132) rfl rfl rfl ?_
              refine G.aload H855 at_132 (pc' := 134) rfl rfl rfl ?_
              have K859 : Keep h723_ h842_ [] := (Keep.trans (Keep.trans (Keep.ext (Keep.refl h723_ []) E768) K834 all0) K846 (allS (Or.inr (Nat.le_of_eq ga767.symm)) all0))
              have F860 := (Exa.keep F729 K859)
              have F861 := (Fld.keep F730 K859 nin0)
              have F862 := (Fld.keep F731 K859 nin0)
              have K863 : Keep h708_ h723_ [a471] := (Keep.trans (Keep.refl h708_ [a471]) K727 (allS (Or.inl (mG (i := 0) rfl)) all0))
              have K864 : Keep h708_ h842_ [a471] := (Keep.trans (Keep.trans (Keep.ext (Keep.trans (Keep.refl h708_ [a471]) K727 (allS (Or.inl (mG (i := 0) rfl)) all0)) E768) K834 all0) K846 (allS (Or.inr (Nat.le_trans K863.1 (Nat.le_of_eq ga767.symm))) all0))
              have N865 : a712 ≠ a471 := Exa.ne F717.1 (Exa.keep A473 K715) (by decide)
              have N866 : a713 ≠ a471 := Ne.symm (Exa.neArv (Exa.keep A473 K715) F717.2.2.2.1 (wd1 V))
              have F867 := (Str.keep F717 K864 (ninS N865 nin0) (ninS N866 nin0))
              have N868 : a831 ≠ a767 := Exa.ne F836.1 (Exa.keep A769 K834) (by decide)
              have N869 : a832 ≠ a767 := Ne.symm (Exa.neArv (Exa.keep A769 K834) F836.2.2.2.1 (wd1 V))
              have F870 := (Str.keep F836 K846 (ninS N868 nin0) (ninS N869 nin0))
              refine G.callV H855 (m36_equals V a471 a767 a712 a831 a713 k714 (strOf x1) a832 k833 h842_ H855.old F848 F861 F849 F862 F850 F867 F870) (wd60 V) (wd61 V) (nf_sel (wd63 V)) (wd63 V) (wd62 V) (wd2 V) (wd64 V) (by decide) F860 (argsL := [(.ref a767)]) (rest := []) (W := 0) rfl rfl (lenOf (pd_5) rfl) rfl rfl at_134 (pc' := 137) rfl (by decide) (by decide) (by decide) (by decide) all0 ?_
              intro T871 h871_ v872 s873 H871 Q874
              rcases Q874 with ⟨c875, rfl, rfl, rfl⟩ | ⟨c876, rfl, rfl, rfl⟩
              ·
                show Go p e below _ (T871.setTop (mkF m 137 #[.val (.int x0), .val (.int x1), .val (.int x2), .val (.int x3), .val (.int x4), .val (.int x2), .val (.int x1), .val (.int ((XT.ushr x4 2) &&& 3)), .val (.ref a471), .val (.ref a767), .val (.int 1)] [(.int 1)]))
                refine G.iload H871 at_137 (pc' := 139) rfl rfl ?_
                refine G.icmpNo H871 at_139 (pc' := 142) rfl (by decide) ?_
                refine G.aload H871 at_142 (pc' := 144) rfl rfl rfl ?_
                refine G.aload H871 at_144 (pc' := 146) rfl rfl rfl ?_
                refine G.callV H871 (m27_equals V a471 a712 h842_ H871.old F860 F861 F862 F867.1) (wd60 V) (wd61 V) (nf_sel (wd63 V)) (wd63 V) (wd62 V) (wd2 V) (wd64 V) (by decide) F860 (argsL := [(.ref a471)]) (rest := []) (W := 0) rfl rfl (lenOf (pd_5) rfl) rfl rfl at_146 (pc' := 149) rfl (by decide) (by decide) (by decide) (by decide) all0 ?_
                intro T877 h877_ v878 s879 H877 Q880
                obtain ⟨rfl, rfl, rfl⟩ := Q880
                show Go p e below _ (T877.setTop (mkF m 149 #[.val (.int x0), .val (.int x1), .val (.int x2), .val (.int x3), .val (.int x4), .val (.int x2), .val (.int x1), .val (.int ((XT.ushr x4 2) &&& 3)), .val (.ref a471), .val (.ref a767), .val (.int 1)] [(.int 1)]))
                refine G.ifNo H877 at_149 (pc' := 152) rfl (by decide) ?_
                refine G.iconst H877 at_152 (pc' := 153) rfl (v := 1) rfl ?_
                refine G.goto H877 at_153 (by decide) (pc' := 157) rfl ?_
                exact G.retN H877 (t := .boolean) rfl (by decide) at_157 (so := []) all0 (by decide) (by decide) rfl
              ·
                exact absurd rfl c876
  ·
    refine G.ifNo H at_4 (pc' := 7) rfl (XT.i0_eq_f c1) ?_
    refine G.iloadN H at_7 (pc' := 8) rfl rfl ?_
    refine G.goto H at_8 (by decide) (pc' := 12) rfl ?_
    refine G.istore H (L' := #[.val (.int x0), .val (.int x1), .val (.int x2), .val (.int x3), .val (.int x4), .val (.int x0), .unset, .unset, .unset, .unset, .unset]) at_12 (pc' := 14) rfl rfl ?_
    refine G.iload H at_14 (pc' := 16) rfl rfl ?_
    refine G.iconst H at_16 (pc' := 17) rfl (v := 2) rfl ?_
    refine G.iand H at_17 (pc' := 18) rfl ?_
    by_cases c881 : (x4 &&& 2) = 0
    ·
      refine G.ifYes H at_18 (XT.i0_eq_t c881) (by decide) (pc' := 25) rfl ?_
      refine G.iloadN H at_25 (pc' := 26) rfl rfl ?_
      refine G.istore H (L' := #[.val (.int x0), .val (.int x1), .val (.int x2), .val (.int x3), .val (.int x4), .val (.int x0), .val (.int x3), .unset, .unset, .unset, .unset]) at_26 (pc' := 28) rfl rfl ?_
      refine G.iload H at_28 (pc' := 30) rfl rfl ?_
      refine G.iconst H at_30 (pc' := 31) rfl (v := 2) rfl ?_
      refine G.iushr H at_31 (pc' := 32) rfl ?_
      refine G.iconst H at_32 (pc' := 33) rfl (v := 3) rfl ?_
      refine G.iand H at_33 (pc' := 34) rfl ?_
      refine G.istore H (L' := #[.val (.int x0), .val (.int x1), .val (.int x2), .val (.int x3), .val (.int x4), .val (.int x0), .val (.int x3), .val (.int ((XT.ushr x4 2) &&& 3)), .unset, .unset, .unset]) at_34 (pc' := 36) rfl rfl ?_
      refine G.new H (wd0 V) (wd1 V) (wd2 V) at_36 (pc' := 39) rfl (by decide) (by decide) ?_
      intro T882 h882_ a883 ga883 H882 E884 A885 D886
      have na883 := H.nle ga883
      refine G.dup H882 at_39 (pc' := 40) rfl rfl ?_
      refine G.iloadN H882 at_40 (pc' := 41) rfl rfl ?_
      refine G.callS H882 (m5_slot V x0 h882_ H882.old) (wd3 V) (wd4 V) (wd5 V) (wd6 V) (by decide) (argsL := [(.int x0)]) (rest := [(.ref a883), (.ref a883)]) (W := 2) rfl rfl (lenOf (pd_3) rfl) rfl rfl at_41 (pc' := 44) rfl (by decide) (by decide) (by decide) (by decide) all0 ?_
      intro T887 h887_ v888 s889 H887 Q890
      rcases Q890 with ⟨a891, a892, k893, c894, rfl, rfl, K895, g896, F897⟩ | ⟨c898, rfl, rfl, rfl⟩
      ·
        have na891 : n0 ≤ a891 := Nat.le_trans H882.le g896
        show Go p e below _ (T887.setTop (mkF m 44 #[.val (.int x0), .val (.int x1), .val (.int x2), .val (.int x3), .val (.int x4), .val (.int x0), .val (.int x3), .val (.int ((XT.ushr x4 2) &&& 3)), .unset, .unset, .unset] [(.ref a891), (.ref a883), (.ref a883)]))
        refine G.iloadN H887 at_44 (pc' := 45) rfl rfl ?_
        refine G.callS H887 (m4_str V x1 h887_ H887.old) (wd10 V) (wd11 V) (wd5 V) (wd12 V) (by decide) (argsL := [(.int x1)]) (rest := [(.ref a891), (.ref a883), (.ref a883)]) (W := 3) rfl rfl (lenOf (pd_3) rfl) rfl rfl at_45 (pc' := 48) rfl (by decide) (by decide) (by decide) (by decide) all0 ?_
        intro T899 h899_ v900 s901 H899 Q902
        obtain ⟨a903, a904, k905, rfl, rfl, K906, g907, F908⟩ := Q902
        have na903 : n0 ≤ a903 := Nat.le_trans H887.le g907
        show Go p e below _ (T899.setTop (mkF m 48 #[.val (.int x0), .val (.int x1), .val (.int x2), .val (.int x3), .val (.int x4), .val (.int x0), .val (.int x3), .val (.int ((XT.ushr x4 2) &&& 3)), .unset, .unset, .unset] [(.ref a903), (.ref a891), (.ref a883), (.ref a883)]))
        have K909 : Keep h882_ h899_ [] := (Keep.trans (Keep.trans (Keep.refl h882_ []) K895 all0) K906 all0)
        have F910 := (Exa.keep A885 K909)
        have F911 : Fld Z h882_ a883 "com/example/schema_to_form/schematoform/record/ValuePath" "slot" "Ljava/lang/String;" .null := D886 (Or.inr (wd51 V)) (ty := (.object "java/lang/String")) (by decide)
        have F912 := (Fld.keep F911 K909 nin0)
        have F913 : Fld Z h882_ a883 "com/example/schema_to_form/schematoform/record/ValuePath" "name" "Ljava/lang/String;" .null := D886 (Or.inr (wd53 V)) (ty := (.object "java/lang/String")) (by decide)
        have F914 := (Fld.keep F913 K909 nin0)
        refine G.callI H899 (m6_init V a883 a891 a903 h899_ H899.old F910 F912 na883 F914) rfl (wd46 V) (wd47 V) (wd2 V) (wd48 V) (by decide) (a := a883) (argsL := [(.ref a891), (.ref a903)]) (rest := [(.ref a883)]) (W := 1) rfl rfl (lenOf (pd_4) rfl) rfl rfl at_48 (pc' := 51) rfl (by decide) (by decide) (by decide) (by decide) all0 ?_
        intro T915 h915_ v916 s917 H915 Q918
        obtain ⟨rfl, rfl, K919, U920, F921, F922, F923⟩ := Q918
        show Go p e below _ (T915.setTop (mkF m 51 #[.val (.int x0), .val (.int x1), .val (.int x2), .val (.int x3), .val (.int x4), .val (.int x0), .val (.int x3), .val (.int ((XT.ushr x4 2) &&& 3)), .unset, .unset, .unset] [(.ref a883)]))
        refine G.astore H915 (L' := #[.val (.int x0), .val (.int x1), .val (.int x2), .val (.int x3), .val (.int x4), .val (.int x0), .val (.int x3), .val (.int ((XT.ushr x4 2) &&& 3)), .val (.ref a883), .unset, .unset]) at_51 (pc' := 53) rfl rfl rfl ?_
        refine G.iload H915 at_53 (pc' := 55) rfl rfl ?_
        refine G.iconst H915 at_55 (pc' := 56) rfl (v := 2) rfl ?_
        by_cases c924 : ((XT.ushr x4 2) &&& 3) = 2
        ·
          refine G.icmpNo H915 at_56 (pc' := 59) rfl (XT.ii_ne_f c924) ?_
          refine G.aconstNull H915 at_59 (pc' := 60) rfl ?_
          refine G.astore H915 (L' := #[.val (.int x0), .val (.int x1), .val (.int x2), .val (.int x3), .val (.int x4), .val (.int x0), .val (.int x3), .val (.int ((XT.ushr x4 2) &&& 3)), .val (.ref a883), .val .null, .unset]) at_60 (pc' := 62) rfl rfl rfl ?_
          refine G.iconst H915 at_62 (pc' := 63) rfl (v := 0) rfl ?_
          refine G.istore H915 (L' := #[.val (.int x0), .val (.int x1), .val (.int x2), .val (.int x3), .val (.int x4), .val (.int x0), .val (.int x3), .val (.int ((XT.ushr x4 2) &&& 3)), .val (.ref a883), .val .null, .val (.int 0)]) at_63 (pc' := 65) rfl rfl ?_
          refine G.goto H915 at_65 (by decide) (pc' := 130) rfl ?_
          refine G.aload H915 at_130 (pc' := 132) rfl rfl rfl ?_
          refine G.aload H915 at_132 (pc' := 134) rfl rfl rfl ?_
          refine G.callV H915 (m7_equals V a883 h915_ H915.old) (wd60 V) (wd61 V) (nf_sel (wd63 V)) (wd63 V) (wd62 V) (wd2 V) (wd64 V) (by decide) F921 (argsL := [.null]) (rest := []) (W := 0) rfl rfl (lenOf (pd_5) rfl) rfl rfl at_134 (pc' := 137) rfl (by decide) (by decide) (by decide) (by decide) all0 ?_
          intro T925 h925_ v926 s927 H925 Q928
          obtain ⟨rfl, rfl, rfl⟩ := Q928
          show Go p e below _ (T925.setTop (mkF m 137 #[.val (.int x0), .val (.int x1), .val (.int x2), .val (.int x3), .val (.int x4), .val (.int x0), .val (.int x3), .val (.int ((XT.ushr x4 2) &&& 3)), .val (.ref a883), .val .null, .val (.int 0)] [(.int 0)]))
          refine G.iload H925 at_137 (pc' := 139) rfl rfl ?_
          refine G.icmpNo H925 at_139 (pc' := 142) rfl (by decide) ?_
          refine G.aload H925 at_142 (pc' := 144) rfl rfl rfl ?_
          refine G.aload H925 at_144 (pc' := 146) rfl rfl rfl ?_
          have F929 := (Exa.keep F908.1 K919)
          refine G.callV H925 (m10_equals V a883 a891 a903 h915_ H925.old F921 F922 F923 F929) (wd60 V) (wd61 V) (nf_sel (wd63 V)) (wd63 V) (wd62 V) (wd2 V) (wd64 V) (by decide) F921 (argsL := [(.ref a883)]) (rest := []) (W := 0) rfl rfl (lenOf (pd_5) rfl) rfl rfl at_146 (pc' := 149) rfl (by decide) (by decide) (by decide) (by decide) all0 ?_
          intro T930 h930_ v931 s932 H930 Q933
          obtain ⟨rfl, rfl, rfl⟩ := Q933
          show Go p e below _ (T930.setTop (mkF m 149 #[.val (.int x0), .val (.int x1), .val (.int x2), .val (.int x3), .val (.int x4), .val (.int x0), .val (.int x3), .val (.int ((XT.ushr x4 2) &&& 3)), .val (.ref a883), .val .null, .val (.int 0)] [(.int 1)]))
          refine G.ifNo H930 at_149 (pc' := 152) rfl (by decide) ?_
          refine G.iconst H930 at_152 (pc' := 153) rfl (v := 1) rfl ?_
          refine G.goto H930 at_153 (by decide) (pc' := 157) rfl ?_
          exact G.retN H930 (t := .boolean) rfl (by decide) at_157 (so := []) all0 (by decide) (by decide) rfl
        ·
          refine G.icmpYes H915 at_56 (XT.ii_ne_t c924) (by decide) (pc' := 68) rfl ?_
          refine G.iload H915 at_68 (pc' := 70) rfl rfl ?_
          refine G.iconst H915 at_70 (pc' := 71) rfl (v := 3) rfl ?_
          by_cases c934 : ((XT.ushr x4 2) &&& 3) = 3
          ·
            refine G.icmpNo H915 at_71 (pc' := 74) rfl (XT.ii_ne_f c934) ?_
            refine G.iloadN H915 at_74 (pc' := 75) rfl rfl ?_
            refine G.callS H915 (m4_str V x1 h915_ H915.old) (wd10 V) (wd11 V) (wd5 V) (wd12 V) (by decide) (argsL := [(.int x1)]) (rest := []) (W := 0) rfl rfl (lenOf (pd_3) rfl) rfl rfl at_75 (pc' := 78) rfl (by decide) (by decide) (by decide) (by decide) all0 ?_
            intro T935 h935_ v936 s937 H935 Q938
            obtain ⟨a939, a940, k941, rfl, rfl, K942, g943, F944⟩ := Q938
            have na939 : n0 ≤ a939 := Nat.le_trans H915.le g943
            show Go p e below _ (T935.setTop (mkF m 78 #[.val (.int x0), .val (.int x1), .val (.int x2), .val (.int x3), .val (.int x4), .val (.int x0), .val (.int x3), .val (.int ((XT.ushr x4 2) &&& 3)), .val (.ref a883), .unset, .unset] [(.ref a939)]))
            refine G.astore H935 (L' := #[.val (.int x0), .val (.int x1), .val (.int x2), .val (.int x3), .val (.int x4), .val (.int x0), .val (.int x3), .val (.int ((XT.ushr x4 2) &&& 3)), .val (.ref a883), .val (.ref a939), .unset]) at_78 (pc' := 80) rfl rfl rfl ?_
            refine G.iconst H935 at_80 (pc' := 81) rfl (v := 0) rfl ?_
            refine G.istore H935 (L' := #[.val (.int x0), .val (.int x1), .val (.int x2), .val (.int x3), .val (.int x4), .val (.int x0), .val (.int x3), .val (.int ((XT.ushr x4 2) &&& 3)), .val (.ref a883), .val (.ref a939), .val (.int 0)]) at_81 (pc' := 83) rfl rfl ?_
            refine G.goto H935 at_83 (by decide) (pc' := 130) rfl ?_
            refine G.aload H935 at_130 (pc' := 132) rfl rfl rfl ?_
            refine G.aload H935 at_132 (pc' := 134) rfl rfl rfl ?_
            have F945 := (Exa.keep F921 K942)
            refine G.callV H935 (m11_equals V a883 a939 h935_ H935.old F944.1) (wd60 V) (wd61 V) (nf_sel (wd63 V)) (wd63 V) (wd62 V) (wd2 V) (wd64 V) (by decide) F945 (argsL := [(.ref a939)]) (rest := []) (W := 0) rfl rfl (lenOf (pd_5) rfl) rfl rfl at_134 (pc' := 137) rfl (by decide) (by decide) (by decide) (by decide) all0 ?_
            intro T946 h946_ v947 s948 H946 Q949
            obtain ⟨rfl, rfl, rfl⟩ := Q949
            show Go p e below _ (T946.setTop (mkF m 137 #[.val (.int x0), .val (.int x1), .val (.int x2), .val (.int x3), .val (.int x4), .val (.int x0), .val (.int x3), .val (.int ((XT.ushr x4 2) &&& 3)), .val (.ref a883), .val (.ref a939), .val (.int 0)] [(.int 0)]))
            refine G.iload H946 at_137 (pc' := 139) rfl rfl ?_
            refine G.icmpNo H946 at_139 (pc' := 142) rfl (by decide) ?_
            refine G.aload H946 at_142 (pc' := 144) rfl rfl rfl ?_
            refine G.aload H946 at_144 (pc' := 146) rfl rfl rfl ?_
            have F950 := (Fld.keep F922 K942 nin0)
            have F951 := (Fld.keep F923 K942 nin0)
            have K952 : Keep h899_ h935_ [a883] := (Keep.trans (Keep.trans (Keep.refl h899_ [a883]) K919 (allS (Or.inl (mG (i := 0) rfl)) all0)) K942 all0)
            have F953 := (Exa.keep F908.1 K952)
            refine G.callV H946 (m10_equals V a883 a891 a903 h935_ H946.old F945 F950 F951 F953) (wd60 V) (wd61 V) (nf_sel (wd63 V)) (wd63 V) (wd62 V) (wd2 V) (wd64 V) (by decide) F945 (argsL := [(.ref a883)]) (rest := []) (W := 0) rfl rfl (lenOf (pd_5) rfl) rfl rfl at_146 (pc' := 149) rfl (by decide) (by decide) (by decide) (by decide) all0 ?_
            intro T954 h954_ v955 s956 H954 Q957
            obtain ⟨rfl, rfl, rfl⟩ := Q957
            show Go p e below _ (T954.setTop (mkF m 149 #[.val (.int x0), .val (.int x1), .val (.int x2), .val (.int x3), .val (.int x4), .val (.int x0), .val (.int x3), .val (.int ((XT.ushr x4 2) &&& 3)), .val (.ref a883), .val (.ref a939), .val (.int 0)] [(.int 1)]))
            refine G.ifNo H954 at_149 (pc' := 152) rfl (by decide) ?_
            refine G.iconst H954 at_152 (pc' := 153) rfl (v := 1) rfl ?_
            refine G.goto H954 at_153 (by decide) (pc' := 157) rfl ?_
            exact G.retN H954 (t := .boolean) rfl (by decide) at_157 (so := []) all0 (by decide) (by decide) rfl
          ·
            refine G.icmpYes H915 at_71 (XT.ii_ne_t c934) (by decide) (pc' := 86) rfl ?_
            refine G.new H915 (wd0 V) (wd1 V) (wd2 V) at_86 (pc' := 89) rfl (by decide) (by decide) ?_
            intro T958 h958_ a959 ga959 H958 E960 A961 D962
            have na959 := H915.nle ga959
            refine G.dup H958 at_89 (pc' := 90) rfl rfl ?_
            refine G.iload H958 at_90 (pc' := 92) rfl rfl ?_
            refine G.callS H958 (m37_slot V x0 h958_ H958.old c894) (wd3 V) (wd4 V) (wd5 V) (wd6 V) (by decide) (argsL := [(.int x0)]) (rest := [(.ref a959), (.ref a959)]) (W := 2) rfl rfl (lenOf (pd_3) rfl) rfl rfl at_92 (pc' := 95) rfl (by decide) (by decide) (by decide) (by decide) all0 ?_
            intro T963 h963_ v964 s965 H963 Q966
            obtain ⟨a967, a968, k969, rfl, rfl, K970, g971, F972⟩ := Q966
            have na967 : n0 ≤ a967 := Nat.le_trans H958.le g971
            show Go p e below _ (T963.setTop (mkF m 95 #[.val (.int x0), .val (.int x1), .val (.int x2), .val (.int x3), .val (.int x4), .val (.int x0), .val (.int x3), .val (.int ((XT.ushr x4 2) &&& 3)), .val (.ref a883), .unset, .unset] [(.ref a967), (.ref a959), (.ref a959)]))
            refine G.iload H963 at_95 (pc' := 97) rfl rfl ?_
            refine G.callS H963 (m4_str V x3 h963_ H963.old) (wd10 V) (wd11 V) (wd5 V) (wd12 V) (by decide) (argsL := [(.int x3)]) (rest := [(.ref a967), (.ref a959), (.ref a959)]) (W := 3) rfl rfl (lenOf (pd_3) rfl) rfl rfl at_97 (pc' := 100) rfl (by decide) (by decide) (by decide) (by decide) all0 ?_
            intro T973 h973_ v974 s975 H973 Q976
            obtain ⟨a977, a978, k979, rfl, rfl, K980, g981, F982⟩ := Q976
            have na977 : n0 ≤ a977 := Nat.le_trans H963.le g981
            show Go p e below _ (T973.setTop (mkF m 100 #[.val (.int x0), .val (.int x1), .val (.int x2), .val (.int x3), .val (.int x4), .val (.int x0), .val (.int x3), .val (.int ((XT.ushr x4 2) &&& 3)), .val (.ref a883), .unset, .unset] [(.ref a977), (.ref a967), (.ref a959), (.ref a959)]))
            have K983 : Keep h958_ h973_ [] := (Keep.trans (Keep.trans (Keep.refl h958_ []) K970 all0) K980 all0)
            have F984 := (Exa.keep A961 K983)
            have F985 : Fld Z h958_ a959 "com/example/schema_to_form/schematoform/record/ValuePath" "slot" "Ljava/lang/String;" .null := D962 (Or.inr (wd51 V)) (ty := (.object "java/lang/String")) (by decide)
            have F986 := (Fld.keep F985 K983 nin0)
            have F987 : Fld Z h958_ a959 "com/example/schema_to_form/schematoform/record/ValuePath" "name" "Ljava/lang/String;" .null := D962 (Or.inr (wd53 V)) (ty := (.object "java/lang/String")) (by decide)
            have F988 := (Fld.keep F987 K983 nin0)
            refine G.callI H973 (m6_init V a959 a967 a977 h973_ H973.old F984 F986 na959 F988) rfl (wd46 V) (wd47 V) (wd2 V) (wd48 V) (by decide) (a := a959) (argsL := [(.ref a967), (.ref a977)]) (rest := [(.ref a959)]) (W := 1) rfl rfl (lenOf (pd_4) rfl) rfl rfl at_100 (pc' := 103) rfl (by decide) (by decide) (by decide) (by decide) all0 ?_
            intro T989 h989_ v990 s991 H989 Q992
            obtain ⟨rfl, rfl, K993, U994, F995, F996, F997⟩ := Q992
            show Go p e below _ (T989.setTop (mkF m 103 #[.val (.int x0), .val (.int x1), .val (.int x2), .val (.int x3), .val (.int x4), .val (.int x0), .val (.int x3), .val (.int ((XT.ushr x4 2) &&& 3)), .val (.ref a883), .unset, .unset] [(.ref a959)]))
            refine G.astore H989 (L' := #[.val (.int x0), .val (.int x1), .val (.int x2), .val (.int x3), .val (.int x4), .val (.int x0), .val (.int x3), .val (.int ((XT.ushr x4 2) &&& 3)), .val (.ref a883), .val (.ref a959), .unset]) at_103 (pc' := 105) rfl rfl rfl ?_
            refine G.iloadN H989 at_105 (pc' := 106) rfl rfl ?_
            refine G.iload H989 at_106 (pc' := 108) rfl rfl ?_
            refine G.callS H989 (m38_sameSlot V x0 h989_ H989.old c894) (wd54 V) (wd55 V) (wd5 V) (wd56 V) (by decide) (argsL := [(.int x0), (.int x0)]) (rest := []) (W := 0) rfl rfl (lenOf (pd_7) rfl) rfl rfl at_108 (pc' := 111) rfl (by decide) (by decide) (by decide) (by decide) all0 ?_
            intro T998 h998_ v999 s1000 H998 Q1001
            obtain ⟨rfl, rfl, rfl⟩ := Q1001
            show Go p e below _ (T998.setTop (mkF m 111 #[.val (.int x0), .val (.int x1), .val (.int x2), .val (.int x3), .val (.int x4), .val (.int x0), .val (.int x3), .val (.int ((XT.ushr x4 2) &&& 3)), .val (.ref a883), .val (.ref a959), .unset] [(.int 1)]))
            refine G.ifNo H998 at_111 (pc' := 114) rfl (by decide) ?_
            refine G.iloadN H998 at_114 (pc' := 115) rfl rfl ?_
            refine G.iload H998 at_115 (pc' := 117) rfl rfl ?_
            refine G.callS H998 (m13_sameStr V x1 x3 h989_ H998.old) (wd57 V) (wd58 V) (wd5 V) (wd59 V) (by decide) (argsL := [(.int x1), (.int x3)]) (rest := []) (W := 0) rfl rfl (lenOf (pd_7) rfl) rfl rfl at_117 (pc' := 120) rfl (by decide) (by decide) (by decide) (by decide) all0 ?_
            intro T1002 h1002_ v1003 s1004 H1002 Q1005
            rcases Q1005 with ⟨c1006, rfl, rfl, rfl⟩ | ⟨c1007, rfl, rfl, rfl⟩
            ·
              show Go p e below _ (T1002.setTop (mkF m 120 #[.val (.int x0), .val (.int x1), .val (.int x2), .val (.int x3), .val (.int x4), .val (.int x0), .val (.int x3), .val (.int ((XT.ushr x4 2) &&& 3)), .val (.ref a883), .val (.ref a959), .unset] [(.int 1)]))
              refine G.ifNo H1002 at_120 (pc' := 123) rfl (by decide) ?_
              refine G.iconst H1002 at_123 (pc' := 124) rfl (v := 1) rfl ?_
              refine G.goto H1002 at_124 (by decide) (pc' := 128) rfl ?_
              refine G.istore H1002 (L' := #[.val (.int x0), .val (.int x1), .val (.int x2), .val (.int x3), .val (.int x4), .val (.int x0), .val (.int x3), .val (.int ((XT.ushr x4 2) &&& 3)), .val (.ref a883), .val (.ref a959), .val (.int 1)]) at_128 (pc' := 130) rfl rfl ?_
              refine G.aload H1002 at_130 (pc' := 132) rfl rfl rfl ?_
              refine G.aload H1002 at_132 (pc' := 134) rfl rfl rfl ?_
              have K1008 : Keep h915_ h989_ [] := (Keep.trans (Keep.trans (Keep.trans (Keep.ext (Keep.refl h915_ []) E960) K970 all0) K980 all0) K993 (allS (Or.inr (Nat.le_of_eq ga959.symm)) all0))
              have F1009 := (Exa.keep F921 K1008)
              have F1010 := (Fld.keep F922 K1008 nin0)
              have K1011 : Keep h887_ h958_ [a883] := (Keep.ext (Keep.trans (Keep.trans (Keep.refl h887_ [a883]) K906 all0) K919 (allS (Or.inl (mG (i := 0) rfl)) all0)) E960)
              have N1012 : a891 ≠ a967 := (Nat.ne_of_lt (Nat.lt_of_lt_of_le (Nat.lt_of_lt_of_le F897.1.lt K1011.1) g971))
              have K1013 : Keep h887_ h915_ [a883] := (Keep.trans (Keep.trans (Keep.refl h887_ [a883]) K906 all0) K919 (allS (Or.inl (mG (i := 0) rfl)) all0))
              have K1014 : Keep h887_ h989_ [a883] := (Keep.trans (Keep.trans (Keep.trans (Keep.ext (Keep.trans (Keep.trans (Keep.refl h887_ [a883]) K906 all0) K919 (allS (Or.inl (mG (i := 0) rfl)) all0)) E960) K970 all0) K980 all0) K993 (allS (Or.inr (Nat.le_trans K1013.1 (Nat.le_of_eq ga959.symm))) all0))
              have F1015 := (Exa.keep F897.1 K1014)
              have N1016 : a891 ≠ a883 := Exa.ne F1015 F1009 (by decide)
              have N1017 : a892 ≠ a883 := Ne.symm (Exa.neArv (Exa.keep A885 K895) F897.2.2.2.1 (wd1 V))
              have F1018 := (Str.keep F897 K1014 (ninS N1016 nin0) (ninS N1017 nin0))
              have K1019 : Keep h963_ h989_ [a959] := (Keep.trans (Keep.trans (Keep.refl h963_ [a959]) K980 all0) K993 (allS (Or.inl (mG (i := 0) rfl)) all0))
              have N1020 : a967 ≠ a959 := Exa.ne F972.1 (Exa.keep A961 K970) (by decide)
              have N1021 : a968 ≠ a959 := Ne.symm (Exa.neArv (Exa.keep A961 K970) F972.2.2.2.1 (wd1 V))
              have F1022 := (Str.keep F972 K1019 (ninS N1020 nin0) (ninS N1021 nin0))
              have F1023 := (Fld.keep F923 K1008 nin0)
              have K1024 : Keep h899_ h915_ [a883] := (Keep.trans (Keep.refl h899_ [a883]) K919 (allS (Or.inl (mG (i := 0) rfl)) all0))
              have K1025 : Keep h899_ h989_ [a883] := (Keep.trans (Keep.trans (Keep.trans (Keep.ext (Keep.trans (Keep.refl h899_ [a883]) K919 (allS (Or.inl (mG (i := 0) rfl)) all0)) E960) K970 all0) K980 all0) K993 (allS (Or.inr (Nat.le_trans K1024.1 (Nat.le_of_eq ga959.symm))) all0))
              have N1026 : a903 ≠ a883 := Exa.ne F908.1 (Exa.keep (Exa.keep A885 K895) K906) (by decide)
              have N1027 : a904 ≠ a883 := Ne.symm (Exa.neArv (Exa.keep (Exa.keep A885 K895) K906) F908.2.2.2.1 (wd1 V))
              have F1028 := (Str.keep F908 K1025 (ninS N1026 nin0) (ninS N1027 nin0))
              have N1029 : a977 ≠ a959 := Exa.ne F982.1 (Exa.keep (Exa.keep A961 K970) K980) (by decide)
              have N1030 : a978 ≠ a959 := Ne.symm (Exa.neArv (Exa.keep (Exa.keep A961 K970) K980) F982.2.2.2.1 (wd1 V))
              have F1031 := (Str.keep F982 K993 (ninS N1029 nin0) (ninS N1030 nin0))
              refine G.callV H1002 (m40_equals V a883 a959 a891 a967 a892 k893 (strOf x0) a968 k969 a903 a977 a904 k905 (strOf x1) a978 k979 (strOf x3) h989_ H1002.old F995 F1010 F996 N1012 F1015 F1018 F1022 F1023 F997 F1028 F1031 c1006) (wd60 V) (wd61 V) (nf_sel (wd63 V)) (wd63 V) (wd62 V) (wd2 V) (wd64 V) (by decide) F1009 (argsL := [(.ref a959)]) (rest := []) (W := 0) rfl rfl (lenOf (pd_5) rfl) rfl rfl at_134 (pc' := 137) rfl (by decide) (by decide) (by decide) (by decide) all0 ?_
              intro T1032 h1032_ v1033 s1034 H1032 Q1035
              obtain ⟨c1036, c1037, rfl, rfl, rfl⟩ := Q1035
              show Go p e below _ (T1032.setTop (mkF m 137 #[.val (.int x0), .val (.int x1), .val (.int x2), .val (.int x3), .val (.int x4), .val (.int x0), .val (.int x3), .val (.int ((XT.ushr x4 2) &&& 3)), .val (.ref a883), .val (.ref a959), .val (.int 1)] [(.int 1)]))
              refine G.iload H1032 at_137 (pc' := 139) rfl rfl ?_
              refine G.icmpNo H1032 at_139 (pc' := 142) rfl (by decide) ?_
              refine G.aload H1032 at_142 (pc' := 144) rfl rfl rfl ?_
              refine G.aload H1032 at_144 (pc' := 146) rfl rfl rfl ?_
              refine G.callV H1032 (m10_equals V a883 a891 a903 h989_ H1032.old F1009 F1010 F1023 F1028.1) (wd60 V) (wd61 V) (nf_sel (wd63 V)) (wd63 V) (wd62 V) (wd2 V) (wd64 V) (by decide) F1009 (argsL := [(.ref a883)]) (rest := []) (W := 0) rfl rfl (lenOf (pd_5) rfl) rfl rfl at_146 (pc' := 149) rfl (by decide) (by decide) (by decide) (by decide) all0 ?_
              intro T1038 h1038_ v1039 s1040 H1038 Q1041
              obtain ⟨rfl, rfl, rfl⟩ := Q1041
              show Go p e below _ (T1038.setTop (mkF m 149 #[.val (.int x0), .val (.int x1), .val (.int x2), .val (.int x3), .val (.int x4), .val (.int x0), .val (.int x3), .val (.int ((XT.ushr x4 2) &&& 3)), .val (.ref a883), .val (.ref a959), .val (.int 1)] [(.int 1)]))
              refine G.ifNo H1038 at_149 (pc' := 152) rfl (by decide) ?_
              refine G.iconst H1038 at_152 (pc' := 153) rfl (v := 1) rfl ?_
              refine G.goto H1038 at_153 (by decide) (pc' := 157) rfl ?_
              exact G.retN H1038 (t := .boolean) rfl (by decide) at_157 (so := []) all0 (by decide) (by decide) rfl
            ·
              show Go p e below _ (T1002.setTop (mkF m 120 #[.val (.int x0), .val (.int x1), .val (.int x2), .val (.int x3), .val (.int x4), .val (.int x0), .val (.int x3), .val (.int ((XT.ushr x4 2) &&& 3)), .val (.ref a883), .val (.ref a959), .unset] [(.int 0)]))
              refine G.ifYes H1002 at_120 (by decide) (by decide) (pc' := 127) rfl ?_
              refine G.iconst H1002 at_127 (pc' := 128) rfl (v := 0) rfl ?_
              refine G.istore H1002 (L' := #[.val (.int x0), .val (.int x1), .val (.int x2), .val (.int x3), .val (.int x4), .val (.int x0), .val (.int x3), .val (.int ((XT.ushr x4 2) &&& 3)), .val (.ref a883), .val (.ref a959), .val (.int 0)]) at_128 (pc' := 130) rfl rfl ?_
              refine G.aload H1002 at_130 (pc' := 132) rfl rfl rfl ?_
              refine G.aload H1002 at_132 (pc' := 134) rfl rfl rfl ?_
              have K1042 : Keep h915_ h989_ [] := (Keep.trans (Keep.trans (Keep.trans (Keep.ext (Keep.refl h915_ []) E960) K970 all0) K980 all0) K993 (allS (Or.inr (Nat.le_of_eq ga959.symm)) all0))
              have F1043 := (Exa.keep F921 K1042)
              have F1044 := (Fld.keep F922 K1042 nin0)
              have K1045 : Keep h887_ h958_ [a883] := (Keep.ext (Keep.trans (Keep.trans (Keep.refl h887_ [a883]) K906 all0) K919 (allS (Or.inl (mG (i := 0) rfl)) all0)) E960)
              have N1046 : a891 ≠ a967 := (Nat.ne_of_lt (Nat.lt_of_lt_of_le (Nat.lt_of_lt_of_le F897.1.lt K1045.1) g971))
              have K1047 : Keep h887_ h915_ [a883] := (Keep.trans (Keep.trans (Keep.refl h887_ [a883]) K906 all0) K919 (allS (Or.inl (mG (i := 0) rfl)) all0))
              have K1048 : Keep h887_ h989_ [a883] := (Keep.trans (Keep.trans (Keep.trans (Keep.ext (Keep.trans (Keep.trans (Keep.refl h887_ [a883]) K906 all0) K919 (allS (Or.inl (mG (i := 0) rfl)) all0)) E960) K970 all0) K980 all0) K993 (allS (Or.inr (Nat.le_trans K1047.1 (Nat.le_of_eq ga959.symm))) all0))
              have F1049 := (Exa.keep F897.1 K1048)
              have N1050 : a891 ≠ a883 := Exa.ne F1049 F1043 (by decide)
              have N1051 : a892 ≠ a883 := Ne.symm (Exa.neArv (Exa.keep A885 K895) F897.2.2.2.1 (wd1 V))
              have F1052 := (Str.keep F897 K1048 (ninS N1050 nin0) (ninS N1051 nin0))
              have K1053 : Keep h963_ h989_ [a959] := (Keep.trans (Keep.trans (Keep.refl h963_ [a959]) K980 all0) K993 (allS (Or.inl (mG (i := 0) rfl)) all0))
              have N1054 : a967 ≠ a959 := Exa.ne F972.1 (Exa.keep A961 K970) (by decide)
              have N1055 : a968 ≠ a959 := Ne.symm (Exa.neArv (Exa.keep A961 K970) F972.2.2.2.1 (wd1 V))
              have F1056 := (Str.keep F972 K1053 (ninS N1054 nin0) (ninS N1055 nin0))
              have F1057 := (Fld.keep F923 K1042 nin0)
              have K1058 : Keep h899_ h915_ [a883] := (Keep.trans (Keep.refl h899_ [a883]) K919 (allS (Or.inl (mG (i := 0) rfl)) all0))
              have K1059 : Keep h899_ h989_ [a883] := (Keep.trans (Keep.trans (Keep.trans (Keep.ext (Keep.trans (Keep.refl h899_ [a883]) K919 (allS (Or.inl (mG (i := 0) rfl)) all0)) E960) K970 all0) K980 all0) K993 (allS (Or.inr (Nat.le_trans K1058.1 (Nat.le_of_eq ga959.symm))) all0))
              have N1060 : a903 ≠ a883 := Exa.ne F908.1 (Exa.keep (Exa.keep A885 K895) K906) (by decide)
              have N1061 : a904 ≠ a883 := Ne.symm (Exa.neArv (Exa.keep (Exa.keep A885 K895) K906) F908.2.2.2.1 (wd1 V))
              have F1062 := (Str.keep F908 K1059 (ninS N1060 nin0) (ninS N1061 nin0))
              have N1063 : a977 ≠ a959 := Exa.ne F982.1 (Exa.keep (Exa.keep A961 K970) K980) (by decide)
              have N1064 : a978 ≠ a959 := Ne.symm (Exa.neArv (Exa.keep (Exa.keep A961 K970) K980) F982.2.2.2.1 (wd1 V))
              have F1065 := (Str.keep F982 K993 (ninS N1063 nin0) (ninS N1064 nin0))
              refine G.callV H1002 (m41_equals V a883 a959 a891 a967 a892 k893 (strOf x0) a968 k969 a903 a977 a904 k905 (strOf x1) a978 k979 (strOf x3) h989_ H1002.old F995 F1044 F996 N1046 F1049 F1052 F1056 F1057 F997 F1062 F1065 c1007) (wd60 V) (wd61 V) (nf_sel (wd63 V)) (wd63 V) (wd62 V) (wd2 V) (wd64 V) (by decide) F1043 (argsL := [(.ref a959)]) (rest := []) (W := 0) rfl rfl (lenOf (pd_5) rfl) rfl rfl at_134 (pc' := 137) rfl (by decide) (by decide) (by decide) (by decide) all0 ?_
              intro T1066 h1066_ v1067 s1068 H1066 Q1069
              obtain ⟨c1070, c1071, rfl, rfl, rfl⟩ := Q1069
              show Go p e below _ (T1066.setTop (mkF m 137 #[.val (.int x0), .val (.int x1), .val (.int x2), .val (.int x3), .val (.int x4), .val (.int x0), .val (.int x3), .val (.int ((XT.ushr x4 2) &&& 3)), .val (.ref a883), .val (.ref a959), .val (.int 0)] [(.int 0)]))
              refine G.iload H1066 at_137 (pc' := 139) rfl rfl ?_
              refine G.icmpNo H1066 at_139 (pc' := 142) rfl (by decide) ?_
              refine G.aload H1066 at_142 (pc' := 144) rfl rfl rfl ?_
              refine G.aload H1066 at_144 (pc' := 146) rfl rfl rfl ?_
              refine G.callV H1066 (m10_equals V a883 a891 a903 h989_ H1066.old F1043 F1044 F1057 F1062.1) (wd60 V) (wd61 V) (nf_sel (wd63 V)) (wd63 V) (wd62 V) (wd2 V) (wd64 V) (by decide) F1043 (argsL := [(.ref a883)]) (rest := []) (W := 0) rfl rfl (lenOf (pd_5) rfl) rfl rfl at_146 (pc' := 149) rfl (by decide) (by decide) (by decide) (by decide) all0 ?_
              intro T1072 h1072_ v1073 s1074 H1072 Q1075
              obtain ⟨rfl, rfl, rfl⟩ := Q1075
              show Go p e below _ (T1072.setTop (mkF m 149 #[.val (.int x0), .val (.int x1), .val (.int x2), .val (.int x3), .val (.int x4), .val (.int x0), .val (.int x3), .val (.int ((XT.ushr x4 2) &&& 3)), .val (.ref a883), .val (.ref a959), .val (.int 0)] [(.int 1)]))
              refine G.ifNo H1072 at_149 (pc' := 152) rfl (by decide) ?_
              refine G.iconst H1072 at_152 (pc' := 153) rfl (v := 1) rfl ?_
              refine G.goto H1072 at_153 (by decide) (pc' := 157) rfl ?_
              exact G.retN H1072 (t := .boolean) rfl (by decide) at_157 (so := []) all0 (by decide) (by decide) rfl
      ·
        show Go p e below _ (T887.setTop (mkF m 44 #[.val (.int x0), .val (.int x1), .val (.int x2), .val (.int x3), .val (.int x4), .val (.int x0), .val (.int x3), .val (.int ((XT.ushr x4 2) &&& 3)), .unset, .unset, .unset] [.null, (.ref a883), (.ref a883)]))
        refine G.iloadN H887 at_44 (pc' := 45) rfl rfl ?_
        refine G.callS H887 (m4_str V x1 h882_ H887.old) (wd10 V) (wd11 V) (wd5 V) (wd12 V) (by decide) (argsL := [(.int x1)]) (rest := [.null, (.ref a883), (.ref a883)]) (W := 3) rfl rfl (lenOf (pd_3) rfl) rfl rfl at_45 (pc' := 48) rfl (by decide) (by decide) (by decide) (by decide) all0 ?_
        intro T1076 h1076_ v1077 s1078 H1076 Q1079
        obtain ⟨a1080, a1081, k1082, rfl, rfl, K1083, g1084, F1085⟩ := Q1079
        have na1080 : n0 ≤ a1080 := Nat.le_trans H887.le g1084
        show Go p e below _ (T1076.setTop (mkF m 48 #[.val (.int x0), .val (.int x1), .val (.int x2), .val (.int x3), .val (.int x4), .val (.int x0), .val (.int x3), .val (.int ((XT.ushr x4 2) &&& 3)), .unset, .unset, .unset] [(.ref a1080), .null, (.ref a883), (.ref a883)]))
        have F1086 := (Exa.keep A885 K1083)
        have F1087 : Fld Z h882_ a883 "com/example/schema_to_form/schematoform/record/ValuePath" "slot" "Ljava/lang/String;" .null := D886 (Or.inr (wd51 V)) (ty := (.object "java/lang/String")) (by decide)
        have F1088 := (Fld.keep F1087 K1083 nin0)
        have F1089 : Fld Z h882_ a883 "com/example/schema_to_form/schematoform/record/ValuePath" "name" "Ljava/lang/String;" .null := D886 (Or.inr (wd53 V)) (ty := (.object "java/lang/String")) (by decide)
        have F1090 := (Fld.keep F1089 K1083 nin0)
        refine G.callI H1076 (m20_init V a883 a1080 h1076_ H1076.old F1086 F1088 na883 F1090) rfl (wd46 V) (wd47 V) (wd2 V) (wd48 V) (by decide) (a := a883) (argsL := [.null, (.ref a1080)]) (rest := [(.ref a883)]) (W := 1) rfl rfl (lenOf (pd_4) rfl) rfl rfl at_48 (pc' := 51) rfl (by decide) (by decide) (by decide) (by decide) all0 ?_
        intro T1091 h1091_ v1092 s1093 H1091 Q1094
        obtain ⟨rfl, rfl, K1095, U1096, F1097, F1098, F1099⟩ := Q1094
        show Go p e below _ (T1091.setTop (mkF m 51 #[.val (.int x0), .val (.int x1), .val (.int x2), .val (.int x3), .val (.int x4), .val (.int x0), .val (.int x3), .val (.int ((XT.ushr x4 2) &&& 3)), .unset, .unset, .unset] [(.ref a883)]))
        refine G.astore H1091 (L' := #[.val (.int x0), .val (.int x1), .val (.int x2), .val (.int x3), .val (.int x4), .val (.int x0), .val (.int x3), .val (.int ((XT.ushr x4 2) &&& 3)), .val (.ref a883), .unset, .unset]) at_51 (pc' := 53) rfl rfl rfl ?_
        refine G.iload H1091 at_53 (pc' := 55) rfl rfl ?_
        refine G.iconst H1091 at_55 (pc' := 56) rfl (v := 2) rfl ?_
        by_cases c1100 : ((XT.ushr x4 2) &&& 3) = 2
        ·
          refine G.icmpNo H1091 at_56 (pc' := 59) rfl (XT.ii_ne_f c1100) ?_
          refine G.aconstNull H1091 at_59 (pc' := 60) rfl ?_
          refine G.astore H1091 (L' := #[.val (.int x0), .val (.int x1), .val (.int x2), .val (.int x3), .val (.int x4), .val (.int x0), .val (.int x3), .val (.int ((XT.ushr x4 2) &&& 3)), .val (.ref a883), .val .null, .unset]) at_60 (pc' := 62) rfl rfl rfl ?_
          refine G.iconst H1091 at_62 (pc' := 63) rfl (v := 0) rfl ?_
          refine G.istore H1091 (L' := #[.val (.int x0), .val (.int x1), .val (.int x2), .val (.int x3), .val (.int x4), .val (.int x0), .val (.int x3), .val (.int ((XT.ushr x4 2) &&& 3)), .val (.ref a883), .val .null, .val (.int 0)]) at_63 (pc' := 65) rfl rfl ?_
          refine G.goto H1091 at_65 (by decide) (pc' := 130) rfl ?_
          refine G.aload H1091 at_130 (pc' := 132) rfl rfl rfl ?_
          refine G.aload H1091 at_132 (pc' := 134) rfl rfl rfl ?_
          refine G.callV H1091 (m7_equals V a883 h1091_ H1091.old) (wd60 V) (wd61 V) (nf_sel (wd63 V)) (wd63 V) (wd62 V) (wd2 V) (wd64 V) (by decide) F1097 (argsL := [.null]) (rest := []) (W := 0) rfl rfl (lenOf (pd_5) rfl) rfl rfl at_134 (pc' := 137) rfl (by decide) (by decide) (by decide) (by decide) all0 ?_
          intro T1101 h1101_ v1102 s1103 H1101 Q1104
          obtain ⟨rfl, rfl, rfl⟩ := Q1104
          show Go p e below _ (T1101.setTop (mkF m 137 #[.val (.int x0), .val (.int x1), .val (.int x2), .val (.int x3), .val (.int x4), .val (.int x0), .val (.int x3), .val (.int ((XT.ushr x4 2) &&& 3)), .val (.ref a883), .val .null, .val (.int 0)] [(.int 0)]))
          refine G.iload H1101 at_137 (pc' := 139) rfl rfl ?_
          refine G.icmpNo H1101 at_139 (pc' := 142) rfl (by decide) ?_
          refine G.aload H1101 at_142 (pc' := 144) rfl rfl rfl ?_
          refine G.aload H1101 at_144 (pc' := 146) rfl rfl rfl ?_
          have F1105 := (Exa.keep F1085.1 K1095)
          refine G.callV H1101 (m27_equals V a883 a1080 h1091_ H1101.old F1097 F1098 F1099 F1105) (wd60 V) (wd61 V) (nf_sel (wd63 V)) (wd63 V) (wd62 V) (wd2 V) (wd64 V) (by decide) F1097 (argsL := [(.ref a883)]) (rest := []) (W := 0) rfl rfl (lenOf (pd_5) rfl) rfl rfl at_146 (pc' := 149) rfl (by decide) (by decide) (by decide) (by decide) all0 ?_
          intro T1106 h1106_ v1107 s1108 H1106 Q1109
          obtain ⟨rfl, rfl, rfl⟩ := Q1109
          show Go p e below _ (T1106.setTop (mkF m 149 #[.val (.int x0), .val (.int x1), .val (.int x2), .val (.int x3), .val (.int x4), .val (.int x0), .val (.int x3), .val (.int ((XT.ushr x4 2) &&& 3)), .val (.ref a883), .val .null, .val (.int 0)] [(.int 1)]))
          refine G.ifNo H1106 at_149 (pc' := 152) rfl (by decide) ?_
          refine G.iconst H1106 at_152 (pc' := 153) rfl (v := 1) rfl ?_
          refine G.goto H1106 at_153 (by decide) (pc' := 157) rfl ?_
          exact G.retN H1106 (t := .boolean) rfl (by decide) at_157 (so := []) all0 (by decide) (by decide) rfl
        ·
          refine G.icmpYes H1091 at_56 (XT.ii_ne_t c1100) (by decide) (pc' := 68) rfl ?_
          refine G.iload H1091 at_68 (pc' := 70) rfl rfl ?_
          refine G.iconst H1091 at_70 (pc' := 71) rfl (v := 3) rfl ?_
          by_cases c1110 : ((XT.ushr x4 2) &&& 3) = 3
          ·
            refine G.icmpNo H1091 at_71 (pc' := 74) rfl (XT.ii_ne_f c1110) ?_
            refine G.iloadN H1091 at_74 (pc' := 75) rfl rfl ?_
            refine G.callS H1091 (m4_str V x1 h1091_ H1091.old) (wd10 V) (wd11 V) (wd5 V) (wd12 V) (by decide) (argsL := [(.int x1)]) (rest := []) (W := 0) rfl rfl (lenOf (pd_3) rfl) rfl rfl at_75 (pc' := 78) rfl (by decide) (by decide) (by decide) (by decide) all0 ?_
            intro T1111 h1111_ v1112 s1113 H1111 Q1114
            obtain ⟨a1115, a1116, k1117, rfl, rfl, K1118, g1119, F1120⟩ := Q1114
            have na1115 : n0 ≤ a1115 := Nat.le_trans H1091.le g1119
            show Go p e below _ (T1111.setTop (mkF m 78 #[.val (.int x0), .val (.int x1), .val (.int x2), .val (.int x3), .val (.int x4), .val (.int x0), .val (.int x3), .val (.int ((XT.ushr x4 2) &&& 3)), .val (.ref a883), .unset, .unset] [(.ref a1115)]))
            refine G.astore H1111 (L' := #[.val (.int x0), .val (.int x1), .val (.int x2), .val (.int x3), .val (.int x4), .val (.int x0), .val (.int x3), .val (.int ((XT.ushr x4 2) &&& 3)), .val (.ref a883), .val (.ref a1115), .unset]) at_78 (pc' := 80) rfl rfl rfl ?_
            refine G.iconst H1111 at_80 (pc' := 81) rfl (v := 0) rfl ?_
            refine G.istore H1111 (L' := #[.val (.int x0), .val (.int x1), .val (.int x2), .val (.int x3), .val (.int x4), .val (.int x0), .val (.int x3), .val (.int ((XT.ushr x4 2) &&& 3)), .val (.ref a883), .val (.ref a1115), .val (.int 0)]) at_81 (pc' := 83) rfl rfl ?_
            refine G.goto H1111 at_83 (by decide) (pc' := 130) rfl ?_
            refine G.aload H1111 at_130 (pc' := 132) rfl rfl rfl ?_
            refine G.aload H1111 at_132 (pc' := 134) rfl rfl rfl ?_
            have F1121 := (Exa.keep F1097 K1118)
            refine G.callV H1111 (m11_equals V a883 a1115 h1111_ H1111.old F1120.1) (wd60 V) (wd61 V) (nf_sel (wd63 V)) (wd63 V) (wd62 V) (wd2 V) (wd64 V) (by decide) F1121 (argsL := [(.ref a1115)]) (rest := []) (W := 0) rfl rfl (lenOf (pd_5) rfl) rfl rfl at_134 (pc' := 137) rfl (by decide) (by decide) (by decide) (by decide) all0 ?_
            intro T1122 h1122_ v1123 s1124 H1122 Q1125
            obtain ⟨rfl, rfl, rfl⟩ := Q1125
            show Go p e below _ (T1122.setTop (mkF m 137 #[.val (.int x0), .val (.int x1), .val (.int x2), .val (.int x3), .val (.int x4), .val (.int x0), .val (.int x3), .val (.int ((XT.ushr x4 2) &&& 3)), .val (.ref a883), .val (.ref a1115), .val (.int 0)] [(.int 0)]))
            refine G.iload H1122 at_137 (pc' := 139) rfl rfl ?_
            refine G.icmpNo H1122 at_139 (pc' := 142) rfl (by decide) ?_
            refine G.aload H1122 at_142 (pc' := 144) rfl rfl rfl ?_
            refine G.aload H1122 at_144 (pc' := 146) rfl rfl rfl ?_
            have F1126 := (Fld.keep F1098 K1118 nin0)
            have F1127 := (Fld.keep F1099 K1118 nin0)
            have K1128 : Keep h1076_ h1111_ [a883] := (Keep.trans (Keep.trans (Keep.refl h1076_ [a883]) K1095 (allS (Or.inl (mG (i := 0) rfl)) all0)) K1118 all0)
            have F1129 := (Exa.keep F1085.1 K1128)
            refine G.callV H1122 (m27_equals V a883 a1080 h1111_ H1122.old F1121 F1126 F1127 F1129) (wd60 V) (wd61 V) (nf_sel (wd63 V)) (wd63 V) (wd62 V) (wd2 V) (wd64 V) (by decide) F1121 (argsL := [(.ref a883)]) (rest := []) (W := 0) rfl rfl (lenOf (pd_5) rfl) rfl rfl at_146 (pc' := 149) rfl (by decide) (by decide) (by decide) (by decide) all0 ?_
            intro T1130 h1130_ v1131 s1132 H1130 Q1133
            obtain ⟨rfl, rfl, rfl⟩ := Q1133
            show Go p e below _ (T1130.setTop (mkF m 149 #[.val (.int x0), .val (.int x1), .val (.int x2), .val (.int x3), .val (.int x4), .val (.int x0), .val (.int x3), .val (.int ((XT.ushr x4 2) &&& 3)), .val (.ref a883), .val (.ref a1115), .val (.int 0)] [(.int 1)]))
            refine G.ifNo H1130 at_149 (pc' := 152) rfl (by decide) ?_
            refine G.iconst H1130 at_152 (pc' := 153) rfl (v := 1) rfl ?_
            refine G.goto H1130 at_153 (by decide) (pc' := 157) rfl ?_
            exact G.retN H1130 (t := .boolean) rfl (by decide) at_157 (so := []) all0 (by decide) (by decide) rfl
          ·
            refine G.icmpYes H1091 at_71 (XT.ii_ne_t c1110) (by decide) (pc' := 86) rfl ?_
            refine G.new H1091 (wd0 V) (wd1 V) (wd2 V) at_86 (pc' := 89) rfl (by decide) (by decide) ?_
            intro T1134 h1134_ a1135 ga1135 H1134 E1136 A1137 D1138
            have na1135 := H1091.nle ga1135
            refine G.dup H1134 at_89 (pc' := 90) rfl rfl ?_
            refine G.iload H1134 at_90 (pc' := 92) rfl rfl ?_
            refine G.callS H1134 (m42_slot V x0 h1134_ H1134.old c898) (wd3 V) (wd4 V) (wd5 V) (wd6 V) (by decide) (argsL := [(.int x0)]) (rest := [(.ref a1135), (.ref a1135)]) (W := 2) rfl rfl (lenOf (pd_3) rfl) rfl rfl at_92 (pc' := 95) rfl (by decide) (by decide) (by decide) (by decide) all0 ?_
            intro T1139 h1139_ v1140 s1141 H1139 Q1142
            obtain ⟨rfl, rfl, rfl⟩ := Q1142
            show Go p e below _ (T1139.setTop (mkF m 95 #[.val (.int x0), .val (.int x1), .val (.int x2), .val (.int x3), .val (.int x4), .val (.int x0), .val (.int x3), .val (.int ((XT.ushr x4 2) &&& 3)), .val (.ref a883), .unset, .unset] [.null, (.ref a1135), (.ref a1135)]))
            refine G.iload H1139 at_95 (pc' := 97) rfl rfl ?_
            refine G.callS H1139 (m4_str V x3 h1134_ H1139.old) (wd10 V) (wd11 V) (wd5 V) (wd12 V) (by decide) (argsL := [(.int x3)]) (rest := [.null, (.ref a1135), (.ref a1135)]) (W := 3) rfl rfl (lenOf (pd_3) rfl) rfl rfl at_97 (pc' := 100) rfl (by decide) (by decide) (by decide) (by decide) all0 ?_
            intro T1143 h1143_ v1144 s1145 H1143 Q1146
            obtain ⟨a1147, a1148, k1149, rfl, rfl, K1150, g1151, F1152⟩ := Q1146
            have na1147 : n0 ≤ a1147 := Nat.le_trans H1139.le g1151
            show Go p e below _ (T1143.setTop (mkF m 100 #[.val (.int x0), .val (.int x1), .val (.int x2), .val (.int x3), .val (.int x4), .val (.int x0), .val (.int x3), .val (.int ((XT.ushr x4 2) &&& 3)), .val (.ref a883), .unset, .unset] [(.ref a1147), .null, (.ref a1135), (.ref a1135)]))
            have F1153 := (Exa.keep A1137 K1150)
            have F1154 : Fld Z h1134_ a1135 "com/example/schema_to_form/schematoform/record/ValuePath" "slot" "Ljava/lang/String;" .null := D1138 (Or.inr (wd51 V)) (ty := (.object "java/lang/String")) (by decide)
            have F1155 := (Fld.keep F1154 K1150 nin0)
            have F1156 : Fld Z h1134_ a1135 "com/example/schema_to_form/schematoform/record/ValuePath" "name" "Ljava/lang/String;" .null := D1138 (Or.inr (wd53 V)) (ty := (.object "java/lang/String")) (by decide)
            have F1157 := (Fld.keep F1156 K1150 nin0)
            refine G.callI H1143 (m20_init V a1135 a1147 h1143_ H1143.old F1153 F1155 na1135 F1157) rfl (wd46 V) (wd47 V) (wd2 V) (wd48 V) (by decide) (a := a1135) (argsL := [.null, (.ref a1147)]) (rest := [(.ref a1135)]) (W := 1) rfl rfl (lenOf (pd_4) rfl) rfl rfl at_100 (pc' := 103) rfl (by decide) (by decide) (by decide) (by decide) all0 ?_
            intro T1158 h1158_ v1159 s1160 H1158 Q1161
            obtain ⟨rfl, rfl, K1162, U1163, F1164, F1165, F1166⟩ := Q1161
            show Go p e below _ (T1158.setTop (mkF m 103 #[.val (.int x0), .val (.int x1), .val (.int x2), .val (.int x3), .val (.int x4), .val (.int x0), .val (.int x3), .val (.int ((XT.ushr x4 2) &&& 3)), .val (.ref a883), .unset, .unset] [(.ref a1135)]))
            refine G.astore H1158 (L' := #[.val (.int x0), .val (.int x1), .val (.int x2), .val (.int x3), .val (.int x4), .val (.int x0), .val (.int x3), .val (.int ((XT.ushr x4 2) &&& 3)), .val (.ref a883), .val (.ref a1135), .unset]) at_103 (pc' := 105) rfl rfl rfl ?_
            refine G.iloadN H1158 at_105 (pc' := 106) rfl rfl ?_
            refine G.iload H1158 at_106 (pc' := 108) rfl rfl ?_
            refine G.callS H1158 (m43_sameSlot V x0 h1158_ H1158.old c898) (wd54 V) (wd55 V) (wd5 V) (wd56 V) (by decide) (argsL := [(.int x0), (.int x0)]) (rest := []) (W := 0) rfl rfl (lenOf (pd_7) rfl) rfl rfl at_108 (pc' := 111) rfl (by decide) (by decide) (by decide) (by decide) all0 ?_
            intro T1167 h1167_ v1168 s1169 H1167 Q1170
            obtain ⟨rfl, rfl, rfl⟩ := Q1170
            show Go p e below _ (T1167.setTop (mkF m 111 #[.val (.int x0), .val (.int x1), .val (.int x2), .val (.int x3), .val (.int x4), .val (.int x0), .val (.int x3), .val (.int ((XT.ushr x4 2) &&& 3)), .val (.ref a883), .val (.ref a1135), .unset] [(.int 1)]))
            refine G.ifNo H1167 at_111 (pc' := 114) rfl (by decide) ?_
            refine G.iloadN H1167 at_114 (pc' := 115) rfl rfl ?_
            refine G.iload H1167 at_115 (pc' := 117) rfl rfl ?_
            refine G.callS H1167 (m13_sameStr V x1 x3 h1158_ H1167.old) (wd57 V) (wd58 V) (wd5 V) (wd59 V) (by decide) (argsL := [(.int x1), (.int x3)]) (rest := []) (W := 0) rfl rfl (lenOf (pd_7) rfl) rfl rfl at_117 (pc' := 120) rfl (by decide) (by decide) (by decide) (by decide) all0 ?_
            intro T1171 h1171_ v1172 s1173 H1171 Q1174
            rcases Q1174 with ⟨c1175, rfl, rfl, rfl⟩ | ⟨c1176, rfl, rfl, rfl⟩
            ·
              show Go p e below _ (T1171.setTop (mkF m 120 #[.val (.int x0), .val (.int x1), .val (.int x2), .val (.int x3), .val (.int x4), .val (.int x0), .val (.int x3), .val (.int ((XT.ushr x4 2) &&& 3)), .val (.ref a883), .val (.ref a1135), .unset] [(.int 1)]))
              refine G.ifNo H1171 at_120 (pc' := 123) rfl (by decide) ?_
              refine G.iconst H1171 at_123 (pc' := 124) rfl (v := 1) rfl ?_
              refine G.goto H1171 at_124 (by decide) (pc' := 128) rfl ?_
              refine G.istore H1171 (L' := #[.val (.int x0), .val (.int x1), .val (.int x2), .val (.int x3), .val (.int x4), .val (.int x0), .val (.int x3), .val (.int ((XT.ushr x4 2) &&& 3)), .val (.ref a883), .val (.ref a1135), .val (.int 1)]) at_128 (pc' := 130) rfl rfl ?_
              refine G.aload H1171 at_130 (pc' := 132) rfl rfl rfl ?_
              refine G.aload H1171 at_132 (pc' := 134) rfl rfl rfl ?_
              have K1177 : Keep h1091_ h1158_ [] := (Keep.trans (Keep.trans (Keep.ext (Keep.refl h1091_ []) E1136) K1150 all0) K1162 (allS (Or.inr (Nat.le_of_eq ga1135.symm)) all0))
              have F1178 := (Exa.keep F1097 K1177)
              have F1179 := (Fld.keep F1098 K1177 nin0)
              have F1180 := (Fld.keep F1099 K1177 nin0)
              have K1181 : Keep h1076_ h1091_ [a883] := (Keep.trans (Keep.refl h1076_ [a883]) K1095 (allS (Or.inl (mG (i := 0) rfl)) all0))
              have K1182 : Keep h1076_ h1158_ [a883] := (Keep.trans (Keep.trans (Keep.ext (Keep.trans (Keep.refl h1076_ [a883]) K1095 (allS (Or.inl (mG (i := 0) rfl)) all0)) E1136) K1150 all0) K1162 (allS (Or.inr (Nat.le_trans K1181.1 (Nat.le_of_eq ga1135.symm))) all0))
              have N1183 : a1080 ≠ a883 := Exa.ne F1085.1 (Exa.keep A885 K1083) (by decide)
              have N1184 : a1081 ≠ a883 := Ne.symm (Exa.neArv (Exa.keep A885 K1083) F1085.2.2.2.1 (wd1 V))
              have F1185 := (Str.keep F1085 K1182 (ninS N1183 nin0) (ninS N1184 nin0))
              have N1186 : a1147 ≠ a1135 := Exa.ne F1152.1 (Exa.keep A1137 K1150) (by decide)
              have N1187 : a1148 ≠ a1135 := Ne.symm (Exa.neArv (Exa.keep A1137 K1150) F1152.2.2.2.1 (wd1 V))
              have F1188 := (Str.keep F1152 K1162 (ninS N1186 nin0) (ninS N1187 nin0))
              refine G.callV H1171 (m32_equals V a883 a1135 a1080 a1147 a1081 k1082 (strOf x1) a1148 k1149 (strOf x3) h1158_ H1171.old F1164 F1179 F1165 F1180 F1166 F1185 F1188 c1175) (wd60 V) (wd61 V) (nf_sel (wd63 V)) (wd63 V) (wd62 V) (wd2 V) (wd64 V) (by decide) F1178 (argsL := [(.ref a1135)]) (rest := []) (W := 0) rfl rfl (lenOf (pd_5) rfl) rfl rfl at_134 (pc' := 137) rfl (by decide) (by decide) (by decide) (by decide) all0 ?_
              intro T1189 h1189_ v1190 s1191 H1189 Q1192
              obtain ⟨c1193, rfl, rfl, rfl⟩ := Q1192
              show Go p e below _ (T1189.setTop (mkF m 137 #[.val (.int x0), .val (.int x1), .val (.int x2), .val (.int x3), .val (.int x4), .val (.int x0), .val (.int x3), .val (.int ((XT.ushr x4 2) &&& 3)), .val (.ref a883), .val (.ref a1135), .val (.int 1)] [(.int 1)]))
              refine G.iload H1189 at_137 (pc' := 139) rfl rfl ?_
              refine G.icmpNo H1189 at_139 (pc' := 142) rfl (by decide) ?_
              refine G.aload H1189 at_142 (pc' := 144) rfl rfl rfl ?_
              refine G.aload H1189 at_144 (pc' := 146) rfl rfl rfl ?_
              refine G.callV H1189 (m27_equals V a883 a1080 h1158_ H1189.old F1178 F1179 F1180 F1185.1) (wd60 V) (wd61 V) (nf_sel (wd63 V)) (wd63 V) (wd62 V) (wd2 V) (wd64 V) (by decide) F1178 (argsL := [(.ref a883)]) (rest := []) (W := 0) rfl rfl (lenOf (pd_5) rfl) rfl rfl at_146 (pc' := 149) rfl (by decide) (by decide) (by decide) (by decide) all0 ?_
              intro T1194 h1194_ v1195 s1196 H1194 Q1197
              obtain ⟨rfl, rfl, rfl⟩ := Q1197
              show Go p e below _ (T1194.setTop (mkF m 149 #[.val (.int x0), .val (.int x1), .val (.int x2), .val (.int x3), .val (.int x4), .val (.int x0), .val (.int x3), .val (.int ((XT.ushr x4 2) &&& 3)), .val (.ref a883), .val (.ref a1135), .val (.int 1)] [(.int 1)]))
              refine G.ifNo H1194 at_149 (pc' := 152) rfl (by decide) ?_
              refine G.iconst H1194 at_152 (pc' := 153) rfl (v := 1) rfl ?_
              refine G.goto H1194 at_153 (by decide) (pc' := 157) rfl ?_
              exact G.retN H1194 (t := .boolean) rfl (by decide) at_157 (so := []) all0 (by decide) (by decide) rfl
            ·
              show Go p e below _ (T1171.setTop (mkF m 120 #[.val (.int x0), .val (.int x1), .val (.int x2), .val (.int x3), .val (.int x4), .val (.int x0), .val (.int x3), .val (.int ((XT.ushr x4 2) &&& 3)), .val (.ref a883), .val (.ref a1135), .unset] [(.int 0)]))
              refine G.ifYes H1171 at_120 (by decide) (by decide) (pc' := 127) rfl ?_
              refine G.iconst H1171 at_127 (pc' := 128) rfl (v := 0) rfl ?_
              refine G.istore H1171 (L' := #[.val (.int x0), .val (.int x1), .val (.int x2), .val (.int x3), .val (.int x4), .val (.int x0), .val (.int x3), .val (.int ((XT.ushr x4 2) &&& 3)), .val (.ref a883), .val (.ref a1135), .val (.int 0)]) at_128 (pc' := 130) rfl rfl ?_
              refine G.aload H1171 at_130 (pc' := 132) rfl rfl rfl ?_
              refine G.aload H1171 at_132 (pc' := 134) rfl rfl rfl ?_
              have K1198 : Keep h1091_ h1158_ [] := (Keep.trans (Keep.trans (Keep.ext (Keep.refl h1091_ []) E1136) K1150 all0) K1162 (allS (Or.inr (Nat.le_of_eq ga1135.symm)) all0))
              have F1199 := (Exa.keep F1097 K1198)
              have F1200 := (Fld.keep F1098 K1198 nin0)
              have F1201 := (Fld.keep F1099 K1198 nin0)
              have K1202 : Keep h1076_ h1091_ [a883] := (Keep.trans (Keep.refl h1076_ [a883]) K1095 (allS (Or.inl (mG (i := 0) rfl)) all0))
              have K1203 : Keep h1076_ h1158_ [a883] := (Keep.trans (Keep.trans (Keep.ext (Keep.trans (Keep.refl h1076_ [a883]) K1095 (allS (Or.inl (mG (i := 0) rfl)) all0)) E1136) K1150 all0) K1162 (allS (Or.inr (Nat.le_trans K1202.1 (Nat.le_of_eq ga1135.symm))) all0))
              have N1204 : a1080 ≠ a883 := Exa.ne F1085.1 (Exa.keep A885 K1083) (by decide)
              have N1205 : a1081 ≠ a883 := Ne.symm (Exa.neArv (Exa.keep A885 K1083) F1085.2.2.2.1 (wd1 V))
              have F1206 := (Str.keep F1085 K1203 (ninS N1204 nin0) (ninS N1205 nin0))
              have N1207 : a1147 ≠ a1135 := Exa.ne F1152.1 (Exa.keep A1137 K1150) (by decide)
              have N1208 : a1148 ≠ a1135 := Ne.symm (Exa.neArv (Exa.keep A1137 K1150) F1152.2.2.2.1 (wd1 V))
              have F1209 := (Str.keep F1152 K1162 (ninS N1207 nin0) (ninS N1208 nin0))
              refine G.callV H1171 (m33_equals V a883 a1135 a1080 a1147 a1081 k1082 (strOf x1) a1148 k1149 (strOf x3) h1158_ H1171.old F1164 F1200 F1165 F1201 F1166 F1206 F1209 c1176) (wd60 V) (wd61 V) (nf_sel (wd63 V)) (wd63 V) (wd62 V) (wd2 V) (wd64 V) (by decide) F1199 (argsL := [(.ref a1135)]) (rest := []) (W := 0) rfl rfl (lenOf (pd_5) rfl) rfl rfl at_134 (pc' := 137) rfl (by decide) (by decide) (by decide) (by decide) all0 ?_
              intro T1210 h1210_ v1211 s1212 H1210 Q1213
              obtain ⟨c1214, rfl, rfl, rfl⟩ := Q1213
              show Go p e below _ (T1210.setTop (mkF m 137 #[.val (.int x0), .val (.int x1), .val (.int x2), .val (.int x3), .val (.int x4), .val (.int x0), .val (.int x3), .val (.int ((XT.ushr x4 2) &&& 3)), .val (.ref a883), .val (.ref a1135), .val (.int 0)] [(.int 0)]))
              refine G.iload H1210 at_137 (pc' := 139) rfl rfl ?_
              refine G.icmpNo H1210 at_139 (pc' := 142) rfl (by decide) ?_
              refine G.aload H1210 at_142 (pc' := 144) rfl rfl rfl ?_
              refine G.aload H1210 at_144 (pc' := 146) rfl rfl rfl ?_
              refine G.callV H1210 (m27_equals V a883 a1080 h1158_ H1210.old F1199 F1200 F1201 F1206.1) (wd60 V) (wd61 V) (nf_sel (wd63 V)) (wd63 V) (wd62 V) (wd2 V) (wd64 V) (by decide) F1199 (argsL := [(.ref a883)]) (rest := []) (W := 0) rfl rfl (lenOf (pd_5) rfl) rfl rfl at_146 (pc' := 149) rfl (by decide) (by decide) (by decide) (by decide) all0 ?_
              intro T1215 h1215_ v1216 s1217 H1215 Q1218
              obtain ⟨rfl, rfl, rfl⟩ := Q1218
              show Go p e below _ (T1215.setTop (mkF m 149 #[.val (.int x0), .val (.int x1), .val (.int x2), .val (.int x3), .val (.int x4), .val (.int x0), .val (.int x3), .val (.int ((XT.ushr x4 2) &&& 3)), .val (.ref a883), .val (.ref a1135), .val (.int 0)] [(.int 1)]))
              refine G.ifNo H1215 at_149 (pc' := 152) rfl (by decide) ?_
              refine G.iconst H1215 at_152 (pc' := 153) rfl (v := 1) rfl ?_
              refine G.goto H1215 at_153 (by decide) (pc' := 157) rfl ?_
              exact G.retN H1215 (t := .boolean) rfl (by decide) at_157 (so := []) all0 (by decide) (by decide) rfl
    ·
      refine G.ifNo H at_18 (pc' := 21) rfl (XT.i0_eq_f c881) ?_
      refine G.iloadN H at_21 (pc' := 22) rfl rfl ?_
      refine G.goto H at_22 (by decide) (pc' := 26) rfl ?_
      refine G.istore H (L' := #[.val (.int x0), .val (.int x1), .val (.int x2), .val (.int x3), .val (.int x4), .val (.int x0), .val (.int x1), .unset, .unset, .unset, .unset]) at_26 (pc' := 28) rfl rfl ?_
      refine G.iload H at_28 (pc' := 30) rfl rfl ?_
      refine G.iconst H at_30 (pc' := 31) rfl (v := 2) rfl ?_
      refine G.iushr H at_31 (pc' := 32) rfl ?_
      refine G.iconst H at_32 (pc' := 33) rfl (v := 3) rfl ?_
      refine G.iand H at_33 (pc' := 34) rfl ?_
      refine G.istore H (L' := #[.val (.int x0), .val (.int x1), .val (.int x2), .val (.int x3), .val (.int x4), .val (.int x0), .val (.int x1), .val (.int ((XT.ushr x4 2) &&& 3)), .unset, .unset, .unset]) at_34 (pc' := 36) rfl rfl ?_
      refine G.new H (wd0 V) (wd1 V) (wd2 V) at_36 (pc' := 39) rfl (by decide) (by decide) ?_
      intro T1219 h1219_ a1220 ga1220 H1219 E1221 A1222 D1223
      have na1220 := H.nle ga1220
      refine G.dup H1219 at_39 (pc' := 40) rfl rfl ?_
      refine G.iloadN H1219 at_40 (pc' := 41) rfl rfl ?_
      refine G.callS H1219 (m5_slot V x0 h1219_ H1219.old) (wd3 V) (wd4 V) (wd5 V) (wd6 V) (by decide) (argsL := [(.int x0)]) (rest := [(.ref a1220), (.ref a1220)]) (W := 2) rfl rfl (lenOf (pd_3) rfl) rfl rfl at_41 (pc' := 44) rfl (by decide) (by decide) (by decide) (by decide) all0 ?_
      intro T1224 h1224_ v1225 s1226 H1224 Q1227
      rcases Q1227 with ⟨a1228, a1229, k1230, c1231, rfl, rfl, K1232, g1233, F1234⟩ | ⟨c1235, rfl, rfl, rfl⟩
      ·
        have na1228 : n0 ≤ a1228 := Nat.le_trans H1219.le g1233
        show Go p e below _ (T1224.setTop (mkF m 44 #[.val (.int x0), .val (.int x1), .val (.int x2), .val (.int x3), .val (.int x4), .val (.int x0), .val (.int x1), .val (.int ((XT.ushr x4 2) &&& 3)), .unset, .unset, .unset] [(.ref a1228), (.ref a1220), (.ref a1220)]))
        refine G.iloadN H1224 at_44 (pc' := 45) rfl rfl ?_
        refine G.callS H1224 (m4_str V x1 h1224_ H1224.old) (wd10 V) (wd11 V) (wd5 V) (wd12 V) (by decide) (argsL := [(.int x1)]) (rest := [(.ref a1228), (.ref a1220), (.ref a1220)]) (W := 3) rfl rfl (lenOf (pd_3) rfl) rfl rfl at_45 (pc' := 48) rfl (by decide) (by decide) (by decide) (by decide) all0 ?_
        intro T1236 h1236_ v1237 s1238 H1236 Q1239
        obtain ⟨a1240, a1241, k1242, rfl, rfl, K1243, g1244, F1245⟩ := Q1239
        have na1240 : n0 ≤ a1240 := Nat.le_trans H1224.le g1244
        show Go p e below _ (T1236.setTop (mkF m 48 #[.val (.int x0), .val (.int x1), .val (.int x2), .val (.int x3), .val (.int x4), .val (.int x0), .val (.int x1), .val (.int ((XT.ushr x4 2) &&& 3)), .unset, .unset, .unset] [(.ref a1240), (.ref a1228), (.ref a1220), (.ref a1220)]))
        have K1246 : Keep h1219_ h1236_ [] := (Keep.trans (Keep.trans (Keep.refl h1219_ []) K1232 all0) K1243 all0)
        have F1247 := (Exa.keep A1222 K1246)
        have F1248 : Fld Z h1219_ a1220 "com/example/schema_to_form/schematoform/record/ValuePath" "slot" "Ljava/lang/String;" .null := D1223 (Or.inr (wd51 V)) (ty := (.object "java/lang/String")) (by decide)
        have F1249 := (Fld.keep F1248 K1246 nin0)
        have F1250 : Fld Z h1219_ a1220 "com/example/schema_to_form/schematoform/record/ValuePath" "name" "Ljava/lang/String;" .null := D1223 (Or.inr (wd53 V)) (ty := (.object "java/lang/String")) (by decide)
        have F1251 := (Fld.keep F1250 K1246 nin0)
        refine G.callI H1236 (m6_init V a1220 a1228 a1240 h1236_ H1236.old F1247 F1249 na1220 F1251) rfl (wd46 V) (wd47 V) (wd2 V) (wd48 V) (by decide) (a := a1220) (argsL := [(.ref a1228), (.ref a1240)]) (rest := [(.ref a1220)]) (W := 1) rfl rfl (lenOf (pd_4) rfl) rfl rfl at_48 (pc' := 51) rfl (by decide) (by decide) (by decide) (by decide) all0 ?_
        intro T1252 h1252_ v1253 s1254 H1252 Q1255
        obtain ⟨rfl, rfl, K1256, U1257, F1258, F1259, F1260⟩ := Q1255
        show Go p e below _ (T1252.setTop (mkF m 51 #[.val (.int x0), .val (.int x1), .val (.int x2), .val (.int x3), .val (.int x4), .val (.int x0), .val (.int x1), .val (.int ((XT.ushr x4 2) &&& 3)), .unset, .unset, .unset] [(.ref a1220)]))
        refine G.astore H1252 (L' := #[.val (.int x0), .val (.int x1), .val (.int x2), .val (.int x3), .val (.int x4), .val (.int x0), .val (.int x1), .val (.int ((XT.ushr x4 2) &&& 3)), .val (.ref a1220), .unset, .unset]) at_51 (pc' := 53) rfl rfl rfl ?_
        refine G.iload H1252 at_53 (pc' := 55) rfl rfl ?_
        refine G.iconst H1252 at_55 (pc' := 56) rfl (v := 2) rfl ?_
        by_cases c1261 : ((XT.ushr x4 2) &&& 3) = 2
        ·
          refine G.icmpNo H1252 at_56 (pc' := 59) rfl (XT.ii_ne_f c1261) ?_
          refine G.aconstNull H1252 at_59 (pc' := 60) rfl ?_
          refine G.astore H1252 (L' := #[.val (.int x0), .val (.int x1), .val (.int x2), .val (.int x3), .val (.int x4), .val (.int x0), .val (.int x1), .val (.int ((XT.ushr x4 2) &&& 3)), .val (.ref a1220), .val .null, .unset]) at_60 (pc' := 62) rfl rfl rfl ?_
          refine G.iconst H1252 at_62 (pc' := 63) rfl (v := 0) rfl ?_
          refine G.istore H1252 (L' := #[.val (.int x0), .val (.int x1), .val (.int x2), .val (.int x3), .val (.int x4), .val (.int x0), .val (.int x1), .val (.int ((XT.ushr x4 2) &&& 3)), .val (.ref a1220), .val .null, .val (.int 0)]) at_63 (pc' := 65) rfl rfl ?_
          refine G.goto H1252 at_65 (by decide) (pc' := 130) rfl ?_
          refine G.aload H1252 at_130 (pc' := 132) rfl rfl rfl ?_
          refine G.aload H1252 at_132 (pc' := 134) rfl rfl rfl ?_
          refine G.callV H1252 (m7_equals V a1220 h1252_ H1252.old) (wd60 V) (wd61 V) (nf_sel (wd63 V)) (wd63 V) (wd62 V) (wd2 V) (wd64 V) (by decide) F1258 (argsL := [.null]) (rest := []) (W := 0) rfl rfl (lenOf (pd_5) rfl) rfl rfl at_134 (pc' := 137) rfl (by decide) (by decide) (by decide) (by decide) all0 ?_
          intro T1262 h1262_ v1263 s1264 H1262 Q1265
          obtain ⟨rfl, rfl, rfl⟩ := Q1265
          show Go p e below _ (T1262.setTop (mkF m 137 #[.val (.int x0), .val (.int x1), .val (.int x2), .val (.int x3), .val (.int x4), .val (.int x0), .val (.int x1), .val (.int ((XT.ushr x4 2) &&& 3)), .val (.ref a1220), .val .null, .val (.int 0)] [(.int 0)]))
          refine G.iload H1262 at_137 (pc' := 139) rfl rfl ?_
          refine G.icmpNo H1262 at_139 (pc' := 142) rfl (by decide) ?_
          refine G.aload H1262 at_142 (pc' := 144) rfl rfl rfl ?_
          refine G.aload H1262 at_144 (pc' := 146) rfl rfl rfl ?_
          have F1266 := (Exa.keep F1245.1 K1256)
          refine G.callV H1262 (m10_equals V a1220 a1228 a1240 h1252_ H1262.old F1258 F1259 F1260 F1266) (wd60 V) (wd61 V) (nf_sel (wd63 V)) (wd63 V) (wd62 V) (wd2 V) (wd64 V) (by decide) F1258 (argsL := [(.ref a1220)]) (rest := []) (W := 0) rfl rfl (lenOf (pd_5) rfl) rfl rfl at_146 (pc' := 149) rfl (by decide) (by decide) (by decide) (by decide) all0 ?_
          intro T1267 h1267_ v1268 s1269 H1267 Q1270
          obtain ⟨rfl, rfl, rfl⟩ := Q1270
          show Go p e below _ (T1267.setTop (mkF m 149 #[.val (.int x0), .val (.int x1), .val (.int x2), .val (.int x3), .val (.int x4), .val (.int x0), .val (.int x1), .val (.int ((XT.ushr x4 2) &&& 3)), .val (.ref a1220), .val .null, .val (.int 0)] [(.int 1)]))
          refine G.ifNo H1267 at_149 (pc' := 152) rfl (by decide) ?_
          refine G.iconst H1267 at_152 (pc' := 153) rfl (v := 1) rfl ?_
          refine G.goto H1267 at_153 (by decide) (pc' := 157) rfl ?_
          exact G.retN H1267 (t := .boolean) rfl (by decide) at_157 (so := []) all0 (by decide) (by decide) rfl
        ·
          refine G.icmpYes H1252 at_56 (XT.ii_ne_t c1261) (by decide) (pc' := 68) rfl ?_
          refine G.iload H1252 at_68 (pc' := 70) rfl rfl ?_
          refine G.iconst H1252 at_70 (pc' := 71) rfl (v := 3) rfl ?_
          by_cases c1271 : ((XT.ushr x4 2) &&& 3) = 3
          ·
            refine G.icmpNo H1252 at_71 (pc' := 74) rfl (XT.ii_ne_f c1271) ?_
            refine G.iloadN H1252 at_74 (pc' := 75) rfl rfl ?_
            refine G.callS H1252 (m4_str V x1 h1252_ H1252.old) (wd10 V) (wd11 V) (wd5 V) (wd12 V) (by decide) (argsL := [(.int x1)]) (rest := []) (W := 0) rfl rfl (lenOf (pd_3) rfl) rfl rfl at_75 (pc' := 78) rfl (by decide) (by decide) (by decide) (by decide) all0 ?_
            intro T1272 h1272_ v1273 s1274 H1272 Q1275
            obtain ⟨a1276, a1277, k1278, rfl, rfl, K1279, g1280, F1281⟩ := Q1275
            have na1276 : n0 ≤ a1276 := Nat.le_trans H1252.le g1280
            show Go p e below _ (T1272.setTop (mkF m 78 #[.val (.int x0), .val (.int x1), .val (.int x2), .val (.int x3), .val (.int x4), .val (.int x0), .val (.int x1), .val (.int ((XT.ushr x4 2) &&& 3)), .val (.ref a1220), .unset, .unset] [(.ref a1276)]))
            refine G.astore H1272 (L' := #[.val (.int x0), .val (.int x1), .val (.int x2), .val (.int x3), .val (.int x4), .val (.int x0), .val (.int x1), .val (.int ((XT.ushr x4 2) &&& 3)), .val (.ref a1220), .val (.ref a1276), .unset]) at_78 (pc' := 80) rfl rfl rfl ?_
            refine G.iconst H1272 at_80 (pc' := 81) rfl (v := 0) rfl ?_
            refine G.istore H1272 (L' := #[.val (.int x0), .val (.int x1), .val (.int x2), .val (.int x3), .val (.int x4), .val (.int x0), .val (.int x1), .val (.int ((XT.ushr x4 2) &&& 3)), .val (.ref a1220), .val (.ref a1276), .val (.int 0)]) at_81 (pc' := 83) rfl rfl ?_
            refine G.goto H1272 at_83 (by decide) (pc' := 130) rfl ?_
            refine G.aload H1272 at_130 (pc' := 132) rfl rfl rfl ?_
            refine G.aload H1272 at_132 (pc' := 134) rfl rfl rfl ?_
            have F1282 := (Exa.keep F1258 K1279)
            refine G.callV H1272 (m11_equals V a1220 a1276 h1272_ H1272.old F1281.1) (wd60 V) (wd61 V) (nf_sel (wd63 V)) (wd63 V) (wd62 V) (wd2 V) (wd64 V) (by decide) F1282 (argsL := [(.ref a1276)]) (rest := []) (W := 0) rfl rfl (lenOf (pd_5) rfl) rfl rfl at_134 (pc' := 137) rfl (by decide) (by decide) (by decide) (by decide) all0 ?_
            intro T1283 h1283_ v1284 s1285 H1283 Q1286
            obtain ⟨rfl, rfl, rfl⟩ := Q1286
            show Go p e below _ (T1283.setTop (mkF m 137 #[.val (.int x0), .val (.int x1), .val (.int x2), .val (.int x3), .val (.int x4), .val (.int x0), .val (.int x1), .val (.int ((XT.ushr x4 2) &&& 3)), .val (.ref a1220), .val (.ref a1276), .val (.int 0)] [(.int 0)]))
            refine G.iload H1283 at_137 (pc' := 139) rfl rfl ?_
            refine G.icmpNo H1283 at_139 (pc' := 142) rfl (by decide) ?_
            refine G.aload H1283 at_142 (pc' := 144) rfl rfl rfl ?_
            refine G.aload H1283 at_144 (pc' := 146) rfl rfl rfl ?_
            have F1287 := (Fld.keep F1259 K1279 nin0)
            have F1288 := (Fld.keep F1260 K1279 nin0)
            have K1289 : Keep h1236_ h1272_ [a1220] := (Keep.trans (Keep.trans (Keep.refl h1236_ [a1220]) K1256 (allS (Or.inl (mG (i := 0) rfl)) all0)) K1279 all0)
            have F1290 := (Exa.keep F1245.1 K1289)
            refine G.callV H1283 (m10_equals V a1220 a1228 a1240 h1272_ H1283.old F1282 F1287 F1288 F1290) (wd60 V) (wd61 V) (nf_sel (wd63 V)) (wd63 V) (wd62 V) (wd2 V) (wd64 V) (by decide) F1282 (argsL := [(.ref a1220)]) (rest := []) (W := 0) rfl rfl (lenOf (pd_5) rfl) rfl rfl at_146 (pc' := 149) rfl (by decide) (by decide) (by decide) (by decide) all0 ?_
            intro T1291 h1291_ v1292 s1293 H1291 Q1294
            obtain ⟨rfl, rfl, rfl⟩ := Q1294
            show Go p e below _ (T1291.setTop (mkF m 149 #[.val (.int x0), .val (.int x1), .val (.int x2), .val (.int x3), .val (.int x4), .val (.int x0), .val (.int x1), .val (.int ((XT.ushr x4 2) &&& 3)), .val (.ref a1220), .val (.ref a1276), .val (.int 0)] [(.int 1)]))
            refine G.ifNo H1291 at_149 (pc' := 152) rfl (by decide) ?_
            refine G.iconst H1291 at_152 (pc' := 153) rfl (v := 1) rfl ?_
            refine G.goto H1291 at_153 (by decide) (pc' := 157) rfl ?_
            exact G.retN H1291 (t := .boolean) rfl (by decide) at_157 (so := []) all0 (by decide) (by decide) rfl
          ·
            refine G.icmpYes H1252 at_71 (XT.ii_ne_t c1271) (by decide) (pc' := 86) rfl ?_
            refine G.new H1252 (wd0 V) (wd1 V) (wd2 V) at_86 (pc' := 89) rfl (by decide) (by decide) ?_
            intro T1295 h1295_ a1296 ga1296 H1295 E1297 A1298 D1299
            have na1296 := H1252.nle ga1296
            refine G.dup H1295 at_89 (pc' := 90) rfl rfl ?_
            refine G.iload H1295 at_90 (pc' := 92) rfl rfl ?_
            refine G.callS H1295 (m37_slot V x0 h1295_ H1295.old c1231) (wd3 V) (wd4 V) (wd5 V) (wd6 V) (by decide) (argsL := [(.int x0)]) (rest := [(.ref a1296), (.ref a1296)]) (W := 2) rfl rfl (lenOf (pd_3) rfl) rfl rfl at_92 (pc' := 95) rfl (by decide) (by decide) (by decide) (by decide) all0 ?_
            intro T1300 h1300_ v1301 s1302 H1300 Q1303
            obtain ⟨a1304, a1305, k1306, rfl, rfl, K1307, g1308, F1309⟩ := Q1303
            have na1304 : n0 ≤ a1304 := Nat.le_trans H1295.le g1308
            show Go p e below _ (T1300.setTop (mkF m 95 #[.val (.int x0), .val (.int x1), .val (.int x2), .val (.int x3), .val (.int x4), .val (.int x0), .val (.int x1), .val (.int ((XT.ushr x4 2) &&& 3)), .val (.ref a1220), .unset, .unset] [(.ref a1304), (.ref a1296), (.ref a1296)]))
            refine G.iload H1300 at_95 (pc' := 97) rfl rfl ?_
            refine G.callS H1300 (m4_str V x1 h1300_ H1300.old) (wd10 V) (wd11 V) (wd5 V) (wd12 V) (by decide) (argsL := [(.int x1)]) (rest := [(.ref a1304), (.ref a1296), (.ref a1296)]) (W := 3) rfl rfl (lenOf (pd_3) rfl) rfl rfl at_97 (pc' := 100) rfl (by decide) (by decide) (by decide) (by decide) all0 ?_
            intro T1310 h1310_ v1311 s1312 H1310 Q1313
            obtain ⟨a1314, a1315, k1316, rfl, rfl, K1317, g1318, F1319⟩ := Q1313
            have na1314 : n0 ≤ a1314 := Nat.le_trans H1300.le g1318
            show Go p e below _ (T1310.setTop (mkF m 100 #[.val (.int x0), .val (.int x1), .val (.int x2), .val (.int x3), .val (.int x4), .val (.int x0), .val (.int x1), .val (.int ((XT.ushr x4 2) &&& 3)), .val (.ref a1220), .unset, .unset] [(.ref a1314), (.ref a1304), (.ref a1296), (.ref a1296)]))
            have K1320 : Keep h1295_ h1310_ [] := (Keep.trans (Keep.trans (Keep.refl h1295_ []) K1307 all0) K1317 all0)
            have F1321 := (Exa.keep A1298 K1320)
            have F1322 : Fld Z h1295_ a1296 "com/example/schema_to_form/schematoform/record/ValuePath" "slot" "Ljava/lang/String;" .null := D1299 (Or.inr (wd51 V)) (ty := (.object "java/lang/String")) (by decide)
            have F1323 := (Fld.keep F1322 K1320 nin0)
            have F1324 : Fld Z h1295_ a1296 "com/example/schema_to_form/schematoform/record/ValuePath" "name" "Ljava/lang/String;" .null := D1299 (Or.inr (wd53 V)) (ty := (.object "java/lang/String")) (by decide)
            have F1325 := (Fld.keep F1324 K1320 nin0)
            refine G.callI H1310 (m6_init V a1296 a1304 a1314 h1310_ H1310.old F1321 F1323 na1296 F1325) rfl (wd46 V) (wd47 V) (wd2 V) (wd48 V) (by decide) (a := a1296) (argsL := [(.ref a1304), (.ref a1314)]) (rest := [(.ref a1296)]) (W := 1) rfl rfl (lenOf (pd_4) rfl) rfl rfl at_100 (pc' := 103) rfl (by decide) (by decide) (by decide) (by decide) all0 ?_
            intro T1326 h1326_ v1327 s1328 H1326 Q1329
            obtain ⟨rfl, rfl, K1330, U1331, F1332, F1333, F1334⟩ := Q1329
            show Go p e below _ (T1326.setTop (mkF m 103 #[.val (.int x0), .val (.int x1), .val (.int x2), .val (.int x3), .val (.int x4), .val (.int x0), .val (.int x1), .val (.int ((XT.ushr x4 2) &&& 3)), .val (.ref a1220), .unset, .unset] [(.ref a1296)]))
            refine G.astore H1326 (L' := #[.val (.int x0), .val (.int x1), .val (.int x2), .val (.int x3), .val (.int x4), .val (.int x0), .val (.int x1), .val (.int ((XT.ushr x4 2) &&& 3)), .val (.ref a1220), .val (.ref a1296), .unset]) at_103 (pc' := 105) rfl rfl rfl ?_
            refine G.iloadN H1326 at_105 (pc' := 106) rfl rfl ?_
            refine G.iload H1326 at_106 (pc' := 108) rfl rfl ?_
            refine G.callS H1326 (m38_sameSlot V x0 h1326_ H1326.old c1231) (wd54 V) (wd55 V) (wd5 V) (wd56 V) (by decide) (argsL := [(.int x0), (.int x0)]) (rest := []) (W := 0) rfl rfl (lenOf (pd_7) rfl) rfl rfl at_108 (pc' := 111) rfl (by decide) (by decide) (by decide) (by decide) all0 ?_
            intro T1335 h1335_ v1336 s1337 H1335 Q1338
            obtain ⟨rfl, rfl, rfl⟩ := Q1338
            show Go p e below _ (T1335.setTop (mkF m 111 #[.val (.int x0), .val (.int x1), .val (.int x2), .val (.int x3), .val (.int x4), .val (.int x0), .val (.int x1), .val (.int ((XT.ushr x4 2) &&& 3)), .val (.ref a1220), .val (.ref a1296), .unset] [(.int 1)]))
            refine G.ifNo H1335 at_111 (pc' := 114) rfl (by decide) ?_
            refine G.iloadN H1335 at_114 (pc' := 115) rfl rfl ?_
            refine G.iload H1335 at_115 (pc' := 117) rfl rfl ?_
            refine G.callS H1335 (m34_sameStr V x1 h1326_ H1335.old) (wd57 V) (wd58 V) (wd5 V) (wd59 V) (by decide) (argsL := [(.int x1), (.int x1)]) (rest := []) (W := 0) rfl rfl (lenOf (pd_7) rfl) rfl rfl at_117 (pc' := 120) rfl (by decide) (by decide) (by decide) (by decide) all0 ?_
            intro T1339 h1339_ v1340 s1341 H1339 Q1342
            obtain ⟨rfl, rfl, rfl⟩ := Q1342
            show Go p e below _ (T1339.setTop (mkF m 120 #[.val (.int x0), .val (.int x1), .val (.int x2), .val (.int x3), .val (.int x4), .val (.int x0), .val (.int x1), .val (.int ((XT.ushr x4 2) &&& 3)), .val (.ref a1220), .val (.ref a1296), .unset] [(.int 1)]))
            refine G.ifNo H1339 at_120 (pc' := 123) rfl (by decide) ?_
            refine G.iconst H1339 at_123 (pc' := 124) rfl (v := 1) rfl ?_
            refine G.goto H1339 at_124 (by decide) (pc' := 128) rfl ?_
            refine G.istore H1339 (L' := #[.val (.int x0), .val (.int x1), .val (.int x2), .val (.int x3), .val (.int x4), .val (.int x0), .val (.int x1), .val (.int ((XT.ushr x4 2) &&& 3)), .val (.ref a1220), .val (.ref a1296), .val (.int 1)]) at_128 (pc' := 130) rfl rfl ?_
            refine G.aload H1339 at_130 (pc' := 132) rfl rfl rfl ?_
            refine G.aload H1339 at_132 (pc' := 134) rfl rfl rfl ?_
            have K1343 : Keep h1252_ h1326_ [] := (Keep.trans (Keep.trans (Keep.trans (Keep.ext (Keep.refl h1252_ []) E1297) K1307 all0) K1317 all0) K1330 (allS (Or.inr (Nat.le_of_eq ga1296.symm)) all0))
            have F1344 := (Exa.keep F1258 K1343)
            have F1345 := (Fld.keep F1259 K1343 nin0)
            have K1346 : Keep h1224_ h1295_ [a1220] := (Keep.ext (Keep.trans (Keep.trans (Keep.refl h1224_ [a1220]) K1243 all0) K1256 (allS (Or.inl (mG (i := 0) rfl)) all0)) E1297)
            have N1347 : a1228 ≠ a1304 := (Nat.ne_of_lt (Nat.lt_of_lt_of_le (Nat.lt_of_lt_of_le F1234.1.lt K1346.1) g1308))
            have K1348 : Keep h1224_ h1252_ [a1220] := (Keep.trans (Keep.trans (Keep.refl h1224_ [a1220]) K1243 all0) K1256 (allS (Or.inl (mG (i := 0) rfl)) all0))
            have K1349 : Keep h1224_ h1326_ [a1220] := (Keep.trans (Keep.trans (Keep.trans (Keep.ext (Keep.trans (Keep.trans (Keep.refl h1224_ [a1220]) K1243 all0) K1256 (allS (Or.inl (mG (i := 0) rfl)) all0)) E1297) K1307 all0) K1317 all0) K1330 (allS (Or.inr (Nat.le_trans K1348.1 (Nat.le_of_eq ga1296.symm))) all0))
            have F1350 := (Exa.keep F1234.1 K1349)
            have N1351 : a1228 ≠ a1220 := Exa.ne F1350 F1344 (by decide)
            have N1352 : a1229 ≠ a1220 := Ne.symm (Exa.neArv (Exa.keep A1222 K1232) F1234.2.2.2.1 (wd1 V))
            have F1353 := (Str.keep F1234 K1349 (ninS N1351 nin0) (ninS N1352 nin0))
            have K1354 : Keep h1300_ h1326_ [a1296] := (Keep.trans (Keep.trans (Keep.refl h1300_ [a1296]) K1317 all0) K1330 (allS (Or.inl (mG (i := 0) rfl)) all0))
            have N1355 : a1304 ≠ a1296 := Exa.ne F1309.1 (Exa.keep A1298 K1307) (by decide)
            have N1356 : a1305 ≠ a1296 := Ne.symm (Exa.neArv (Exa.keep A1298 K1307) F1309.2.2.2.1 (wd1 V))
            have F1357 := (Str.keep F1309 K1354 (ninS N1355 nin0) (ninS N1356 nin0))
            have F1358 := (Fld.keep F1260 K1343 nin0)
            have K1359 : Keep h1236_ h1252_ [a1220] := (Keep.trans (Keep.refl h1236_ [a1220]) K1256 (allS (Or.inl (mG (i := 0) rfl)) all0))
            have K1360 : Keep h1236_ h1326_ [a1220] := (Keep.trans (Keep.trans (Keep.trans (Keep.ext (Keep.trans (Keep.refl h1236_ [a1220]) K1256 (allS (Or.inl (mG (i := 0) rfl)) all0)) E1297) K1307 all0) K1317 all0) K1330 (allS (Or.inr (Nat.le_trans K1359.1 (Nat.le_of_eq ga1296.symm))) all0))
            have N1361 : a1240 ≠ a1220 := Exa.ne F1245.1 (Exa.keep (Exa.keep A1222 K1232) K1243) (by decide)
            have N1362 : a1241 ≠ a1220 := Ne.symm (Exa.neArv (Exa.keep (Exa.keep A1222 K1232) K1243) F1245.2.2.2.1 (wd1 V))
            have F1363 := (Str.keep F1245 K1360 (ninS N1361 nin0) (ninS N1362 nin0))
            have N1364 : a1314 ≠ a1296 := Exa.ne F1319.1 (Exa.keep (Exa.keep A1298 K1307) K1317) (by decide)
            have N1365 : a1315 ≠ a1296 := Ne.symm (Exa.neArv (Exa.keep (Exa.keep A1298 K1307) K1317) F1319.2.2.2.1 (wd1 V))
            have F1366 := (Str.keep F1319 K1330 (ninS N1364 nin0) (ninS N1365 nin0))
            refine G.callV H1339 (m44_equals V a1220 a1296 a1228 a1304 a1229 k1230 (strOf x0) a1305 k1306 a1240 a1314 a1241 k1242 (strOf x1) a1315 k1316 h1326_ H1339.old F1332 F1345 F1333 N1347 F1350 F1353 F1357 F1358 F1334 F1363 F1366) (wd60 V) (wd61 V) (nf_sel (wd63 V)) (wd63 V) (wd62 V) (wd2 V) (wd64 V) (by decide) F1344 (argsL := [(.ref a1296)]) (rest := []) (W := 0) rfl rfl (lenOf (pd_5) rfl) rfl rfl at_134 (pc' := 137) rfl (by decide) (by decide) (by decide) (by decide) all0 ?_
            intro T1367 h1367_ v1368 s1369 H1367 Q1370
            rcases Q1370 with ⟨c1371, c1372, rfl, rfl, rfl⟩ | ⟨c1373, c1374, rfl, rfl, rfl⟩
            ·
              show Go p e below _ (T1367.setTop (mkF m 137 #[.val (.int x0), .val (.int x1), .val (.int x2), .val (.int x3), .val (.int x4), .val (.int x0), .val (.int x1), .val (.int ((XT.ushr x4 2) &&& 3)), .val (.ref a1220), .val (.ref a1296), .val (.int 1)] [(.int 1)]))
              refine G.iload H1367 at_137 (pc' := 139) rfl rfl ?_
              refine G.icmpNo H1367 at_139 (pc' := 142) rfl (by decide) ?_
              refine G.aload H1367 at_142 (pc' := 144) rfl rfl rfl ?_
              refine G.aload H1367 at_144 (pc' := 146) rfl rfl rfl ?_
              refine G.callV H1367 (m10_equals V a1220 a1228 a1240 h1326_ H1367.old F1344 F1345 F1358 F1363.1) (wd60 V) (wd61 V) (nf_sel (wd63 V)) (wd63 V) (wd62 V) (wd2 V) (wd64 V) (by decide) F1344 (argsL := [(.ref a1220)]) (rest := []) (W := 0) rfl rfl (lenOf (pd_5) rfl) rfl rfl at_146 (pc' := 149) rfl (by decide) (by decide) (by decide) (by decide) all0 ?_
              intro T1375 h1375_ v1376 s1377 H1375 Q1378
              obtain ⟨rfl, rfl, rfl⟩ := Q1378
              show Go p e below _ (T1375.setTop (mkF m 149 #[.val (.int x0), .val (.int x1), .val (.int x2), .val (.int x3), .val (.int x4), .val (.int x0), .val (.int x1), .val (.int ((XT.ushr x4 2) &&& 3)), .val (.ref a1220), .val (.ref a1296), .val (.int 1)] [(.int 1)]))
              refine G.ifNo H1375 at_149 (pc' := 152) rfl (by decide) ?_
              refine G.iconst H1375 at_152 (pc' := 153) rfl (v := 1) rfl ?_
              refine G.goto H1375 at_153 (by decide) (pc' := 157) rfl ?_
              exact G.retN H1375 (t := .boolean) rfl (by decide) at_157 (so := []) all0 (by decide) (by decide) rfl
            ·
              exact absurd rfl c1374
      ·
        show Go p e below _ (T1224.setTop (mkF m 44 #[.val (.int x0), .val (.int x1), .val (.int x2), .val (.int x3), .val (.int x4), .val (.int x0), .val (.int x1), .val (.int ((XT.ushr x4 2) &&& 3)), .unset, .unset, .unset] [.null, (.ref a1220), (.ref a1220)]))
        refine G.iloadN H1224 at_44 (pc' := 45) rfl rfl ?_
        refine G.callS H1224 (m4_str V x1 h1219_ H1224.old) (wd10 V) (wd11 V) (wd5 V) (wd12 V) (by decide) (argsL := [(.int x1)]) (rest := [.null, (.ref a1220), (.ref a1220)]) (W := 3) rfl rfl (lenOf (pd_3) rfl) rfl rfl at_45 (pc' := 48) rfl (by decide) (by decide) (by decide) (by decide) all0 ?_
        intro T1379 h1379_ v1380 s1381 H1379 Q1382
        obtain ⟨a1383, a1384, k1385, rfl, rfl, K1386, g1387, F1388⟩ := Q1382
        have na1383 : n0 ≤ a1383 := Nat.le_trans H1224.le g1387
        show Go p e below _ (T1379.setTop (mkF m 48 #[.val (.int x0), .val (.int x1), .val (.int x2), .val (.int x3), .val (.int x4), .val (.int x0), .val (.int x1), .val (.int ((XT.ushr x4 2) &&& 3)), .unset, .unset, .unset] [(.ref a1383), .null, (.ref a1220), (.ref a1220)]))
        have F1389 := (Exa.keep A1222 K1386)
        have F1390 : Fld Z h1219_ a1220 "com/example/schema_to_form/schematoform/record/ValuePath" "slot" "Ljava/lang/String;" .null := D1223 (Or.inr (wd51 V)) (ty := (.object "java/lang/String")) (by decide)
        have F1391 := (Fld.keep F1390 K1386 nin0)
        have F1392 : Fld Z h1219_ a1220 "com/example/schema_to_form/schematoform/record/ValuePath" "name" "Ljava/lang/String;" .null := D1223 (Or.inr (wd53 V)) (ty := (.object "java/lang/String")) (by decide)
        have F1393 := (Fld.keep F1392 K1386 nin0)
        refine G.callI H1379 (m20_init V a1220 a1383 h1379_ H1379.old F1389 F1391 na1220 F1393) rfl (wd46 V) (wd47 V) (wd2 V) (wd48 V) (by decide) (a := a1220) (argsL := [.null, (.ref a1383)]) (rest := [(.ref a1220)]) (W := 1) rfl rfl (lenOf (pd_4) rfl) rfl rfl at_48 (pc' := 51) rfl (by decide) (by decide) (by decide) (by decide) all0 ?_
        intro T1394 h1394_ v1395 s1396 H1394 Q1397
        obtain ⟨rfl, rfl, K1398, U1399, F1400, F1401, F1402⟩ := Q1397
        show Go p e below _ (T1394.setTop (mkF m 51 #[.val (.int x0), .val (.int x1), .val (.int x2), .val (.int x3), .val (.int x4), .val (.int x0), .val (.int x1), .val (.int ((XT.ushr x4 2) &&& 3)), .unset, .unset, .unset] [(.ref a1220)]))
        refine G.astore H1394 (L' := #[.val (.int x0), .val (.int x1), .val (.int x2), .val (.int x3), .val (.int x4), .val (.int x0), .val (.int x1), .val (.int ((XT.ushr x4 2) &&& 3)), .val (.ref a1220), .unset, .unset]) at_51 (pc' := 53) rfl rfl rfl ?_
        refine G.iload H1394 at_53 (pc' := 55) rfl rfl ?_
        refine G.iconst H1394 at_55 (pc' := 56) rfl (v := 2) rfl ?_
        by_cases c1403 : ((XT.ushr x4 2) &&& 3) = 2
        ·
          refine G.icmpNo H1394 at_56 (pc' := 59) rfl (XT.ii_ne_f c1403) ?_
          refine G.aconstNull H1394 at_59 (pc' := 60) rfl ?_
          refine G.astore H1394 (L' := #[.val (.int x0), .val (.int x1), .val (.int x2), .val (.int x3), .val (.int x4), .val (.int x0), .val (.int x1), .val (.int ((XT.ushr x4 2) &&& 3)), .val (.ref a1220), .val .null, .unset]) at_60 (pc' := 62) rfl rfl rfl ?_
          refine G.iconst H1394 at_62 (pc' := 63) rfl (v := 0) rfl ?_
          refine G.istore H1394 (L' := #[.val (.int x0), .val (.int x1), .val (.int x2), .val (.int x3), .val (.int x4), .val (.int x0), .val (.int x1), .val (.int ((XT.ushr x4 2) &&& 3)), .val (.ref a1220), .val .null, .val (.int 0)]) at_63 (pc' := 65) rfl rfl ?_
          refine G.goto H1394 at_65 (by decide) (pc' := 130) rfl ?_
          refine G.aload H1394 at_130 (pc' := 132) rfl rfl rfl ?_
          refine G.aload H1394 at_132 (pc' := 134) rfl rfl rfl ?_
          refine G.callV H1394 (m7_equals V a1220 h1394_ H1394.old) (wd60 V) (wd61 V) (nf_sel (wd63 V)) (wd63 V) (wd62 V) (wd2 V) (wd64 V) (by decide) F1400 (argsL := [.null]) (rest := []) (W := 0) rfl rfl (lenOf (pd_5) rfl) rfl rfl at_134 (pc' := 137) rfl (by decide) (by decide) (by decide) (by decide) all0 ?_
          intro T1404 h1404_ v1405 s1406 H1404 Q1407
          obtain ⟨rfl, rfl, rfl⟩ := Q1407
          show Go p e below _ (T1404.setTop (mkF m 137 #[.val (.int x0), .val (.int x1), .val (.int x2), .val (.int x3), .val (.int x4), .val (.int x0), .val (.int x1), .val (.int ((XT.ushr x4 2) &&& 3)), .val (.ref a1220), .val .null, .val (.int 0)] [(.int 0)]))
          refine G.iload H1404 at_137 (pc' := 139) rfl rfl ?_
          refine G.icmpNo H1404 at_139 (pc' := 142) rfl (by decide) ?_
          refine G.aload H1404 at_142 (pc' := 144) rfl rfl rfl ?_
          refine G.aload H1404 at_144 (pc' := 146) rfl rfl rfl ?_
          have F1408 := (Exa.keep F1388.1 K1398)
          refine G.callV H1404 (m27_equals V a1220 a1383 h1394_ H1404.old F1400 F1401 F1402 F1408) (wd60 V) (wd61 V) (nf_sel (wd63 V)) (wd63 V) (wd62 V) (wd2 V) (wd64 V) (by decide) F1400 (argsL := [(.ref a1220)]) (rest := []) (W := 0) rfl rfl (lenOf (pd_5) rfl) rfl rfl at_146 (pc' := 149) rfl (by decide) (by decide) (by decide) (by decide) all0 ?_
          intro T1409 h1409_ v1410 s1411 H1409 Q1412
          obtain ⟨rfl, rfl, rfl⟩ := Q1412
          show Go p e below _ (T1409.setTop (mkF m 149 #[.val (.int x0), .val (.int x1), .val (.int x2), .val (.int x3), .val (.int x4), .val (.int x0), .val (.int x1), .val (.int ((XT.ushr x4 2) &&& 3)), .val (.ref a1220), .val .null, .val (.int 0)] [(.int 1)]))
          refine G.ifNo H1409 at_149 (pc' := 152) rfl (by decide) ?_
          refine G.iconst H1409 at_152 (pc' := 153) rfl (v := 1) rfl ?_
          refine G.goto H1409 at_153 (by decide) (pc' := 157) rfl ?_
          exact G.retN H1409 (t := .boolean) rfl (by decide) at_157 (so := []) all0 (by decide) (by decide) rfl
        ·
          refine G.icmpYes H1394 at_56 (XT.ii_ne_t c1403) (by decide) (pc' := 68) rfl ?_
          refine G.iload H1394 at_68 (pc' := 70) rfl rfl ?_
          refine G.iconst H1394 at_70 (pc' := 71) rfl (v := 3) rfl ?_
          by_cases c1413 : ((XT.ushr x4 2) &&& 3) = 3
          ·
            refine G.icmpNo H1394 at_71 (pc' := 74) rfl (XT.ii_ne_f c1413) ?_
            refine G.iloadN H1394 at_74 (pc' := 75) rfl rfl ?_
            refine G.callS H1394 (m4_str V x1 h1394_ H1394.old) (wd10 V) (wd11 V) (wd5 V) (wd12 V) (by decide) (argsL := [(.int x1)]) (rest := []) (W := 0) rfl rfl (lenOf (pd_3) rfl) rfl rfl at_75 (pc' := 78) rfl (by decide) (by decide) (by decide) (by decide) all0 ?_
            intro T1414 h1414_ v1415 s1416 H1414 Q1417
            obtain ⟨a1418, a1419, k1420, rfl, rfl, K1421, g1422, F1423⟩ := Q1417
            have na1418 : n0 ≤ a1418 := Nat.le_trans H1394.le g1422
            show Go p e below _ (T1414.setTop (mkF m 78 #[.val (.int x0), .val (.int x1), .val (.int x2), .val (.int x3), .val (.int x4), .val (.int x0), .val (.int x1), .val (.int ((XT.ushr x4 2) &&& 3)), .val (.ref a1220), .unset, .unset] [(.ref a1418)]))
            refine G.astore H1414 (L' := #[.val (.int x0), .val (.int x1), .val (.int x2), .val (.int x3), .val (.int x4), .val (.int x0), .val (.int x1), .val (.int ((XT.ushr x4 2) &&& 3)), .val (.ref a1220), .val (.ref a1418), .unset]) at_78 (pc' := 80) rfl rfl rfl ?_
            refine G.iconst H1414 at_80 (pc' := 81) rfl (v := 0) rfl ?_
            refine G.istore H1414 (L' := #[.val (.int x0), .val (.int x1), .val (.int x2), .val (.int x3), .val (.int x4), .val (.int x0), .val (.int x1), .val (.int ((XT.ushr x4 2) &&& 3)), .val (.ref a1220), .val (.ref a1418), .val (.int 0)]) at_81 (pc' := 83) rfl rfl ?_
            refine G.goto H1414 at_83 (by decide) (pc' := 130) rfl ?_
            refine G.aload H1414 at_130 (pc' := 132) rfl rfl rfl ?_
            refine G.aload H1414 at_132 (pc' := 134) rfl rfl rfl ?_
            have F1424 := (Exa.keep F1400 K1421)
            refine G.callV H1414 (m11_equals V a1220 a1418 h1414_ H1414.old F1423.1) (wd60 V) (wd61 V) (nf_sel (wd63 V)) (wd63 V) (wd62 V) (wd2 V) (wd64 V) (by decide) F1424 (argsL := [(.ref a1418)]) (rest := []) (W := 0) rfl rfl (lenOf (pd_5) rfl) rfl rfl at_134 (pc' := 137) rfl (by decide) (by decide) (by decide) (by decide) all0 ?_
            intro T1425 h1425_ v1426 s1427 H1425 Q1428
            obtain ⟨rfl, rfl, rfl⟩ := Q1428
            show Go p e below _ (T1425.setTop (mkF m 137 #[.val (.int x0), .val (.int x1), .val (.int x2), .val (.int x3), .val (.int x4), .val (.int x0), .val (.int x1), .val (.int ((XT.ushr x4 2) &&& 3)), .val (.ref a1220), .val (.ref a1418), .val (.int 0)] [(.int 0)]))
            refine G.iload H1425 at_137 (pc' := 139) rfl rfl ?_
            refine G.icmpNo H1425 at_139 (pc' := 142) rfl (by decide) ?_
            refine G.aload H1425 at_142 (pc' := 144) rfl rfl rfl ?_
            refine G.aload H1425 at_144 (pc' := 146) rfl rfl rfl ?_
            have F1429 := (Fld.keep F1401 K1421 nin0)
            have F1430 := (Fld.keep F1402 K1421 nin0)
            have K1431 : Keep h1379_ h1414_ [a1220] := (Keep.trans (Keep.trans (Keep.refl h1379_ [a1220]) K1398 (allS (Or.inl (mG (i := 0) rfl)) all0)) K1421 all0)
            have F1432 := (Exa.keep F1388.1 K1431)
            refine G.callV H1425 (m27_equals V a1220 a1383 h1414_ H1425.old F1424 F1429 F1430 F1432) (wd60 V) (wd61 V) (nf_sel (wd63 V)) (wd63 V) (wd62 V) (wd2 V) (wd64 V) (by decide) F1424 (argsL := [(.ref a1220)]) (rest := []) (W := 0) rfl rfl (lenOf (pd_5) rfl) rfl rfl at_146 (pc' := 149) rfl (by decide) (by decide) (by decide) (by decide) all0 ?_
            intro T1433 h1433_ v1434 s1435 H1433 Q1436
            obtain ⟨rfl, rfl, rfl⟩ := Q1436
            show Go p e below _ (T1433.setTop (mkF m 149 #[.val (.int x0), .val (.int x1), .val (.int x2), .val (.int x3), .val (.int x4), .val (.int x0), .val (.int x1), .val (.int ((XT.ushr x4 2) &&& 3)), .val (.ref a1220), .val (.ref a1418), .val (.int 0)] [(.int 1)]))
            refine G.ifNo H1433 at_149 (pc' := 152) rfl (by decide) ?_
            refine G.iconst H1433 at_152 (pc' := 153) rfl (v := 1) rfl ?_
            refine G.goto H1433 at_153 (by decide) (pc' := 157) rfl ?_
            exact G.retN H1433 (t := .boolean) rfl (by decide) at_157 (so := []) all0 (by decide) (by decide) rfl
          ·
            refine G.icmpYes H1394 at_71 (XT.ii_ne_t c1413) (by decide) (pc' := 86) rfl ?_
            refine G.new H1394 (wd0 V) (wd1 V) (wd2 V) at_86 (pc' := 89) rfl (by decide) (by decide) ?_
            intro T1437 h1437_ a1438 ga1438 H1437 E1439 A1440 D1441
            have na1438 := H1394.nle ga1438
            refine G.dup H1437 at_89 (pc' := 90) rfl rfl ?_
            refine G.iload H1437 at_90 (pc' := 92) rfl rfl ?_
            refine G.callS H1437 (m42_slot V x0 h1437_ H1437.old c1235) (wd3 V) (wd4 V) (wd5 V) (wd6 V) (by decide) (argsL := [(.int x0)]) (rest := [(.ref a1438), (.ref a1438)]) (W := 2) rfl rfl (lenOf (pd_3) rfl) rfl rfl at_92 (pc' := 95) rfl (by decide) (by decide) (by decide) (by decide) all0 ?_
            intro T1442 h1442_ v1443 s1444 H1442 Q1445
            obtain ⟨rfl, rfl, rfl⟩ := Q1445
            show Go p e below _ (T1442.setTop (mkF m 95 #[.val (.int x0), .val (.int x1), .val (.int x2), .val (.int x3), .val (.int x4), .val (.int x0), .val (.int x1), .val (.int ((XT.ushr x4 2) &&& 3)), .val (.ref a1220), .unset, .unset] [.null, (.ref a1438), (.ref a1438)]))
            refine G.iload H1442 at_95 (pc' := 97) rfl rfl ?_
            refine G.callS H1442 (m4_str V x1 h1437_ H1442.old) (wd10 V) (wd11 V) (wd5 V) (wd12 V) (by decide) (argsL := [(.int x1)]) (rest := [.null, (.ref a1438), (.ref a1438)]) (W := 3) rfl rfl (lenOf (pd_3) rfl) rfl rfl at_97 (pc' := 100) rfl (by decide) (by decide) (by decide) (by decide) all0 ?_
            intro T1446 h1446_ v1447 s1448 H1446 Q1449
            obtain ⟨a1450, a1451, k1452, rfl, rfl, K1453, g1454, F1455⟩ := Q1449
            have na1450 : n0 ≤ a1450 := Nat.le_trans H1442.le g1454
            show Go p e below _ (T1446.setTop (mkF m 100 #[.val (.int x0), .val (.int x1), .val (.int x2), .val (.int x3), .val (.int x4), .val (.int x0), .val (.int x1), .val (.int ((XT.ushr x4 2) &&& 3)), .val (.ref a1220), .unset, .unset] [(.ref a1450), .null, (.ref a1438), (.ref a1438)]))
            have F1456 := (Exa.keep A1440 K1453)
            have F1457 : Fld Z h1437_ a1438 "com/example/schema_to_form/schematoform/record/ValuePath" "slot" "Ljava/lang/String;" .null := D1441 (Or.inr (wd51 V)) (ty := (.object "java/lang/String")) (by decide)
            have F1458 := (Fld.keep F1457 K1453 nin0)
            have F1459 : Fld Z h1437_ a1438 "com/example/schema_to_form/schematoform/record/ValuePath" "name" "Ljava/lang/String;" .null := D1441 (Or.inr (wd53 V)) (ty := (.object "java/lang/String")) (by decide)
            have F1460 := (Fld.keep F1459 K1453 nin0)
            refine G.callI H1446 (m20_init V a1438 a1450 h1446_ H1446.old F1456 F1458 na1438 F1460) rfl (wd46 V) (wd47 V) (wd2 V) (wd48 V) (by decide) (a := a1438) (argsL := [.null, (.ref a1450)]) (rest := [(.ref a1438)]) (W := 1) rfl rfl (lenOf (pd_4) rfl) rfl rfl at_100 (pc' := 103) rfl (by decide) (by decide) (by decide) (by decide) all0 ?_
            intro T1461 h1461_ v1462 s1463 H1461 Q1464
            obtain ⟨rfl, rfl, K1465, U1466, F1467, F1468, F1469⟩ := Q1464
            show Go p e below _ (T1461.setTop (mkF m 103 #[.val (.int x0), .val (.int x1), .val (.int x2), .val (.int x3), .val (.int x4), .val (.int x0), .val (.int x1), .val (.int ((XT.ushr x4 2) &&& 3)), .val (.ref a1220), .unset, .unset] [(.ref a1438)]))
            refine G.astore H1461 (L' := #[.val (.int x0), .val (.int x1), .val (.int x2), .val (.int x3), .val (.int x4), .val (.int x0), .val (.int x1), .val (.int ((XT.ushr x4 2) &&& 3)), .val (.ref a1220), .val (.ref a1438), .unset]) at_103 (pc' := 105) rfl rfl rfl ?_
            refine G.iloadN H1461 at_105 (pc' := 106) rfl rfl ?_
            refine G.iload H1461 at_106 (pc' := 108) rfl rfl ?_
            refine G.callS H1461 (m43_sameSlot V x0 h1461_ H1461.old c1235) (wd54 V) (wd55 V) (wd5 V) (wd56 V) (by decide) (argsL := [(.int x0), (.int x0)]) (rest := []) (W := 0) rfl rfl (lenOf (pd_7) rfl) rfl rfl at_108 (pc' := 111) rfl (by decide) (by decide) (by decide) (by decide) all0 ?_
            intro T1470 h1470_ v1471 s1472 H1470 Q1473
            obtain ⟨rfl, rfl, rfl⟩ := Q1473
            show Go p e below _ (T1470.setTop (mkF m 111 #[.val (.int x0), .val (.int x1), .val (.int x2), .val (.int x3), .val (.int x4), .val (.int x0), .val (.int x1), .val (.int ((XT.ushr x4 2) &&& 3)), .val (.ref a1220), .val (.ref a1438), .unset] [(.int 1)]))
            refine G.ifNo H1470 at_111 (pc' := 114) rfl (by decide) ?_
            refine G.iloadN H1470 at_114 (pc' := 115) rfl rfl ?_
            refine G.iload H1470 at_115 (pc' := 117) rfl rfl ?_
            refine G.callS H1470 (m34_sameStr V x1 h1461_ H1470.old) (wd57 V) (wd58 V) (wd5 V) (wd59 V) (by decide) (argsL := [(.int x1), (.int x1)]) (rest := []) (W := 0) rfl rfl (lenOf (pd_7) rfl) rfl rfl at_117 (pc' := 120) rfl (by decide) (by decide) (by decide) (by decide) all0 ?_
            intro T1474 h1474_ v1475 s1476 H1474 Q1477
            obtain ⟨rfl, rfl, rfl⟩ := Q1477
            show Go p e below _ (T1474.setTop (mkF m 120 #[.val (.int x0), .val (.int x1), .val (.int x2), .val (.int x3), .val (.int x4), .val (.int x0), .val (.int x1), .val (.int ((XT.ushr x4 2) &&& 3)), .val (.ref a1220), .val (.ref a1438), .unset] [(.int 1)]))
            refine G.ifNo H1474 at_120 (pc' := 123) rfl (by decide) ?_
            refine G.iconst H1474 at_123 (pc' := 124) rfl (v := 1) rfl ?_
            refine G.goto H1474 at_124 (by decide) (pc' := 128) rfl ?_
            refine G.istore H1474 (L' := #[.val (.int x0), .val (.int x1), .val (.int x2), .val (.int x3), .val (.int x4), .val (.int x0), .val (.int x1), .val (.int ((XT.ushr x4 2) &&& 3)), .val (.ref a1220), .val (.ref a1438), .val (.int 1)]) at_128 (pc' := 130) rfl rfl ?_
            refine G.aload H1474 at_130 (pc' := 132) rfl rfl rfl ?_
            refine G.aload H1474 at_132 (pc' := 134) rfl rfl rfl ?_
            have K1478 : Keep h1394_ h1461_ [] := (Keep.trans (Keep.trans (Keep.ext (Keep.refl h1394_ []) E1439) K1453 all0) K1465 (allS (Or.inr (Nat.le_of_eq ga1438.symm)) all0))
            have F1479 := (Exa.keep F1400 K1478)
            have F1480 := (Fld.keep F1401 K1478 nin0)
            have F1481 := (Fld.keep F1402 K1478 nin0)
            have K1482 : Keep h1379_ h1394_ [a1220] := (Keep.trans (Keep.refl h1379_ [a1220]) K1398 (allS (Or.inl (mG (i := 0) rfl)) all0))
            have K1483 : Keep h1379_ h1461_ [a1220] := (Keep.trans (Keep.trans (Keep.ext (Keep.trans (Keep.refl h1379_ [a1220]) K1398 (allS (Or.inl (mG (i := 0) rfl)) all0)) E1439) K1453 all0) K1465 (allS (Or.inr (Nat.le_trans K1482.1 (Nat.le_of_eq ga1438.symm))) all0))
            have N1484 : a1383 ≠ a1220 := Exa.ne F1388.1 (Exa.keep A1222 K1386) (by decide)
            have N1485 : a1384 ≠ a1220 := Ne.symm (Exa.neArv (Exa.keep A1222 K1386) F1388.2.2.2.1 (wd1 V))
            have F1486 := (Str.keep F1388 K1483 (ninS N1484 nin0) (ninS N1485 nin0))
            have N1487 : a1450 ≠ a1438 := Exa.ne F1455.1 (Exa.keep A1440 K1453) (by decide)
            have N1488 : a1451 ≠ a1438 := Ne.symm (Exa.neArv (Exa.keep A1440 K1453) F1455.2.2.2.1 (wd1 V))
            have F1489 := (Str.keep F1455 K1465 (ninS N1487 nin0) (ninS N1488 nin0))
            refine G.callV H1474 (m36_equals V a1220 a1438 a1383 a1450 a1384 k1385 (strOf x1) a1451 k1452 h1461_ H1474.old F1467 F1480 F1468 F1481 F1469 F1486 F1489) (wd60 V) (wd61 V) (nf_sel (wd63 V)) (wd63 V) (wd62 V) (wd2 V) (wd64 V) (by decide) F1479 (argsL := [(.ref a1438)]) (rest := []) (W := 0) rfl rfl (lenOf (pd_5) rfl) rfl rfl at_134 (pc' := 137) rfl (by decide) (by decide) (by decide) (by decide) all0 ?_
            intro T1490 h1490_ v1491 s1492 H1490 Q1493
            rcases Q1493 with ⟨c1494, rfl, rfl, rfl⟩ | ⟨c1495, rfl, rfl, rfl⟩
            ·
              show Go p e below _ (T1490.setTop (mkF m 137 #[.val (.int x0), .val (.int x1), .val (.int x2), .val (.int x3), .val (.int x4), .val (.int x0), .val (.int x1), .val (.int ((XT.ushr x4 2) &&& 3)), .val (.ref a1220), .val (.ref a1438), .val (.int 1)] [(.int 1)]))
              refine G.iload H1490 at_137 (pc' := 139) rfl rfl ?_
              refine G.icmpNo H1490 at_139 (pc' := 142) rfl (by decide) ?_
              refine G.aload H1490 at_142 (pc' := 144) rfl rfl rfl ?_
              refine G.aload H1490 at_144 (pc' := 146) rfl rfl rfl ?_
              refine G.callV H1490 (m27_equals V a1220 a1383 h1461_ H1490.old F1479 F1480 F1481 F1486.1) (wd60 V) (wd61 V) (nf_sel (wd63 V)) (wd63 V) (wd62 V) (wd2 V) (wd64 V) (by decide) F1479 (argsL := [(.ref a1220)]) (rest := []) (W := 0) rfl rfl (lenOf (pd_5) rfl) rfl rfl at_146 (pc' := 149) rfl (by decide) (by decide) (by decide) (by decide) all0 ?_
              intro T1496 h1496_ v1497 s1498 H1496 Q1499
              obtain ⟨rfl, rfl, rfl⟩ := Q1499
              show Go p e below _ (T1496.setTop (mkF m 149 #[.val (.int x0), .val (.int x1), .val (.int x2), .val (.int x3), .val (.int x4), .val (.int x0), .val (.int x1), .val (.int ((XT.ushr x4 2) &&& 3)), .val (.ref a1220), .val (.ref a1438), .val (.int 1)] [(.int 1)]))
              refine G.ifNo H1496 at_149 (pc' := 152) rfl (by decide) ?_
              refine G.iconst H1496 at_152 (pc' := 153) rfl (v := 1) rfl ?_
              refine G.goto H1496 at_153 (by decide) (pc' := 157) rfl ?_
              exact G.retN H1496 (t := .boolean) rfl (by decide) at_157 (so := []) all0 (by decide) (by decide) rfl
            ·
              exact absurd rfl c1495

set_option maxRecDepth 65536 in
set_option maxHeartbeats 40000000 in
theorem comes_1 {Post : Tables → Env → Array Value → State → Outcome → State → Prop} (hpost : ∀ tb e args s v u, (limb_1_1.after args s (.returned v) u = true ∧ limb_1_2.after args s (.returned v) u = true ∧ True) → ReturnedEndW s (.returned v) u (Jvm.fieldLocs frame_1_writes args s ++ Jvm.arrayLocs frame_1_arrays args s ++ Jvm.staticLocs frame_1_statics s) 40 1216 → Post tb e args s (.returned v) u) :
    ArmFor flags0 classFile x code maxLocals ret World_1 tables_1 room_1 Calls_1 rest_1 Pre_1 Post := by
  intro l hfl _ _ p e ha hc hk s m args below hf hA hF happ hP
  obtain ⟨hcalls, hrest, hpre⟩ := hP
  obtain ⟨-, -, -, hnamed, -, -, -, hat⟩ := (Spec.applies_iff hf).mp happ
  obtain ⟨hg, hn⟩ := and_e (Cond.before_iff.mp (show (Jvm.Cond.and given_1 narrow_1).before args s = true from hpre))
  obtain ⟨hg0, hg1⟩ := and_e hg
  obtain ⟨ha0, hg2⟩ := and_e hg1
  obtain ⟨ha1, hg3⟩ := and_e hg2
  obtain ⟨ha2, hg4⟩ := and_e hg3
  obtain ⟨ha3, hg5⟩ := and_e hg4
  have ha4 := hg5
  obtain ⟨w0, w1, w2, w3, w4, rfl⟩ : ∃ w0 w1 w2 w3 w4 : Value, args = #[w0, w1, w2, w3, w4] := by
    have hs : args.size = 5 := by simpa [Cond.value, given_1] using hg0
    obtain ⟨L⟩ := args
    match L, hs with
    | [w0, w1, w2, w3, w4], _ => exact ⟨w0, w1, w2, w3, w4, rfl⟩
  have hw := fun d (hd : d ∈ tables_1) => atoms_spec (ws := Jvm.Cond.code x code maxLocals ret :: tables_1) hat d (List.mem_cons_of_mem _ hd)
  obtain ⟨hsets, hown0⟩ := atoms_of _ (rest_1_c_eq ▸ (show rest_1_c.before _ s = true from hrest))
  have hr0 := Cond.before_iff.mp hown0
  have hfit : Fit s := fun {y c} hc i hi => by
    obtain ⟨ha, rfl⟩ := Array.getElem?_eq_some_iff.mp hc
    have q := List.all_eq_true.mp ((Array.all_eq_true_iff_forall_mem.mp hF) _ (Array.getElem_mem ha)) i (List.mem_range.mpr hi)
    simpa [Array.getElem?_eq_getElem hi] using q
  obtain ⟨i0, e0⟩ := is_v ha0
  obtain rfl : w0 = (.int i0) := Option.some.inj e0
  obtain ⟨i1, e1⟩ := is_v ha1
  obtain rfl : w1 = (.int i1) := Option.some.inj e1
  obtain ⟨i2, e2⟩ := is_v ha2
  obtain rfl : w2 = (.int i2) := Option.some.inj e2
  obtain ⟨i3, e3⟩ := is_v ha3
  obtain rfl : w3 = (.int i3) := Option.some.inj e3
  obtain ⟨i4, e4⟩ := is_v ha4
  obtain rfl : w4 = (.int i4) := Option.some.inj e4
  obtain ⟨uu0, ez_COMPACT_STRINGS⟩ := is_v (Cond.before_iff.mp (hsets _ (List.mem_of_getElem? (i := 1) rfl)))
  have hv0 := Sta.start ez_COMPACT_STRINGS (Or.inl (hsets _ (List.mem_of_getElem? (i := 0) rfl)))
  have hv1 : ¬ (uu0 = (0 : Int32)) := gotF (Cond.eq_ints ez_COMPACT_STRINGS (Term.int_eval (0))) (not_v (Cond.before_iff.mp (hsets _ (List.mem_of_getElem? (i := 2) rfl))))
  obtain ⟨uu1, ez_SIOOBE_FORMATTER, hv3⟩ := isR_v (Cond.before_iff.mp (hsets _ (List.mem_of_getElem? (i := 8) rfl)))
  have hv2 := Sta.start ez_SIOOBE_FORMATTER (Or.inl (hsets _ (List.mem_of_getElem? (i := 7) rfl)))
  have V : Env1 s _ s.heap.size uu0 uu1 := ⟨hw, (EW.cons (hw _ (List.mem_of_getElem? (i := 27) rfl)) (by decide) EW.nil), hv0, hv1, hv2, hv3, trivial⟩
  have hCH : CHv s ELs s.vm s.heap := CHv.start (EWl V) (fun q hq => hcalls.1 q hq) (hsets _ (List.mem_of_getElem? (i := 2) rfl)) (hw _ (List.mem_of_getElem? (i := 28) rfl)) (hw _ (List.mem_of_getElem? (i := 14) rfl))
  obtain ⟨n, o, g1, g2, g3, v, L, so, rfl, rfl, -, N, -, -, hq, hq2⟩ := rmLaw (l := l) V i0 i1 i2 i3 i4 s.heap (Old.start s) tables_1 p e ha hc hk s m _ below hf ((Spec.applies_iff_loose hf).mp happ).1 ⟨rfl, State.Warmed39.refl s, rfl, hCH, fun _ q => nomatch q⟩ trivial
  refine ⟨n, _, g1, g2, g3, hpost _ _ _ _ _ _ ⟨Cond.after_iff.mpr rfl, Cond.after_iff.mpr (eq_i res_at (Term.int_eval (1)) rfl), trivial⟩ ⟨hq.1, hq.2.1, hq.2.2.1, (hq.2.2.2.sift fun y hy => Or.inr (N y hy)).mono (by decide) (by decide)⟩⟩
theorem main_1_1 : Claimed_1_1 := comes_1 fun _ _ _ _ _ _ h hF => ⟨h.1, hF⟩
theorem main_1_2 : Claimed_1_2 := comes_1 fun _ _ _ _ _ _ h hF => ⟨h.2.1, hF⟩
end Jvm.Pilot.@@N@@
namespace Jvm.Pilot.@@N@@
open Jvm Jvm.ClassFile Sem Op Lib Jvm.Free Jvm.Stand Jvm.Pilot.@@N@@.Jvm.D
/-! MADE BY PROGRAM (witnessworld.py) out of the Statement's table words and the real class files: 21 classes; the members and pool entries that the words name. The judged class is class 1, her method 6. -/
namespace start1
open Jvm.ClassFile
def u (s : String) : CpInfo := .utf8 (stringToUtf16 s)
/-- a pool by its gaps: so many unusable entries, then the entry; so many at the end -/
def gap : Nat → List CpInfo → List CpInfo
  | 0, r => r
  | n + 1, r => .unusable :: gap n r
def poolList (es : List (Nat × CpInfo)) (last : Nat) : List CpInfo := es.foldr (fun e r => gap e.1 (e.2 :: r)) (gap last [])
def pool (es : List (Nat × CpInfo)) (last : Nat) : Array CpInfo := ⟨poolList es last⟩
def fileOf (pool : Array CpInfo) (this : Nat) (attrs : Array Attribute := #[]) (ms : Array MethodInfo := #[]) (fl : Nat := 33) (sup : Nat := 0) (ifs : Array Nat := #[]) (fds : Array FieldInfo := #[]) : ClassFile where
  minorVersion := 0
  majorVersion := 65
  constantPool := pool
  accessFlags := fl
  thisClass := this
  superClass := sup
  interfaces := ifs
  fields := fds
  methods := ms
  attributes := attrs
def plain (name : String) (sup : Option ClassId) : Class where
  name := name
  kind := .ordinary
  loader := none
  accessFlags := 33
  super := sup
  interfaces := #[]
  cf := none
  fields := #[]
  methods := #[]
  instanceTypes := #[]
  staticTypes := #[]
  resolved := #[]
  callSites := []
  init := .initialized
  statics := none
  mirror := none

def pool0 : Array CpInfo := pool [(5, u "<init>"), (0, u "()V"), (1, .class_ 10), (1, u "java/lang/Object"), (81, u "equals"), (0, u "(Ljava/lang/Object;)Z")] 30

def k0c0 : Code := { maxStack := 0, maxLocals := 1, code := object_method_1_code, exceptionTable := #[], attributes := #[] }
def k0m0 : Method := { name := "<init>", desc := "()V", sig := { parameters := [], returnType := none }, accessFlags := 1, code := some k0c0 }
def k0c1 : Code := { maxStack := 2, maxLocals := 2, code := ⟨#[0x2a, 0x2b, 0xa6, 0x00, 0x07, 0x04, 0xa7, 0x00, 0x04, 0x03, 0xac]⟩, exceptionTable := #[], attributes := #[] }
def k0m1 : Method := { name := "equals", desc := "(Ljava/lang/Object;)Z", sig := { parameters := [(.object "java/lang/Object")], returnType := some .boolean }, accessFlags := 1, code := some k0c1 }
/-- java/lang/Object -/
def k0 : Class := { plain "java/lang/Object" none with
  accessFlags := 33
  interfaces := #[]
  cf := some (fileOf pool0 8 #[] #[{ accessFlags := 1, nameIndex := 5, descriptorIndex := 6, attributes := #[] }, { accessFlags := 1, nameIndex := 92, descriptorIndex := 93, attributes := #[] }] 33 0 #[] #[])
  fields := #[]
  methods := #[k0m0, k0m1]
  instanceTypes := #[]
  staticTypes := #[]
  resolved := Array.replicate 124 none
  statics := none }

def pool1 : Array CpInfo := pool [(2, .class_ 4), (1, u "java/lang/Object"), (0, u "<init>"), (0, u "()V"), (0, .class_ 8), (0, u "java/lang/String"), (0, .methodref 7 10), (0, .nameAndType 5 11), (0, u "([C)V"), (0, .methodref 13 14), (0, .class_ 15), (0, .nameAndType 16 17), (0, u "com/example/schema_to_form/schematoform/record/ValuePathEqualsPinLaw"), (0, u "isNullSlot"), (0, u "(I)Z"), (0, .methodref 13 19), (0, .nameAndType 20 21), (0, u "str"), (0, u "(I)Ljava/lang/String;"), (0, .methodref 13 23), (0, .nameAndType 24 25), (0, u "sameStr"), (0, u "(II)Z"), (0, .class_ 27), (0, u "com/example/schema_to_form/schematoform/record/ValuePath"), (0, .methodref 13 29), (0, .nameAndType 30 21), (0, u "slot"), (0, .methodref 26 32), (0, .nameAndType 5 33), (0, u "(Ljava/lang/String;Ljava/lang/String;)V"), (0, .methodref 13 35), (0, .nameAndType 36 25), (0, u "sameSlot"), (0, .methodref 26 38), (0, .nameAndType 39 40), (0, u "equals"), (0, u "(Ljava/lang/Object;)Z"), (3, u "law"), (0, u "(IIIII)Z")] 2

def k1m0 : Method := { name := "<init>", desc := "()V", sig := { parameters := [], returnType := none }, accessFlags := 1, code := none }
def k1c1 : Code := { maxStack := 6, maxLocals := 5, code := method_2_code, exceptionTable := #[], attributes := #[] }
def k1m1 : Method := { name := "str", desc := "(I)Ljava/lang/String;", sig := { parameters := [.int], returnType := some (.object "java/lang/String") }, accessFlags := 10, code := some k1c1 }
def k1c2 : Code := { maxStack := 2, maxLocals := 1, code := method_3_code, exceptionTable := #[], attributes := #[] }
def k1m2 : Method := { name := "isNullSlot", desc := "(I)Z", sig := { parameters := [.int], returnType := some .boolean }, accessFlags := 10, code := some k1c2 }
def k1c3 : Code := { maxStack := 1, maxLocals := 1, code := method_4_code, exceptionTable := #[], attributes := #[] }
def k1m3 : Method := { name := "slot", desc := "(I)Ljava/lang/String;", sig := { parameters := [.int], returnType := some (.object "java/lang/String") }, accessFlags := 10, code := some k1c3 }
def k1c4 : Code := { maxStack := 3, maxLocals := 7, code := method_5_code, exceptionTable := #[], attributes := #[] }
def k1m4 : Method := { name := "sameStr", desc := "(II)Z", sig := { parameters := [.int, .int], returnType := some .boolean }, accessFlags := 10, code := some k1c4 }
def k1c5 : Code := { maxStack := 2, maxLocals := 4, code := method_6_code, exceptionTable := #[], attributes := #[] }
def k1m5 : Method := { name := "sameSlot", desc := "(II)Z", sig := { parameters := [.int, .int], returnType := some .boolean }, accessFlags := 10, code := some k1c5 }
def k1c6 : Code := { maxStack := 4, maxLocals := 11, code := code, exceptionTable := #[], attributes := #[] }
def k1m6 : Method := { name := "law", desc := "(IIIII)Z", sig := { parameters := [.int, .int, .int, .int, .int], returnType := some .boolean }, accessFlags := 9, code := some k1c6 }
/-- com/example/schema_to_form/schematoform/record/ValuePathEqualsPinLaw -/
def k1 : Class := { plain "com/example/schema_to_form/schematoform/record/ValuePathEqualsPinLaw" (some 0) with
  accessFlags := 49
  interfaces := #[]
  cf := some (fileOf pool1 13 #[] #[{ accessFlags := 1, nameIndex := 5, descriptorIndex := 6, attributes := #[] }, { accessFlags := 10, nameIndex := 20, descriptorIndex := 21, attributes := #[] }, { accessFlags := 10, nameIndex := 16, descriptorIndex := 17, attributes := #[] }, { accessFlags := 10, nameIndex := 30, descriptorIndex := 21, attributes := #[] }, { accessFlags := 10, nameIndex := 24, descriptorIndex := 25, attributes := #[] }, { accessFlags := 10, nameIndex := 36, descriptorIndex := 25, attributes := #[] }, { accessFlags := 9, nameIndex := 44, descriptorIndex := 45, attributes := #[] }] 49 2 #[] #[])
  fields := #[]
  methods := #[k1m0, k1m1, k1m2, k1m3, k1m4, k1m5, k1m6]
  instanceTypes := #[]
  staticTypes := #[]
  resolved := Array.replicate 48 none
  statics := none }

def pool2 : Array CpInfo := pool [(1, .methodref 2 3), (0, .class_ 4), (0, .nameAndType 5 6), (0, u "java/lang/Object"), (0, u "<init>"), (0, u "()V"), (0, .fieldref 8 9), (0, .class_ 10), (0, .nameAndType 11 12), (0, u "com/example/schema_to_form/schematoform/record/ValuePath"), (0, u "slot"), (0, u "Ljava/lang/String;"), (0, .fieldref 8 14), (0, .nameAndType 15 12), (0, u "name"), (0, .methodref 17 18), (0, .class_ 19), (0, .nameAndType 20 21), (0, u "java/util/Objects"), (0, u "equals"), (0, u "(Ljava/lang/Object;Ljava/lang/Object;)Z"), (0, .methodref 23 24), (0, .class_ 25), (0, .nameAndType 20 26), (0, u "java/lang/String"), (0, u "(Ljava/lang/Object;)Z"), (7, u "(Ljava/lang/String;Ljava/lang/String;)V")] 6

def k2c0 : Code := { maxStack := 2, maxLocals := 3, code := prog_7_method_1_code, exceptionTable := #[], attributes := #[] }
def k2m0 : Method := { name := "<init>", desc := "(Ljava/lang/String;Ljava/lang/String;)V", sig := { parameters := [(.object "java/lang/String"), (.object "java/lang/String")], returnType := none }, accessFlags := 0, code := some k2c0 }
def k2c1 : Code := { maxStack := 2, maxLocals := 2, code := prog_7_method_4_code, exceptionTable := #[], attributes := #[] }
def k2m1 : Method := { name := "equals", desc := "(Ljava/lang/Object;)Z", sig := { parameters := [(.object "java/lang/Object")], returnType := some .boolean }, accessFlags := 1, code := some k2c1 }
/-- com/example/schema_to_form/schematoform/record/ValuePath -/
def k2 : Class := { plain "com/example/schema_to_form/schematoform/record/ValuePath" (some 0) with
  accessFlags := 48
  interfaces := #[]
  cf := some (fileOf pool2 8 #[] #[{ accessFlags := 0, nameIndex := 5, descriptorIndex := 34, attributes := #[] }, { accessFlags := 1, nameIndex := 20, descriptorIndex := 26, attributes := #[] }] 48 2 #[] #[{ accessFlags := 18, nameIndex := 11, descriptorIndex := 12, attributes := #[] }, { accessFlags := 18, nameIndex := 15, descriptorIndex := 12, attributes := #[] }])
  fields := #[{ name := "slot", type := (.object "java/lang/String"), accessFlags := 18, slot := 0, constantValue := 0 }, { name := "name", type := (.object "java/lang/String"), accessFlags := 18, slot := 1, constantValue := 0 }]
  methods := #[k2m0, k2m1]
  instanceTypes := #[(.object "java/lang/String"), (.object "java/lang/String")]
  staticTypes := #[]
  resolved := Array.replicate 41 none
  statics := none }

def pool3 : Array CpInfo := pool [(1, .class_ 2), (0, u "java/io/Serializable"), (0, .class_ 4), (0, u "java/lang/Object")] 2

/-- java/io/Serializable -/
def k3 : Class := { plain "java/io/Serializable" (some 0) with
  accessFlags := 1537
  interfaces := #[]
  cf := some (fileOf pool3 1 #[] #[] 1537 3 #[] #[])
  fields := #[]
  methods := #[]
  instanceTypes := #[]
  staticTypes := #[]
  resolved := Array.replicate 7 none
  statics := none }

def pool4 : Array CpInfo := pool [(1, .class_ 2), (0, u "java/lang/Comparable"), (0, .class_ 4), (0, u "java/lang/Object")] 7

/-- java/lang/Comparable -/
def k4 : Class := { plain "java/lang/Comparable" (some 0) with
  accessFlags := 1537
  interfaces := #[]
  cf := some (fileOf pool4 1 #[] #[] 1537 3 #[] #[])
  fields := #[]
  methods := #[]
  instanceTypes := #[]
  staticTypes := #[]
  resolved := Array.replicate 12 none
  statics := none }

def pool5 : Array CpInfo := pool [(2, .class_ 4), (1, u "java/lang/CharSequence"), (42, .class_ 48), (0, u "java/lang/CharSequence$1CodePointIterator"), (10, .class_ 60), (0, u "java/lang/CharSequence$1CharIterator"), (5, .class_ 67), (0, u "java/lang/Object")] 63

/-- java/lang/CharSequence -/
def k5 : Class := { plain "java/lang/CharSequence" (some 0) with
  accessFlags := 1537
  interfaces := #[]
  cf := some (fileOf pool5 2 #[.nestMembers #[47, 59]] #[] 1537 66 #[] #[])
  fields := #[]
  methods := #[]
  instanceTypes := #[]
  staticTypes := #[]
  resolved := Array.replicate 131 none
  statics := none }

def pool6 : Array CpInfo := pool [(1, .class_ 2), (0, u "java/lang/constant/Constable"), (0, .class_ 4), (0, u "java/lang/Object")] 6

/-- java/lang/constant/Constable -/
def k6 : Class := { plain "java/lang/constant/Constable" (some 0) with
  accessFlags := 1537
  interfaces := #[]
  cf := some (fileOf pool6 1 #[] #[] 1537 3 #[] #[])
  fields := #[]
  methods := #[]
  instanceTypes := #[]
  staticTypes := #[]
  resolved := Array.replicate 11 none
  statics := none }

def pool7 : Array CpInfo := pool [(1, .class_ 2), (0, u "java/lang/constant/ConstantDesc"), (0, .class_ 4), (0, u "java/lang/Object")] 32

/-- java/lang/constant/ConstantDesc -/
def k7 : Class := { plain "java/lang/constant/ConstantDesc" (some 0) with
  accessFlags := 1537
  interfaces := #[]
  cf := some (fileOf pool7 1 #[] #[] 1537 3 #[] #[])
  fields := #[]
  methods := #[]
  instanceTypes := #[]
  staticTypes := #[]
  resolved := Array.replicate 37 none
  statics := none }

def pool8 : Array CpInfo := pool [(1, .methodref 2 3), (0, .class_ 4), (0, .nameAndType 5 6), (0, u "java/lang/Object"), (0, u "<init>"), (0, u "()V"), (0, .string 8), (0, u ""), (0, .fieldref 10 11), (0, .class_ 12), (0, .nameAndType 13 14), (0, u "java/lang/String"), (0, u "value"), (0, u "[B"), (0, .fieldref 10 16), (0, .nameAndType 17 18), (0, u "coder"), (0, u "B"), (2, u "hash"), (0, u "I"), (2, u "hashIsZero"), (0, u "Z"), (0, .methodref 10 28), (0, .nameAndType 5 29), (0, u "([CIILjava/lang/Void;)V"), (8, .fieldref 10 39), (0, .nameAndType 40 26), (0, u "COMPACT_STRINGS"), (1, .class_ 44), (1, u "java/lang/StringUTF16"), (0, u "compress"), (1, .methodref 42 48), (0, .nameAndType 49 50), (0, u "coderFromArrayLen"), (0, u "([BI)B"), (56, .class_ 109), (1, u "java/lang/StringLatin1"), (67, .methodref 42 178), (0, .nameAndType 45 179), (0, u "([CII)[B"), (361, .methodref 107 542), (0, .nameAndType 543 544), (0, u "equals"), (0, u "([B[B)Z"), (28, u "(Ljava/lang/Object;)Z"), (1, .class_ 576), (0, u "java/lang/CharSequence"), (22, u "CASE_INSENSITIVE_ORDER"), (0, u "Ljava/util/Comparator;"), (409, u "([C)V"), (90, u "serialPersistentFields"), (0, u "[Ljava/io/ObjectStreamField;"), (0, .class_ 1104), (0, u "java/lang/String$CaseInsensitiveComparator"), (1, .class_ 1107), (0, u "java/io/Serializable"), (0, .class_ 1109), (0, u "java/lang/Comparable"), (0, .class_ 1111), (0, u "java/lang/constant/Constable"), (0, .class_ 1113), (0, u "java/lang/constant/ConstantDesc"), (2, u "serialVersionUID"), (0, u "J"), (3, u "REPL"), (0, u "C"), (2, u "LATIN1"), (1, u "UTF16")] 323

def k8m0 : Method := { name := "<init>", desc := "()V", sig := { parameters := [], returnType := none }, accessFlags := 1, code := none }
def k8c1 : Code := { maxStack := 5, maxLocals := 2, code := jdk_42_method_3_code, exceptionTable := #[], attributes := #[] }
def k8m1 : Method := { name := "<init>", desc := "([C)V", sig := { parameters := [(.array .char)], returnType := none }, accessFlags := 1, code := some k8c1 }
def k8c2 : Code := { maxStack := 2, maxLocals := 3, code := jdk_42_method_66_code, exceptionTable := #[], attributes := #[] }
def k8m2 : Method := { name := "equals", desc := "(Ljava/lang/Object;)Z", sig := { parameters := [(.object "java/lang/Object")], returnType := some .boolean }, accessFlags := 1, code := some k8c2 }
def k8c3 : Code := { maxStack := 4, maxLocals := 6, code := jdk_42_method_149_code, exceptionTable := #[], attributes := #[] }
def k8m3 : Method := { name := "<init>", desc := "([CIILjava/lang/Void;)V", sig := { parameters := [(.array .char), .int, .int, (.object "java/lang/Void")], returnType := none }, accessFlags := 2, code := some k8c3 }
/-- java/lang/String -/
def k8 : Class := { plain "java/lang/String" (some 0) with
  accessFlags := 49
  interfaces := #[3, 4, 5, 6, 7]
  cf := some (fileOf pool8 10 #[.nestMembers #[1103]] #[{ accessFlags := 1, nameIndex := 5, descriptorIndex := 6, attributes := #[] }, { accessFlags := 1, nameIndex := 5, descriptorIndex := 1010, attributes := #[] }, { accessFlags := 1, nameIndex := 543, descriptorIndex := 573, attributes := #[] }, { accessFlags := 2, nameIndex := 5, descriptorIndex := 29, attributes := #[] }] 49 2 #[1106, 1108, 575, 1110, 1112] #[{ accessFlags := 18, nameIndex := 13, descriptorIndex := 14, attributes := #[] }, { accessFlags := 18, nameIndex := 17, descriptorIndex := 18, attributes := #[] }, { accessFlags := 2, nameIndex := 21, descriptorIndex := 22, attributes := #[] }, { accessFlags := 2, nameIndex := 25, descriptorIndex := 26, attributes := #[] }, { accessFlags := 26, nameIndex := 1116, descriptorIndex := 1117, attributes := #[] }, { accessFlags := 24, nameIndex := 40, descriptorIndex := 26, attributes := #[] }, { accessFlags := 26, nameIndex := 1101, descriptorIndex := 1102, attributes := #[] }, { accessFlags := 26, nameIndex := 1121, descriptorIndex := 1122, attributes := #[] }, { accessFlags := 25, nameIndex := 599, descriptorIndex := 600, attributes := #[] }, { accessFlags := 24, nameIndex := 1125, descriptorIndex := 18, attributes := #[] }, { accessFlags := 24, nameIndex := 1127, descriptorIndex := 18, attributes := #[] }])
  fields := #[{ name := "value", type := (.array .byte), accessFlags := 18, slot := 0, constantValue := 0 }, { name := "coder", type := .byte, accessFlags := 18, slot := 1, constantValue := 0 }, { name := "hash", type := .int, accessFlags := 2, slot := 2, constantValue := 0 }, { name := "hashIsZero", type := .boolean, accessFlags := 2, slot := 3, constantValue := 0 }, { name := "serialVersionUID", type := .long, accessFlags := 26, slot := 0, constantValue := 0 }, { name := "COMPACT_STRINGS", type := .boolean, accessFlags := 24, slot := 1, constantValue := 0 }, { name := "serialPersistentFields", type := (.array (.object "java/io/ObjectStreamField")), accessFlags := 26, slot := 2, constantValue := 0 }, { name := "REPL", type := .char, accessFlags := 26, slot := 3, constantValue := 0 }, { name := "CASE_INSENSITIVE_ORDER", type := (.object "java/util/Comparator"), accessFlags := 25, slot := 4, constantValue := 0 }, { name := "LATIN1", type := .byte, accessFlags := 24, slot := 5, constantValue := 0 }, { name := "UTF16", type := .byte, accessFlags := 24, slot := 6, constantValue := 0 }]
  methods := #[k8m0, k8m1, k8m2, k8m3]
  instanceTypes := #[(.array .byte), .byte, .int, .boolean]
  staticTypes := #[.long, .boolean, (.array (.object "java/io/ObjectStreamField")), .char, (.object "java/util/Comparator"), .byte, .byte]
  resolved := Array.replicate 1451 none
  statics := some 0 }

def pool9 : Array CpInfo := pool [(6, .class_ 8), (1, u "java/lang/Object"), (0, u "<init>"), (0, u "()V"), (1, .class_ 14), (1, u "java/lang/StringUTF16"), (31, u "$assertionsDisabled"), (0, u "Z"), (13, u "HI_BYTE_SHIFT"), (0, u "I"), (2, u "LO_BYTE_SHIFT"), (49, .methodref 12 116), (0, .nameAndType 117 118), (0, u "compress"), (0, u "([CI[BII)I"), (3, u "([CII)[B"), (138, u "coderFromArrayLen"), (0, u "([BI)B"), (106, .class_ 371), (1, u "java/lang/StringUTF16$LinesSpliterator"), (58, u "MAX_LENGTH"), (196, .class_ 628), (0, u "java/lang/StringUTF16$CodePointsSpliterator"), (0, .class_ 630), (0, u "java/lang/StringUTF16$CharsSpliterator")] 4

def k9m0 : Method := { name := "<init>", desc := "()V", sig := { parameters := [], returnType := none }, accessFlags := 0, code := none }
def k9c1 : Code := { maxStack := 2, maxLocals := 2, code := jdk_52_method_15_code, exceptionTable := #[], attributes := #[] }
def k9m1 : Method := { name := "coderFromArrayLen", desc := "([BI)B", sig := { parameters := [(.array .byte), .int], returnType := some .byte }, accessFlags := 8, code := some k9c1 }
def k9c2 : Code := { maxStack := 5, maxLocals := 6, code := jdk_52_method_16_code, exceptionTable := #[], attributes := #[] }
def k9m2 : Method := { name := "compress", desc := "([CII)[B", sig := { parameters := [(.array .char), .int, .int], returnType := some (.array .byte) }, accessFlags := 9, code := some k9c2 }
def k9c3 : Code := { maxStack := 3, maxLocals := 7, code := jdk_52_method_21_code, exceptionTable := #[], attributes := #[] }
def k9m3 : Method := { name := "compress", desc := "([CI[BII)I", sig := { parameters := [(.array .char), .int, (.array .byte), .int, .int], returnType := some .int }, accessFlags := 9, code := some k9c3 }
/-- java/lang/StringUTF16 -/
def k9 : Class := { plain "java/lang/StringUTF16" (some 0) with
  accessFlags := 48
  interfaces := #[]
  cf := some (fileOf pool9 12 #[.nestMembers #[627, 629, 369]] #[{ accessFlags := 0, nameIndex := 9, descriptorIndex := 10, attributes := #[] }, { accessFlags := 8, nameIndex := 261, descriptorIndex := 262, attributes := #[] }, { accessFlags := 9, nameIndex := 117, descriptorIndex := 122, attributes := #[] }, { accessFlags := 9, nameIndex := 117, descriptorIndex := 118, attributes := #[] }] 48 6 #[] #[{ accessFlags := 26, nameIndex := 61, descriptorIndex := 62, attributes := #[] }, { accessFlags := 26, nameIndex := 65, descriptorIndex := 62, attributes := #[] }, { accessFlags := 24, nameIndex := 430, descriptorIndex := 62, attributes := #[] }, { accessFlags := 4120, nameIndex := 46, descriptorIndex := 47, attributes := #[] }])
  fields := #[{ name := "HI_BYTE_SHIFT", type := .int, accessFlags := 26, slot := 0, constantValue := 0 }, { name := "LO_BYTE_SHIFT", type := .int, accessFlags := 26, slot := 1, constantValue := 0 }, { name := "MAX_LENGTH", type := .int, accessFlags := 24, slot := 2, constantValue := 0 }, { name := "$assertionsDisabled", type := .boolean, accessFlags := 4120, slot := 3, constantValue := 0 }]
  methods := #[k9m0, k9m1, k9m2, k9m3]
  instanceTypes := #[]
  staticTypes := #[.int, .int, .int, .boolean]
  resolved := Array.replicate 635 none
  statics := none }

def pool10 : Array CpInfo := pool [(2, .class_ 4), (1, u "java/lang/Object"), (0, u "<init>"), (0, u "()V"), (7, .methodref 2 15), (0, .nameAndType 16 17), (0, u "equals"), (0, u "(Ljava/lang/Object;)Z"), (5, u "(Ljava/lang/Object;Ljava/lang/Object;)Z"), (18, .class_ 44), (1, u "java/util/Objects")] 139

def k10m0 : Method := { name := "<init>", desc := "()V", sig := { parameters := [], returnType := none }, accessFlags := 2, code := none }
def k10c1 : Code := { maxStack := 2, maxLocals := 2, code := jdk_31_method_2_code, exceptionTable := #[], attributes := #[] }
def k10m1 : Method := { name := "equals", desc := "(Ljava/lang/Object;Ljava/lang/Object;)Z", sig := { parameters := [(.object "java/lang/Object"), (.object "java/lang/Object")], returnType := some .boolean }, accessFlags := 9, code := some k10c1 }
/-- java/util/Objects -/
def k10 : Class := { plain "java/util/Objects" (some 0) with
  accessFlags := 49
  interfaces := #[]
  cf := some (fileOf pool10 42 #[] #[{ accessFlags := 2, nameIndex := 5, descriptorIndex := 6, attributes := #[] }, { accessFlags := 9, nameIndex := 16, descriptorIndex := 23, attributes := #[] }] 49 2 #[] #[])
  fields := #[]
  methods := #[k10m0, k10m1]
  instanceTypes := #[]
  staticTypes := #[]
  resolved := Array.replicate 184 none
  statics := none }

def pool11 : Array CpInfo := pool [(4, .class_ 6), (1, u "java/lang/Object"), (0, u "<init>"), (0, u "()V"), (5, .class_ 16), (1, u "java/lang/StringLatin1"), (104, u "$assertionsDisabled"), (0, u "Z"), (98, .class_ 223), (1, u "java/lang/StringLatin1$LinesSpliterator"), (57, u "equals"), (0, u "([B[B)Z"), (107, .class_ 391), (0, u "java/lang/StringLatin1$CharsSpliterator")] 3

def k11m0 : Method := { name := "<init>", desc := "()V", sig := { parameters := [], returnType := none }, accessFlags := 0, code := none }
def k11c1 : Code := { maxStack := 3, maxLocals := 3, code := jdk_43_method_13_code, exceptionTable := #[], attributes := #[] }
def k11m1 : Method := { name := "equals", desc := "([B[B)Z", sig := { parameters := [(.array .byte), (.array .byte)], returnType := some .boolean }, accessFlags := 9, code := some k11c1 }
/-- java/lang/StringLatin1 -/
def k11 : Class := { plain "java/lang/StringLatin1" (some 0) with
  accessFlags := 48
  interfaces := #[]
  cf := some (fileOf pool11 14 #[.nestMembers #[390, 221]] #[{ accessFlags := 0, nameIndex := 7, descriptorIndex := 8, attributes := #[] }, { accessFlags := 9, nameIndex := 281, descriptorIndex := 282, attributes := #[] }] 48 4 #[] #[{ accessFlags := 4120, nameIndex := 121, descriptorIndex := 122, attributes := #[] }])
  fields := #[{ name := "$assertionsDisabled", type := .boolean, accessFlags := 4120, slot := 0, constantValue := 0 }]
  methods := #[k11m0, k11m1]
  instanceTypes := #[]
  staticTypes := #[.boolean]
  resolved := Array.replicate 395 none
  statics := none }

def pool12 : Array CpInfo := pool [(2, .class_ 4), (1, u "java/lang/Object"), (0, u "<init>"), (0, u "()V"), (17, .class_ 26), (1, u "jdk/internal/util/Preconditions"), (28, .class_ 56), (0, u "jdk/internal/util/Preconditions$4"), (57, .class_ 115), (0, u "jdk/internal/util/Preconditions$1"), (7, u "SIOOBE_FORMATTER"), (0, u "Ljava/util/function/BiFunction;"), (0, .class_ 126), (0, u "jdk/internal/util/Preconditions$2"), (3, u "AIOOBE_FORMATTER"), (0, .class_ 132), (0, u "jdk/internal/util/Preconditions$3"), (3, u "IOOBE_FORMATTER")] 57

def k12m0 : Method := { name := "<init>", desc := "()V", sig := { parameters := [], returnType := none }, accessFlags := 1, code := none }
/-- jdk/internal/util/Preconditions -/
def k12 : Class := { plain "jdk/internal/util/Preconditions" (some 0) with
  accessFlags := 33
  interfaces := #[]
  cf := some (fileOf pool12 24 #[.nestMembers #[55, 131, 125, 114]] #[{ accessFlags := 1, nameIndex := 5, descriptorIndex := 6, attributes := #[] }] 33 2 #[] #[{ accessFlags := 25, nameIndex := 123, descriptorIndex := 124, attributes := #[] }, { accessFlags := 25, nameIndex := 130, descriptorIndex := 124, attributes := #[] }, { accessFlags := 25, nameIndex := 136, descriptorIndex := 124, attributes := #[] }])
  fields := #[{ name := "SIOOBE_FORMATTER", type := (.object "java/util/function/BiFunction"), accessFlags := 25, slot := 0, constantValue := 0 }, { name := "AIOOBE_FORMATTER", type := (.object "java/util/function/BiFunction"), accessFlags := 25, slot := 1, constantValue := 0 }, { name := "IOOBE_FORMATTER", type := (.object "java/util/function/BiFunction"), accessFlags := 25, slot := 2, constantValue := 0 }]
  methods := #[k12m0]
  instanceTypes := #[]
  staticTypes := #[(.object "java/util/function/BiFunction"), (.object "java/util/function/BiFunction"), (.object "java/util/function/BiFunction")]
  resolved := Array.replicate 194 none
  statics := some 1 }

def pool13 : Array CpInfo := pool [(9, u "<init>"), (6, .class_ 18), (1, u "java/lang/Object"), (0, u "()V"), (1, .class_ 23), (1, u "jdk/internal/util/ArraysSupport"), (0, u "LOG2_ARRAY_LONG_INDEX_SCALE"), (0, u "I"), (2, u "U"), (0, u "Ljdk/internal/misc/Unsafe;"), (8, u "BIG_ENDIAN"), (0, u "Z"), (8, u "LOG2_BYTE_BIT_SIZE"), (4, u "LOG2_ARRAY_INT_INDEX_SCALE"), (54, u "JLA"), (0, u "Ljdk/internal/access/JavaLangAccess;"), (11, u "LOG2_ARRAY_BOOLEAN_INDEX_SCALE"), (9, u "LOG2_ARRAY_BYTE_INDEX_SCALE"), (5, u "LOG2_ARRAY_CHAR_INDEX_SCALE"), (5, u "LOG2_ARRAY_SHORT_INDEX_SCALE"), (18, u "LOG2_ARRAY_FLOAT_INDEX_SCALE"), (24, u "LOG2_ARRAY_DOUBLE_INDEX_SCALE"), (89, u "T_BOOLEAN"), (2, u "T_CHAR"), (1, u "T_FLOAT"), (1, u "T_DOUBLE"), (1, u "T_BYTE"), (1, u "T_SHORT"), (1, u "T_INT"), (1, u "T_LONG"), (1, u "SOFT_MAX_ARRAY_LENGTH")] 83

def k13m0 : Method := { name := "<init>", desc := "()V", sig := { parameters := [], returnType := none }, accessFlags := 2, code := none }
/-- jdk/internal/util/ArraysSupport -/
def k13 : Class := { plain "jdk/internal/util/ArraysSupport" (some 0) with
  accessFlags := 33
  interfaces := #[]
  cf := some (fileOf pool13 21 #[] #[{ accessFlags := 2, nameIndex := 9, descriptorIndex := 19, attributes := #[] }] 33 16 #[] #[{ accessFlags := 24, nameIndex := 28, descriptorIndex := 29, attributes := #[] }, { accessFlags := 26, nameIndex := 38, descriptorIndex := 39, attributes := #[] }, { accessFlags := 25, nameIndex := 121, descriptorIndex := 25, attributes := #[] }, { accessFlags := 25, nameIndex := 131, descriptorIndex := 25, attributes := #[] }, { accessFlags := 25, nameIndex := 137, descriptorIndex := 25, attributes := #[] }, { accessFlags := 25, nameIndex := 143, descriptorIndex := 25, attributes := #[] }, { accessFlags := 25, nameIndex := 53, descriptorIndex := 25, attributes := #[] }, { accessFlags := 25, nameIndex := 24, descriptorIndex := 25, attributes := #[] }, { accessFlags := 25, nameIndex := 162, descriptorIndex := 25, attributes := #[] }, { accessFlags := 25, nameIndex := 187, descriptorIndex := 25, attributes := #[] }, { accessFlags := 26, nameIndex := 48, descriptorIndex := 25, attributes := #[] }, { accessFlags := 25, nameIndex := 277, descriptorIndex := 25, attributes := #[] }, { accessFlags := 25, nameIndex := 280, descriptorIndex := 25, attributes := #[] }, { accessFlags := 25, nameIndex := 282, descriptorIndex := 25, attributes := #[] }, { accessFlags := 25, nameIndex := 284, descriptorIndex := 25, attributes := #[] }, { accessFlags := 25, nameIndex := 286, descriptorIndex := 25, attributes := #[] }, { accessFlags := 25, nameIndex := 288, descriptorIndex := 25, attributes := #[] }, { accessFlags := 25, nameIndex := 290, descriptorIndex := 25, attributes := #[] }, { accessFlags := 25, nameIndex := 292, descriptorIndex := 25, attributes := #[] }, { accessFlags := 26, nameIndex := 108, descriptorIndex := 109, attributes := #[] }, { accessFlags := 25, nameIndex := 294, descriptorIndex := 25, attributes := #[] }])
  fields := #[{ name := "U", type := (.object "jdk/internal/misc/Unsafe"), accessFlags := 24, slot := 0, constantValue := 0 }, { name := "BIG_ENDIAN", type := .boolean, accessFlags := 26, slot := 1, constantValue := 0 }, { name := "LOG2_ARRAY_BOOLEAN_INDEX_SCALE", type := .int, accessFlags := 25, slot := 2, constantValue := 0 }, { name := "LOG2_ARRAY_BYTE_INDEX_SCALE", type := .int, accessFlags := 25, slot := 3, constantValue := 0 }, { name := "LOG2_ARRAY_CHAR_INDEX_SCALE", type := .int, accessFlags := 25, slot := 4, constantValue := 0 }, { name := "LOG2_ARRAY_SHORT_INDEX_SCALE", type := .int, accessFlags := 25, slot := 5, constantValue := 0 }, { name := "LOG2_ARRAY_INT_INDEX_SCALE", type := .int, accessFlags := 25, slot := 6, constantValue := 0 }, { name := "LOG2_ARRAY_LONG_INDEX_SCALE", type := .int, accessFlags := 25, slot := 7, constantValue := 0 }, { name := "LOG2_ARRAY_FLOAT_INDEX_SCALE", type := .int, accessFlags := 25, slot := 8, constantValue := 0 }, { name := "LOG2_ARRAY_DOUBLE_INDEX_SCALE", type := .int, accessFlags := 25, slot := 9, constantValue := 0 }, { name := "LOG2_BYTE_BIT_SIZE", type := .int, accessFlags := 26, slot := 10, constantValue := 0 }, { name := "T_BOOLEAN", type := .int, accessFlags := 25, slot := 11, constantValue := 0 }, { name := "T_CHAR", type := .int, accessFlags := 25, slot := 12, constantValue := 0 }, { name := "T_FLOAT", type := .int, accessFlags := 25, slot := 13, constantValue := 0 }, { name := "T_DOUBLE", type := .int, accessFlags := 25, slot := 14, constantValue := 0 }, { name := "T_BYTE", type := .int, accessFlags := 25, slot := 15, constantValue := 0 }, { name := "T_SHORT", type := .int, accessFlags := 25, slot := 16, constantValue := 0 }, { name := "T_INT", type := .int, accessFlags := 25, slot := 17, constantValue := 0 }, { name := "T_LONG", type := .int, accessFlags := 25, slot := 18, constantValue := 0 }, { name := "JLA", type := (.object "jdk/internal/access/JavaLangAccess"), accessFlags := 26, slot := 19, constantValue := 0 }, { name := "SOFT_MAX_ARRAY_LENGTH", type := .int, accessFlags := 25, slot := 20, constantValue := 0 }]
  methods := #[k13m0]
  instanceTypes := #[]
  staticTypes := #[(.object "jdk/internal/misc/Unsafe"), .boolean, .int, .int, .int, .int, .int, .int, .int, .int, .int, .int, .int, .int, .int, .int, .int, .int, .int, (.object "jdk/internal/access/JavaLangAccess"), .int]
  resolved := Array.replicate 378 none
  statics := none }

def pool14 : Array CpInfo := pool [(1, u "java/lang/Cloneable"), (0, .class_ 1), (0, u "java/lang/Object"), (0, .class_ 3)] 3

/-- java/lang/Cloneable -/
def k14 : Class := { plain "java/lang/Cloneable" (some 0) with
  accessFlags := 1537
  interfaces := #[]
  cf := some (fileOf pool14 2 #[] #[] 1537 4 #[] #[])
  fields := #[]
  methods := #[]
  instanceTypes := #[]
  staticTypes := #[]
  resolved := Array.replicate 8 none
  statics := none }

/-- the primitive byte -/
def k15 : Class := { plain "byte" none with kind := .primitive 'B', accessFlags := 0x411 }
/-- [B -/
def k16 : Class := { plain "[B" (some 0) with kind := .array 15 .byte, interfaces := #[14, 3], accessFlags := 1041 }

/-- the primitive char -/
def k17 : Class := { plain "char" none with kind := .primitive 'C', accessFlags := 0x411 }
/-- [C -/
def k18 : Class := { plain "[C" (some 0) with kind := .array 17 .char, interfaces := #[14, 3], accessFlags := 1041 }

/-- the primitive int -/
def k19 : Class := { plain "int" none with kind := .primitive 'I', accessFlags := 0x411 }
/-- [I -/
def k20 : Class := { plain "[I" (some 0) with kind := .array 19 .int, interfaces := #[14, 3], accessFlags := 1041 }

def heap : Heap := #[{ cls := 8, slots := #[.long 0, .int 1, .null, .int 0, .null, .int 0, .int 0], vm := .statics 8 },
  { cls := 12, slots := #[.null, .null, .null], vm := .statics 12 }]
def classes : Array Class := #[k0, k1, k2, k3, k4, k5, k6, k7, k8, k9, k10, k11, k12, k13, k14, k15, k16, k17, k18, k19, k20]
def interned : List (Array UInt16 × Addr) := []
def slotsUsed : Nat := 10
def theMethod : MethodId := ⟨1, 6⟩
def args0 : Array Value := #[.int 6, .int 7, .int 8, .int 1, .int 5]
def aboutOver (below : List Frame) : State where
  vm := { classes := classes, interned := interned.toArray }
  heap := heap
  slotsUsed := slotsUsed
  threads := #[{ frames := .invoking theMethod args0 :: below }]
def below0 : List Frame := [.native { method := ⟨0, 0⟩, args := #[] }]
def about1 : State := aboutOver below0
def p0 : Program := .bare "" "" ""
def e0 : Env := launch0.env 0 0 0
theorem w_frames : about1.frames = Frame.invoking theMethod args0 :: below0 := rfl
set_option maxRecDepth 65536 in
theorem w_args : argsFit about1.vm theMethod args0 = true := by decide +kernel
set_option maxRecDepth 65536 in
theorem w_heap : heapFits about1 = true := by decide +kernel
set_option maxRecDepth 65536 in
theorem w_runnable : about1.curStatus? = some .runnable := by decide +kernel
set_option maxRecDepth 65536 in
theorem w_alone : about1.alone = true := by decide +kernel
set_option maxRecDepth 65536 in
theorem w_named : about1.methodNamed? x = some theMethod := by decide +kernel
set_option maxRecDepth 65536 in
theorem w_hears : about1.hears theMethod below0 = true := by decide +kernel
set_option maxRecDepth 65536 in
theorem w_ripe : about1.ripe theMethod args0 below0 = true := by decide +kernel
theorem w_running : about1.status = .running := rfl
set_option maxRecDepth 65536 in
theorem w_room : about1.hasRoom e0.platform room_1 = true :=
  launch0.hasRoom_least _ room_1 (by decide +kernel) (by decide +kernel) (by decide +kernel) (by decide +kernel) (by decide +kernel) (by decide +kernel)
theorem allAtoms_all (ts : List Jvm.Cond) (a : Array Jvm.Value) (st : Jvm.State) : (allAtoms ts).before a st = ts.all (fun c => c.before a st) := by
  induction ts with
  | nil => rfl
  | cons c t ih =>
    show (Jvm.Cond.and c (allAtoms t)).before a st = _
    rw [Jvm.Cond.before_and, ih, List.all_cons]
def words1 : List Jvm.Cond := Jvm.Cond.code x code maxLocals ret :: tables_1
/-- a 'code' word, met by the world's own term for the bytes: nothing is compared byte by byte -/
theorem code_word {y : MethodName} {bytes : ByteArray} {mx : Nat} {rt : Option FieldType} {a : Array Value} {s : State} {m : MethodId} {meth : Method} {c : Code} (h1 : s.methodNamed? y = some m) (h2 : s.vm.method? m = some meth) (h3 : meth.code = some c) (h4 : c.code = bytes)
    (h5 : (c.maxLocals == mx && c.exceptionTable.isEmpty && decide (c.maxStack ≤ mostOperands) && decide (meth.sig.returnType = rt) && !meth.locks && decide (parseMethodDescriptor y.desc = some meth.sig)) = true) : (Jvm.Cond.code y bytes mx rt).before a s = true := by
  simp only [Bool.and_eq_true, beq_iff_eq, Bool.not_eq_true', decide_eq_true_eq] at h5
  obtain ⟨⟨⟨⟨⟨g1, g2⟩, g3⟩, g4⟩, g5⟩, g6⟩ := h5
  simp [Cond.before, Cond.holds, Cond.value, h1, h2, h3, h4, g1, g2, g3, g4, g5, g6]
def isCode : Jvm.Cond → Bool
  | .code _ _ _ _ => true
  | _ => false
theorem all_split {L : List Jvm.Cond} {P : Jvm.Cond → Bool} (h1 : L.all (fun c => isCode c || P c) = true) (h2 : ∀ c ∈ L.filter isCode, P c = true) : L.all P = true := by
  refine List.all_eq_true.mpr fun c hc => ?_
  have h := List.all_eq_true.mp h1 c hc
  rcases Bool.eq_false_or_eq_true (isCode c) with hi | hi
  · exact h2 c (List.mem_filter.mpr ⟨hc, hi⟩)
  · simpa [hi] using h
set_option maxRecDepth 65536 in
theorem w_c0 : (Jvm.Cond.code x code maxLocals ret).before args0 about1 = true := code_word (m := ⟨1, 6⟩) (meth := k1m6) (c := k1c6) (by decide +kernel) rfl rfl rfl (by decide +kernel)
set_option maxRecDepth 65536 in
theorem w_c1 : (Jvm.Cond.code ({ cls := "com/example/schema_to_form/schematoform/record/ValuePathEqualsPinLaw", name := "slot", desc := "(I)Ljava/lang/String;" } : Jvm.MethodName) method_4_code (1 : Nat) (Option.some (Jvm.ClassFile.FieldType.object "java/lang/String"))).before args0 about1 = true := code_word (m := ⟨1, 3⟩) (meth := k1m3) (c := k1c3) (by decide +kernel) rfl rfl rfl (by decide +kernel)
set_option maxRecDepth 65536 in
theorem w_c2 : (Jvm.Cond.code ({ cls := "com/example/schema_to_form/schematoform/record/ValuePathEqualsPinLaw", name := "isNullSlot", desc := "(I)Z" } : Jvm.MethodName) method_3_code (1 : Nat) (Option.some Jvm.ClassFile.FieldType.boolean)).before args0 about1 = true := code_word (m := ⟨1, 2⟩) (meth := k1m2) (c := k1c2) (by decide +kernel) rfl rfl rfl (by decide +kernel)
set_option maxRecDepth 65536 in
theorem w_c3 : (Jvm.Cond.code ({ cls := "com/example/schema_to_form/schematoform/record/ValuePathEqualsPinLaw", name := "str", desc := "(I)Ljava/lang/String;" } : Jvm.MethodName) method_2_code (5 : Nat) (Option.some (Jvm.ClassFile.FieldType.object "java/lang/String"))).before args0 about1 = true := code_word (m := ⟨1, 1⟩) (meth := k1m1) (c := k1c1) (by decide +kernel) rfl rfl rfl (by decide +kernel)
set_option maxRecDepth 65536 in
theorem w_c4 : (Jvm.Cond.code ({ cls := "java/lang/String", name := "<init>", desc := "([C)V" } : Jvm.MethodName) jdk_42_method_3_code (2 : Nat) (Option.none : Option Jvm.ClassFile.FieldType)).before args0 about1 = true := code_word (m := ⟨8, 1⟩) (meth := k8m1) (c := k8c1) (by decide +kernel) rfl rfl rfl (by decide +kernel)
set_option maxRecDepth 65536 in
theorem w_c5 : (Jvm.Cond.code ({ cls := "java/lang/String", name := "<init>", desc := "([CIILjava/lang/Void;)V" } : Jvm.MethodName) jdk_42_method_149_code (6 : Nat) (Option.none : Option Jvm.ClassFile.FieldType)).before args0 about1 = true := code_word (m := ⟨8, 3⟩) (meth := k8m3) (c := k8c3) (by decide +kernel) rfl rfl rfl (by decide +kernel)
set_option maxRecDepth 65536 in
theorem w_c6 : (Jvm.Cond.code ({ cls := "java/lang/Object", name := "<init>", desc := "()V" } : Jvm.MethodName) object_method_1_code (1 : Nat) (Option.none : Option Jvm.ClassFile.FieldType)).before args0 about1 = true := code_word (m := ⟨0, 0⟩) (meth := k0m0) (c := k0c0) (by decide +kernel) rfl rfl rfl (by decide +kernel)
set_option maxRecDepth 65536 in
theorem w_c7 : (Jvm.Cond.code ({ cls := "java/lang/StringUTF16", name := "compress", desc := "([CII)[B" } : Jvm.MethodName) jdk_52_method_16_code (6 : Nat) (Option.some (Jvm.ClassFile.FieldType.array Jvm.ClassFile.FieldType.byte))).before args0 about1 = true := code_word (m := ⟨9, 2⟩) (meth := k9m2) (c := k9c2) (by decide +kernel) rfl rfl rfl (by decide +kernel)
set_option maxRecDepth 65536 in
theorem w_c8 : (Jvm.Cond.code ({ cls := "java/lang/StringUTF16", name := "compress", desc := "([CI[BII)I" } : Jvm.MethodName) jdk_52_method_21_code (7 : Nat) (Option.some Jvm.ClassFile.FieldType.int)).before args0 about1 = true := code_word (m := ⟨9, 3⟩) (meth := k9m3) (c := k9c3) (by decide +kernel) rfl rfl rfl (by decide +kernel)
set_option maxRecDepth 65536 in
theorem w_c9 : (Jvm.Cond.code ({ cls := "java/lang/StringUTF16", name := "coderFromArrayLen", desc := "([BI)B" } : Jvm.MethodName) jdk_52_method_15_code (2 : Nat) (Option.some Jvm.ClassFile.FieldType.byte)).before args0 about1 = true := code_word (m := ⟨9, 1⟩) (meth := k9m1) (c := k9c1) (by decide +kernel) rfl rfl rfl (by decide +kernel)
set_option maxRecDepth 65536 in
theorem w_c10 : (Jvm.Cond.code ({ cls := "com/example/schema_to_form/schematoform/record/ValuePath", name := "<init>", desc := "(Ljava/lang/String;Ljava/lang/String;)V" } : Jvm.MethodName) prog_7_method_1_code (3 : Nat) (Option.none : Option Jvm.ClassFile.FieldType)).before args0 about1 = true := code_word (m := ⟨2, 0⟩) (meth := k2m0) (c := k2c0) (by decide +kernel) rfl rfl rfl (by decide +kernel)
set_option maxRecDepth 65536 in
theorem w_c11 : (Jvm.Cond.code ({ cls := "com/example/schema_to_form/schematoform/record/ValuePathEqualsPinLaw", name := "sameSlot", desc := "(II)Z" } : Jvm.MethodName) method_6_code (4 : Nat) (Option.some Jvm.ClassFile.FieldType.boolean)).before args0 about1 = true := code_word (m := ⟨1, 5⟩) (meth := k1m5) (c := k1c5) (by decide +kernel) rfl rfl rfl (by decide +kernel)
set_option maxRecDepth 65536 in
theorem w_c12 : (Jvm.Cond.code ({ cls := "com/example/schema_to_form/schematoform/record/ValuePathEqualsPinLaw", name := "sameStr", desc := "(II)Z" } : Jvm.MethodName) method_5_code (7 : Nat) (Option.some Jvm.ClassFile.FieldType.boolean)).before args0 about1 = true := code_word (m := ⟨1, 4⟩) (meth := k1m4) (c := k1c4) (by decide +kernel) rfl rfl rfl (by decide +kernel)
set_option maxRecDepth 65536 in
theorem w_c13 : (Jvm.Cond.code ({ cls := "com/example/schema_to_form/schematoform/record/ValuePath", name := "equals", desc := "(Ljava/lang/Object;)Z" } : Jvm.MethodName) prog_7_method_4_code (2 : Nat) (Option.some Jvm.ClassFile.FieldType.boolean)).before args0 about1 = true := code_word (m := ⟨2, 1⟩) (meth := k2m1) (c := k2c1) (by decide +kernel) rfl rfl rfl (by decide +kernel)
set_option maxRecDepth 65536 in
theorem w_c14 : (Jvm.Cond.code ({ cls := "java/util/Objects", name := "equals", desc := "(Ljava/lang/Object;Ljava/lang/Object;)Z" } : Jvm.MethodName) jdk_31_method_2_code (2 : Nat) (Option.some Jvm.ClassFile.FieldType.boolean)).before args0 about1 = true := code_word (m := ⟨10, 1⟩) (meth := k10m1) (c := k10c1) (by decide +kernel) rfl rfl rfl (by decide +kernel)
set_option maxRecDepth 65536 in
theorem w_c15 : (Jvm.Cond.code ({ cls := "java/lang/String", name := "equals", desc := "(Ljava/lang/Object;)Z" } : Jvm.MethodName) jdk_42_method_66_code (3 : Nat) (Option.some Jvm.ClassFile.FieldType.boolean)).before args0 about1 = true := code_word (m := ⟨8, 2⟩) (meth := k8m2) (c := k8c2) (by decide +kernel) rfl rfl rfl (by decide +kernel)
set_option maxRecDepth 65536 in
theorem w_c16 : (Jvm.Cond.code ({ cls := "java/lang/StringLatin1", name := "equals", desc := "([B[B)Z" } : Jvm.MethodName) jdk_43_method_13_code (3 : Nat) (Option.some Jvm.ClassFile.FieldType.boolean)).before args0 about1 = true := code_word (m := ⟨11, 1⟩) (meth := k11m1) (c := k11c1) (by decide +kernel) rfl rfl rfl (by decide +kernel)
def codes1 : List Jvm.Cond := [Jvm.Cond.code x code maxLocals ret, Jvm.Cond.code ({ cls := "com/example/schema_to_form/schematoform/record/ValuePathEqualsPinLaw", name := "slot", desc := "(I)Ljava/lang/String;" } : Jvm.MethodName) method_4_code (1 : Nat) (Option.some (Jvm.ClassFile.FieldType.object "java/lang/String")), Jvm.Cond.code ({ cls := "com/example/schema_to_form/schematoform/record/ValuePathEqualsPinLaw", name := "isNullSlot", desc := "(I)Z" } : Jvm.MethodName) method_3_code (1 : Nat) (Option.some Jvm.ClassFile.FieldType.boolean), Jvm.Cond.code ({ cls := "com/example/schema_to_form/schematoform/record/ValuePathEqualsPinLaw", name := "str", desc := "(I)Ljava/lang/String;" } : Jvm.MethodName) method_2_code (5 : Nat) (Option.some (Jvm.ClassFile.FieldType.object "java/lang/String")), Jvm.Cond.code ({ cls := "java/lang/String", name := "<init>", desc := "([C)V" } : Jvm.MethodName) jdk_42_method_3_code (2 : Nat) (Option.none : Option Jvm.ClassFile.FieldType), Jvm.Cond.code ({ cls := "java/lang/String", name := "<init>", desc := "([CIILjava/lang/Void;)V" } : Jvm.MethodName) jdk_42_method_149_code (6 : Nat) (Option.none : Option Jvm.ClassFile.FieldType), Jvm.Cond.code ({ cls := "java/lang/Object", name := "<init>", desc := "()V" } : Jvm.MethodName) object_method_1_code (1 : Nat) (Option.none : Option Jvm.ClassFile.FieldType), Jvm.Cond.code ({ cls := "java/lang/StringUTF16", name := "compress", desc := "([CII)[B" } : Jvm.MethodName) jdk_52_method_16_code (6 : Nat) (Option.some (Jvm.ClassFile.FieldType.array Jvm.ClassFile.FieldType.byte)), Jvm.Cond.code ({ cls := "java/lang/StringUTF16", name := "compress", desc := "([CI[BII)I" } : Jvm.MethodName) jdk_52_method_21_code (7 : Nat) (Option.some Jvm.ClassFile.FieldType.int), Jvm.Cond.code ({ cls := "java/lang/StringUTF16", name := "coderFromArrayLen", desc := "([BI)B" } : Jvm.MethodName) jdk_52_method_15_code (2 : Nat) (Option.some Jvm.ClassFile.FieldType.byte), Jvm.Cond.code ({ cls := "com/example/schema_to_form/schematoform/record/ValuePath", name := "<init>", desc := "(Ljava/lang/String;Ljava/lang/String;)V" } : Jvm.MethodName) prog_7_method_1_code (3 : Nat) (Option.none : Option Jvm.ClassFile.FieldType), Jvm.Cond.code ({ cls := "com/example/schema_to_form/schematoform/record/ValuePathEqualsPinLaw", name := "sameSlot", desc := "(II)Z" } : Jvm.MethodName) method_6_code (4 : Nat) (Option.some Jvm.ClassFile.FieldType.boolean), Jvm.Cond.code ({ cls := "com/example/schema_to_form/schematoform/record/ValuePathEqualsPinLaw", name := "sameStr", desc := "(II)Z" } : Jvm.MethodName) method_5_code (7 : Nat) (Option.some Jvm.ClassFile.FieldType.boolean), Jvm.Cond.code ({ cls := "com/example/schema_to_form/schematoform/record/ValuePath", name := "equals", desc := "(Ljava/lang/Object;)Z" } : Jvm.MethodName) prog_7_method_4_code (2 : Nat) (Option.some Jvm.ClassFile.FieldType.boolean), Jvm.Cond.code ({ cls := "java/util/Objects", name := "equals", desc := "(Ljava/lang/Object;Ljava/lang/Object;)Z" } : Jvm.MethodName) jdk_31_method_2_code (2 : Nat) (Option.some Jvm.ClassFile.FieldType.boolean), Jvm.Cond.code ({ cls := "java/lang/String", name := "equals", desc := "(Ljava/lang/Object;)Z" } : Jvm.MethodName) jdk_42_method_66_code (3 : Nat) (Option.some Jvm.ClassFile.FieldType.boolean), Jvm.Cond.code ({ cls := "java/lang/StringLatin1", name := "equals", desc := "([B[B)Z" } : Jvm.MethodName) jdk_43_method_13_code (3 : Nat) (Option.some Jvm.ClassFile.FieldType.boolean)]
set_option maxRecDepth 65536 in
theorem codes_eq : words1.filter isCode = codes1 := rfl
theorem w_codes : ∀ c ∈ words1.filter isCode, c.before args0 about1 = true := by
  rw [codes_eq]
  intro c hc
  simp only [codes1, List.mem_cons, List.not_mem_nil, or_false] at hc
  rcases hc with rfl | rfl | rfl | rfl | rfl | rfl | rfl | rfl | rfl | rfl | rfl | rfl | rfl | rfl | rfl | rfl | rfl
  · exact w_c0
  · exact w_c1
  · exact w_c2
  · exact w_c3
  · exact w_c4
  · exact w_c5
  · exact w_c6
  · exact w_c7
  · exact w_c8
  · exact w_c9
  · exact w_c10
  · exact w_c11
  · exact w_c12
  · exact w_c13
  · exact w_c14
  · exact w_c15
  · exact w_c16
set_option maxRecDepth 65536 in
theorem w_t1 : (words1.take 24).all (fun c => isCode c || c.before args0 about1) = true := by decide +kernel
set_option maxRecDepth 65536 in
theorem w_t2 : ((words1.drop 24).take 24).all (fun c => isCode c || c.before args0 about1) = true := by decide +kernel
set_option maxRecDepth 65536 in
theorem w_t3 : (((words1.drop 24).drop 24).take 24).all (fun c => isCode c || c.before args0 about1) = true := by decide +kernel
set_option maxRecDepth 65536 in
theorem w_t4 : (((words1.drop 24).drop 24).drop 24).all (fun c => isCode c || c.before args0 about1) = true := by decide +kernel
theorem w_tables : (allAtoms (Jvm.Cond.code x code maxLocals ret :: tables_1)).before args0 about1 = true := by
  rw [allAtoms_all]
  show words1.all (fun c => c.before args0 about1) = true
  refine all_split ?_ w_codes
  rw [← List.take_append_drop 24 words1, List.all_append, w_t1, ← List.take_append_drop 24 (words1.drop 24), List.all_append, w_t2, ← List.take_append_drop 24 ((words1.drop 24).drop 24), List.all_append, w_t3, w_t4]
  rfl
set_option maxRecDepth 65536 in
theorem w_rest : rest_1_c.before args0 about1 = true := by decide +kernel
set_option maxRecDepth 65536 in
theorem w_case : (Jvm.Cond.and given_1 narrow_1).before args0 about1 = true := by decide +kernel
set_option maxRecDepth 65536 in
theorem w_consts : constsHeld consts_1 about1 := Jvm.Lit.constsHeldB_iff.mp (by decide +kernel)
theorem w_applies : (headSpec (Jvm.Cond.code x code maxLocals ret :: tables_1) room_1).applies x e0.platform about1 = true :=
  (Spec.applies_iff w_frames).mpr ⟨w_running, w_runnable, w_alone, w_named, w_hears, w_ripe, w_room, w_tables⟩
theorem atStart : AtStart classFile x code maxLocals ret World_1 tables_1 room_1 Calls_1 rest_1 Pre_1 launch0 p0 e0 about1 theMethod args0 below0 :=
  ⟨lists_1, trivial, launch0.admits_env _ _ _, launch0.least_env, fairChoices_fair.cas, fairChoices_fair.clock, w_frames, w_args, w_heap, w_applies, ⟨w_consts, trivial⟩, w_rest, w_case⟩
end start1
theorem witness_1 : WitnessClaimed_1 := ⟨start1.p0, start1.e0, start1.about1, start1.theMethod, start1.args0, start1.below0, start1.atStart⟩
end Jvm.Pilot.@@N@@
