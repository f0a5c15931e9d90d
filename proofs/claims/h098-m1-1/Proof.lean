import JvmDerived
import JvmDerived.Pilot.@@N@@Statement
import JvmDerived.Pilot.@@N@@Code
set_option linter.unusedVariables false
set_option linter.unusedSimpArgs false
namespace Jvm.OwnKit
open Sem ClassFile Op Lib Bundle Jvm.Stand Jvm.Free Jvm.LawKit Jvm.RoadKit
section Kit
variable {p : Program} {l : Launch} {e : Env} {R : Room} {s : State} {m : MethodId} {args : Array Value} {below : List Frame} {meth : Method} {c : Code} {Z : State} {a0 : Array Value} {EL : List (String × Nat)} {cw : Prop} {own : String} {n0 : Nat} {bytes : ByteArray} {maxL : Nat} {ret : Option FieldType} {nm : String} {T : State} {h : Heap} {C S : Nat} {sf : List Addr} {P : State → Outcome → Prop}

/-- from t the run comes to a state of which P speaks -/
def Go (p : Program) (e : Env) (below : List Frame) (P : State → Outcome → Prop) (t : State) : Prop := ∃ u o, Steps p.tables e below t u ∧ P u o
theorem Go.st {t t' : State} (k : ∀ target, Steps p.tables e below t' target → Steps p.tables e below t target) (G : Go p e below P t') : Go p e below P t := by
  obtain ⟨u, o, h1, h2⟩ := G; exact ⟨u, o, k _ h1, h2⟩
theorem Go.tr {t t' : State} (k : Steps p.tables e below t t') (G : Go p e below P t') : Go p e below P t := by
  obtain ⟨u, o, h1, h2⟩ := G; exact ⟨u, o, k.trans h1, h2⟩

/-- where the walk stands: all that the steps ask, in one word -/
def Hs (p : Program) (l : Launch) (e : Env) (R : Room) (s : State) (m : MethodId) (args : Array Value) (below : List Frame) (meth : Method) (c : Code) (Z : State) (a0 : Array Value) (EL : List (String × Nat)) (cw : Prop) (own : String) (n0 : Nat) (bytes : ByteArray) (maxL : Nat) (ret : Option FieldType) (nm : String) (T : State) (h : Heap) (C S : Nat) (sf : List Addr) : Prop :=
  (p.tables.exec = Jvm.exec ∧ EW Z a0 EL ∧ c.code = bytes ∧ c.maxLocals = maxL ∧ meth.sig.returnType = ret ∧ meth.locks = false ∧ meth.name = nm ∧ n0 ≤ s.heap.size) ∧
  ∃ (vm0 : Vm) (k0 : Nat) (locs : List Loc), Stand p l e R (s.setVm vm0) m args below meth c T locs C S ∧ T.heap = h ∧ s.Since vm0 k0 ∧ k0 ≤ h.size ∧ Z.Warmed39 vm0 ∧ vm0.findClass own = some m.cls ∧ Fr n0 locs ∧ CHr Z EL s.vm s.heap vm0 h ∧ (∀ x ∈ sf, x < h.size ∧ Safe Z EL vm0 h x) ∧ (cw ∨ s.WarmedH vm0) ∧ Old Z n0 h

theorem Hs.here (H : Hs p l e R s m args below meth c Z a0 EL cw own n0 bytes maxL ret nm T h C S sf) : At T m c below := by
  obtain ⟨-, vm0, k0, locs, X, -⟩ := H; exact X.here
theorem Hs.exec (H : Hs p l e R s m args below meth c Z a0 EL cw own n0 bytes maxL ret nm T h C S sf) : p.tables.exec = Jvm.exec := H.1.1
theorem Hs.dec (H : Hs p l e R s m args below meth c Z a0 EL cw own n0 bytes maxL ret nm T h C S sf) {pc : Nat} {r : Except ClassFile.DecodeError (ClassFile.Instr × Nat)} (hd : decode bytes pc = r) : decode c.code pc = r := by rw [H.1.2.2.1]; exact hd
theorem Hs.le (H : Hs p l e R s m args below meth c Z a0 EL cw own n0 bytes maxL ret nm T h C S sf) : n0 ≤ h.size := by
  obtain ⟨⟨-, -, -, -, -, -, -, hn⟩, vm0, k0, locs, -, -, -, -, -, -, -, hC, -⟩ := H
  exact Nat.le_trans hn hC.2.1
theorem Hs.nle {a : Addr} (H : Hs p l e R s m args below meth c Z a0 EL cw own n0 bytes maxL ret nm T h C S sf) (g : a = h.size) : n0 ≤ a := Nat.le_trans H.le (Nat.le_of_eq g.symm)
theorem Hs.old (H : Hs p l e R s m args below meth c Z a0 EL cw own n0 bytes maxL ret nm T h C S sf) : Old Z n0 h := by
  obtain ⟨-, vm0, k0, locs, -, -, -, -, -, -, -, -, -, -, hO⟩ := H; exact hO
theorem Hs.mono (H : Hs p l e R s m args below meth c Z a0 EL cw own n0 bytes maxL ret nm T h C S sf) {C' S' : Nat} (hc : C ≤ C') (hs : S ≤ S') : Hs p l e R s m args below meth c Z a0 EL cw own n0 bytes maxL ret nm T h C' S' sf := by
  obtain ⟨hM, vm0, k0, locs, X, r⟩ := H
  exact ⟨hM, vm0, k0, locs, X.mono hc hs, r⟩
theorem Hs.less (H : Hs p l e R s m args below meth c Z a0 EL cw own n0 bytes maxL ret nm T h C S sf) {sf' : List Addr} (hs : ∀ x ∈ sf', x ∈ sf) : Hs p l e R s m args below meth c Z a0 EL cw own n0 bytes maxL ret nm T h C S sf' := by
  obtain ⟨hM, vm0, k0, locs, X, h1, h2, h3, h4, h5, h6, h7, h8, h9, hO⟩ := H
  exact ⟨hM, vm0, k0, locs, X, h1, h2, h3, h4, h5, h6, h7, fun x hx => h8 x (hs x hx), h9, hO⟩
/-- a place that no constant of the list lies at -/
def Sf (Z : State) (EL : List (String × Nat)) (h : Heap) (sf : List Addr) (a : Addr) : Prop := a ∈ sf ∨ (∃ K, Exa Z h a K ∧ K ≠ "java/lang/String" ∧ K ≠ "[B") ∨ ∃ cl ty, Arr Z h a cl ty ∧ ty ≠ .byte
theorem Sf.mem {a : Addr} (q : a ∈ sf) : Sf Z EL h sf a := Or.inl q
theorem Sf.exa {a : Addr} {K : String} (E : Exa Z h a K) (h1 : K ≠ "java/lang/String" := by decide) (h2 : K ≠ "[B" := by decide) : Sf Z EL h sf a := Or.inr (Or.inl ⟨K, E, h1, h2⟩)
theorem Sf.arr {a : Addr} {k : ClassId} {ty : FieldType} {z : Int32} {vs : List Value} {dv : Value} (A : Arv Z h a k ty z vs dv) (ht : ty ≠ .byte := by decide) : Sf Z EL h sf a := by
  obtain ⟨cl, A, -⟩ := A; exact Or.inr (Or.inr ⟨cl, ty, A, ht⟩)
theorem Sf.safe {a : Addr} {vm0 : Vm} (hZ : Z.Warmed39 vm0) (hs : ∀ x ∈ sf, x < h.size ∧ Safe Z EL vm0 h x) (q : Sf Z EL h sf a) : Safe Z EL vm0 h a := by
  rcases q with q | ⟨K, E, h1, h2⟩ | ⟨cl, ty, A, ht⟩
  · exact (hs a q).2
  · exact Safe.exa hZ.alike E h1 h2
  · exact Safe.arr hZ.alike A ht

/-- a step of the library's that keeps the heap (T' in place of T) -/
theorem G.getF (H : Hs p l e R s m args below meth c Z a0 EL cw own n0 bytes maxL ret nm T h C S sf) {R0 O n d : String} {index : Nat} (w : (Cond.fieldLink own index R0 n d).before a0 Z = true) (via : Via Z R0 O n d) {a : Addr} {v : Value} (F : Fld Z h a O n d v) {pc pc' : Nat} {L : Array Slot} {st : List Value} (hd : decode bytes pc = .ok (.getfield index, 3)) (hp : pc + 3 = pc')
    (k : ∀ T', Hs p l e R s m args below meth c Z a0 EL cw own n0 bytes maxL ret nm T' h C S sf → Go p e below P (T'.setTop (mkF m pc' L (v :: st)))) : Go p e below P (T.setTop (mkF m pc L (.ref a :: st))) := by
  subst hp
  obtain ⟨hM, vm0, k0, locs, X, h1, h2, h3, h4, h5, h6, h7, h8, h9, hO⟩ := id H
  obtain ⟨T', X', e', st'⟩ := RoadKit.getF X H.exec h4 (host := "") h5 (Or.inl w) via h1 F (g := mkF m pc L (.ref a :: st)) rfl rfl (H.dec hd)
  exact Go.st st' (k T' ⟨hM, vm0, k0, locs, X', e', h2, h3, h4, h5, h6, h7, h8, h9, hO⟩)
theorem G.getS (H : Hs p l e R s m args below meth c Z a0 EL cw own n0 bytes maxL ret nm T h C S sf) {R0 O n d : String} {index : Nat} (w : (Cond.fieldLink own index R0 n d).before a0 Z = true) (via : Via Z R0 O n d) {v : Value} (F : Sta Z h O n d v) {pc pc' : Nat} {L : Array Slot} {st : List Value} (hd : decode bytes pc = .ok (.getstatic index, 3)) (hp : pc + 3 = pc')
    (k : ∀ T', Hs p l e R s m args below meth c Z a0 EL cw own n0 bytes maxL ret nm T' h C S sf → Go p e below P (T'.setTop (mkF m pc' L (v :: st)))) : Go p e below P (T.setTop (mkF m pc L st)) := by
  subst hp
  obtain ⟨hM, vm0, k0, locs, X, h1, h2, h3, h4, h5, h6, h7, h8, h9, hO⟩ := id H
  obtain ⟨T', X', e', st'⟩ := RoadKit.getS (host := "") X H.exec h4 h5 w via h1 F (g := mkF m pc L st) rfl (H.dec hd)
  exact Go.st st' (k T' ⟨hM, vm0, k0, locs, X', e', h2, h3, h4, h5, h6, h7, h8, h9, hO⟩)
theorem G.initO (H : Hs p l e R s m args below meth c Z a0 EL cw own n0 bytes maxL ret nm T h C S sf) {index : Nat} (w1 : (Cond.methodLink own index Lib.objectInit).before a0 Z = true) (w2 : (Cond.instanceMethod Lib.objectInit).before a0 Z = true) (w3 : (Cond.code Lib.objectInit ⟨#[0xb1]⟩ 1 none).before a0 Z = true) {a : Addr} {pc pc' : Nat} {L : Array Slot} {st : List Value} (hL : L.size = maxL) (hd : decode bytes pc = .ok (.invokespecial index, 3)) (hp : pc + 3 = pc') (hf : 1 ≤ R.frames) {W : Nat} (hW : (st.map fun v => v.category).sum = W) (hl : W + 12 ≤ R.locals)
    (k : ∀ T', Hs p l e R s m args below meth c Z a0 EL cw own n0 bytes maxL ret nm T' h C S sf → Go p e below P (T'.setTop (mkF m pc' L st))) : Go p e below P (T.setTop (mkF m pc L (.ref a :: st))) := by
  subst hp
  obtain ⟨hM, vm0, k0, locs, X, h1, h2, h3, h4, h5, h6, h7, h8, h9, hO⟩ := id H
  obtain ⟨T', X', e', st'⟩ := RoadKit.initO X H.exec h4 h5 w1 w2 w3 h1 (g := mkF m pc L (.ref a :: st)) rfl (by rw [hM.2.2.2.1]; exact hL) rfl (H.dec hd) hf (W := W) (by show 2 * 0 + _ ≤ _; omega) hl
  exact Go.st st' (k T' ⟨hM, vm0, k0, locs, X', e', h2, h3, h4, h5, h6, h7, h8, h9, hO⟩)
theorem G.arrlen (H : Hs p l e R s m args below meth c Z a0 EL cw own n0 bytes maxL ret nm T h C S sf) {a : Addr} {kc : ClassId} {ty : FieldType} {z : Int32} {vs : List Value} {dv : Value} (A : Arv Z h a kc ty z vs dv) {pc pc' : Nat} {L : Array Slot} {st : List Value} (hd : decode bytes pc = .ok (.arraylength, 1)) (hp : pc + 1 = pc') (k : Go p e below P (T.setTop (mkF m pc' L (.int z :: st)))) : Go p e below P (T.setTop (mkF m pc L (.ref a :: st))) := by
  subst hp
  obtain ⟨hM, vm0, k0, locs, X, h1, h2, h3, h4, h5, h6, h7, h8, h9, hO⟩ := id H
  obtain ⟨cl, Ar, q1, S1, q3, H1, G1⟩ := A
  refine Go.st (fun t kk => X.arraylength H.exec (cell := cl) (by rw [h1]; exact Ar.1) (State.isArrayOf_alike (s := Z) h4.alike Ar.2.1) (g := mkF m pc L (.ref a :: st)) rfl rfl (H.dec hd) t ?_) k
  rw [len_of S1 q3]; exact kk
theorem G.caloadG (H : Hs p l e R s m args below meth c Z a0 EL cw own n0 bytes maxL ret nm T h C S sf) {a : Addr} {kc : ClassId} {z : Int32} {vs : List Value} {dv : Value} (A : Arv Z h a kc .char z vs dv) {j : Int32} {v : Value} (hj : ¬ j < 0 ∧ j < z) (hv : vs.getD j.toNatClampNeg dv = v) {pc pc' : Nat} {L : Array Slot} {st : List Value} (hd : decode bytes pc = .ok (.caload, 1)) (hp : pc + 1 = pc') (k : Go p e below P (T.setTop (mkF m pc' L (v :: st)))) : Go p e below P (T.setTop (mkF m pc L (.int j :: .ref a :: st))) := by
  subst hp
  obtain ⟨hM, vm0, k0, locs, X, h1, h2, h3, h4, h5, h6, h7, h8, h9, hO⟩ := id H
  obtain ⟨cl, Ar, q1, S1, q3, H1, G1⟩ := A
  exact Go.st (fun t kk => X.caload H.exec (cell := cl) (by rw [h1]; exact Ar.1) (State.isArrayOf_alike (s := Z) h4.alike Ar.2.1) Ar.2.2 (inb_of S1 hj) (Has.at H1 (inb_of S1 hj) hv) (g := mkF m pc L (.int j :: .ref a :: st)) rfl rfl (H.dec hd) t kk) k
theorem G.baloadG (H : Hs p l e R s m args below meth c Z a0 EL cw own n0 bytes maxL ret nm T h C S sf) {a : Addr} {kc : ClassId} {z : Int32} {vs : List Value} {dv : Value} (A : Arv Z h a kc .byte z vs dv) {j : Int32} {v : Value} (hj : ¬ j < 0 ∧ j < z) (hv : vs.getD j.toNatClampNeg dv = v) {pc pc' : Nat} {L : Array Slot} {st : List Value} (hd : decode bytes pc = .ok (.baload, 1)) (hp : pc + 1 = pc') (k : Go p e below P (T.setTop (mkF m pc' L (v :: st)))) : Go p e below P (T.setTop (mkF m pc L (.int j :: .ref a :: st))) := by
  subst hp
  obtain ⟨hM, vm0, k0, locs, X, h1, h2, h3, h4, h5, h6, h7, h8, h9, hO⟩ := id H
  obtain ⟨cl, Ar, q1, S1, q3, H1, G1⟩ := A
  exact Go.st (fun t kk => X.baloadBytes H.exec (cell := cl) (by rw [h1]; exact Ar.1) (State.isArrayOf_alike (s := Z) h4.alike Ar.2.1) Ar.2.2 (inb_of S1 hj) (Has.at H1 (inb_of S1 hj) hv) (g := mkF m pc L (.int j :: .ref a :: st)) rfl rfl (H.dec hd) t kk) k
theorem G.ldcI (H : Hs p l e R s m args below meth c Z a0 EL cw own n0 bytes maxL ret nm T h C S sf) {index : Nat} {v : Int32} (w : (Cond.constant own index v).before a0 Z = true) {pc pc' : Nat} {L : Array Slot} {st : List Value} (hd : decode bytes pc = .ok (.ldc index, 2)) (hp : pc + 2 = pc') (k : Go p e below P (T.setTop (mkF m pc' L (.int v :: st)))) : Go p e below P (T.setTop (mkF m pc L st)) := by
  subst hp
  obtain ⟨hM, vm0, k0, locs, X, h1, h2, h3, h4, h5, h6, h7, h8, h9, hO⟩ := id H
  exact Go.st (fun t kk => Jvm.Stand.ldcI X H.exec h5 (mv h4 w) (g := mkF m pc L st) rfl (H.dec hd) kk) k
theorem G.aloadN (H : Hs p l e R s m args below meth c Z a0 EL cw own n0 bytes maxL ret nm T h C S sf) {i : Fin 4} {v : Value} {pc pc' : Nat} {L : Array Slot} {st : List Value} (hd : decode bytes pc = .ok (.aload_n i, 1)) (hp : pc + 1 = pc') (hl : L[i.val]? = some (.val v)) (hv : v.isRef = true) (k : Go p e below P (T.setTop (mkF m pc' L (v :: st)))) : Go p e below P (T.setTop (mkF m pc L (st))) := by
  subst hp
  exact Go.st (fun t kk => XS.aloadN H.here H.exec (g := mkF m pc L (st)) rfl (H.dec hd) hl hv kk) k
theorem G.aload (H : Hs p l e R s m args below meth c Z a0 EL cw own n0 bytes maxL ret nm T h C S sf) {i : Nat} {v : Value} {pc pc' : Nat} {L : Array Slot} {st : List Value} (hd : decode bytes pc = .ok (.aload i, 2)) (hp : pc + 2 = pc') (hl : L[i]? = some (.val v)) (hv : v.isRef = true) (k : Go p e below P (T.setTop (mkF m pc' L (v :: st)))) : Go p e below P (T.setTop (mkF m pc L (st))) := by
  subst hp
  exact Go.st (fun t kk => XS.aload H.here H.exec (g := mkF m pc L (st)) rfl (H.dec hd) hl hv kk) k
theorem G.iloadN (H : Hs p l e R s m args below meth c Z a0 EL cw own n0 bytes maxL ret nm T h C S sf) {i : Fin 4} {v : Int32} {pc pc' : Nat} {L : Array Slot} {st : List Value} (hd : decode bytes pc = .ok (.iload_n i, 1)) (hp : pc + 1 = pc') (hl : L[i.val]? = some (.val (.int v))) (k : Go p e below P (T.setTop (mkF m pc' L (.int v :: st)))) : Go p e below P (T.setTop (mkF m pc L (st))) := by
  subst hp
  exact Go.st (fun t kk => XS.iloadN H.here H.exec (g := mkF m pc L (st)) rfl (H.dec hd) hl kk) k
theorem G.iload (H : Hs p l e R s m args below meth c Z a0 EL cw own n0 bytes maxL ret nm T h C S sf) {i : Nat} {v : Int32} {pc pc' : Nat} {L : Array Slot} {st : List Value} (hd : decode bytes pc = .ok (.iload i, 2)) (hp : pc + 2 = pc') (hl : L[i]? = some (.val (.int v))) (k : Go p e below P (T.setTop (mkF m pc' L (.int v :: st)))) : Go p e below P (T.setTop (mkF m pc L (st))) := by
  subst hp
  exact Go.st (fun t kk => XS.iload H.here H.exec (g := mkF m pc L (st)) rfl (H.dec hd) hl kk) k
theorem G.iconst (H : Hs p l e R s m args below meth c Z a0 EL cw own n0 bytes maxL ret nm T h C S sf) {i : Int} {v : Int32} {pc pc' : Nat} {L : Array Slot} {st : List Value} (hd : decode bytes pc = .ok (.iconst i, 1)) (hp : pc + 1 = pc') (hv : Int32.ofInt i = v) (k : Go p e below P (T.setTop (mkF m pc' L (.int v :: st)))) : Go p e below P (T.setTop (mkF m pc L (st))) := by
  subst hp; subst hv
  exact Go.st (fun t kk => XS.iconst H.here H.exec (g := mkF m pc L (st)) rfl (H.dec hd) kk) k
theorem G.bipush (H : Hs p l e R s m args below meth c Z a0 EL cw own n0 bytes maxL ret nm T h C S sf) {i : Int} {v : Int32} {pc pc' : Nat} {L : Array Slot} {st : List Value} (hd : decode bytes pc = .ok (.bipush i, 2)) (hp : pc + 2 = pc') (hv : (Int8.ofInt i).toInt32 = v) (k : Go p e below P (T.setTop (mkF m pc' L (.int v :: st)))) : Go p e below P (T.setTop (mkF m pc L (st))) := by
  subst hp; subst hv
  exact Go.st (fun t kk => XS.bipush H.here H.exec (g := mkF m pc L (st)) rfl (H.dec hd) kk) k
theorem G.sipush (H : Hs p l e R s m args below meth c Z a0 EL cw own n0 bytes maxL ret nm T h C S sf) {i : Int} {v : Int32} {pc pc' : Nat} {L : Array Slot} {st : List Value} (hd : decode bytes pc = .ok (.sipush i, 3)) (hp : pc + 3 = pc') (hv : (Int16.ofInt i).toInt32 = v) (k : Go p e below P (T.setTop (mkF m pc' L (.int v :: st)))) : Go p e below P (T.setTop (mkF m pc L (st))) := by
  subst hp; subst hv
  exact Go.st (fun t kk => XS.sipush H.here H.exec (g := mkF m pc L (st)) rfl (H.dec hd) kk) k
theorem G.aconstNull (H : Hs p l e R s m args below meth c Z a0 EL cw own n0 bytes maxL ret nm T h C S sf) {pc pc' : Nat} {L : Array Slot} {st : List Value} (hd : decode bytes pc = .ok (.aconst_null, 1)) (hp : pc + 1 = pc') (k : Go p e below P (T.setTop (mkF m pc' L (.null :: st)))) : Go p e below P (T.setTop (mkF m pc L (st))) := by
  subst hp
  exact Go.st (fun t kk => XS.aconstNull H.here H.exec (g := mkF m pc L (st)) rfl (H.dec hd) kk) k
theorem G.isub (H : Hs p l e R s m args below meth c Z a0 EL cw own n0 bytes maxL ret nm T h C S sf) {x y : Int32} {pc pc' : Nat} {L : Array Slot} {st : List Value} (hd : decode bytes pc = .ok (.isub, 1)) (hp : pc + 1 = pc') (k : Go p e below P (T.setTop (mkF m pc' L (.int (x - y) :: st)))) : Go p e below P (T.setTop (mkF m pc L (.int y :: .int x :: st))) := by
  subst hp
  exact Go.st (fun t kk => XS.isub H.here H.exec (g := mkF m pc L (.int y :: .int x :: st)) rfl (H.dec hd) rfl kk) k
theorem G.iand (H : Hs p l e R s m args below meth c Z a0 EL cw own n0 bytes maxL ret nm T h C S sf) {x y : Int32} {pc pc' : Nat} {L : Array Slot} {st : List Value} (hd : decode bytes pc = .ok (.iand, 1)) (hp : pc + 1 = pc') (k : Go p e below P (T.setTop (mkF m pc' L (.int (x &&& y) :: st)))) : Go p e below P (T.setTop (mkF m pc L (.int y :: .int x :: st))) := by
  subst hp
  exact Go.st (fun t kk => XS.iand H.here H.exec (g := mkF m pc L (.int y :: .int x :: st)) rfl (H.dec hd) rfl kk) k
theorem G.iushr (H : Hs p l e R s m args below meth c Z a0 EL cw own n0 bytes maxL ret nm T h C S sf) {x y : Int32} {pc pc' : Nat} {L : Array Slot} {st : List Value} (hd : decode bytes pc = .ok (.iushr, 1)) (hp : pc + 1 = pc') (k : Go p e below P (T.setTop (mkF m pc' L (.int (XT.ushr x y) :: st)))) : Go p e below P (T.setTop (mkF m pc L (.int y :: .int x :: st))) := by
  subst hp
  exact Go.st (fun t kk => XT.iushr H.here H.exec (g := mkF m pc L (.int y :: .int x :: st)) rfl (H.dec hd) rfl kk) k
theorem G.irem (H : Hs p l e R s m args below meth c Z a0 EL cw own n0 bytes maxL ret nm T h C S sf) {x y : Int32} {pc pc' : Nat} {L : Array Slot} {st : List Value} (hd : decode bytes pc = .ok (.irem, 1)) (hp : pc + 1 = pc') (hy : y ≠ 0) (k : Go p e below P (T.setTop (mkF m pc' L (.int (x % y) :: st)))) : Go p e below P (T.setTop (mkF m pc L (.int y :: .int x :: st))) := by
  subst hp
  obtain ⟨-, vm0, k0, locs, X, -⟩ := id H
  exact Go.st (fun t kk => iremM X H.exec (g := mkF m pc L (.int y :: .int x :: st)) rfl (H.dec hd) rfl hy kk) k
theorem G.i2b (H : Hs p l e R s m args below meth c Z a0 EL cw own n0 bytes maxL ret nm T h C S sf) {x : Int32} {pc pc' : Nat} {L : Array Slot} {st : List Value} (hd : decode bytes pc = .ok (.i2b, 1)) (hp : pc + 1 = pc') (k : Go p e below P (T.setTop (mkF m pc' L (.int (x.toInt8.toInt32) :: st)))) : Go p e below P (T.setTop (mkF m pc L (.int x :: st))) := by
  subst hp
  exact Go.st (fun t kk => XT.i2b H.here H.exec (g := mkF m pc L (.int x :: st)) rfl (H.dec hd) rfl kk) k
theorem G.i2c (H : Hs p l e R s m args below meth c Z a0 EL cw own n0 bytes maxL ret nm T h C S sf) {x y : Int32} {pc pc' : Nat} {L : Array Slot} {st : List Value} (hd : decode bytes pc = .ok (.i2c, 1)) (hp : pc + 1 = pc') (hy : x.toUInt32.toUInt16.toUInt32.toInt32 = y) (k : Go p e below P (T.setTop (mkF m pc' L (.int y :: st)))) : Go p e below P (T.setTop (mkF m pc L (.int x :: st))) := by
  subst hp; subst hy
  exact Go.st (fun t kk => XT.i2c H.here H.exec (g := mkF m pc L (.int x :: st)) rfl (H.dec hd) rfl kk) k
theorem G.pop (H : Hs p l e R s m args below meth c Z a0 EL cw own n0 bytes maxL ret nm T h C S sf) {x : Value} {pc pc' : Nat} {L : Array Slot} {st : List Value} (hd : decode bytes pc = .ok (.pop, 1)) (hp : pc + 1 = pc') (hc : x.category = 1) (k : Go p e below P (T.setTop (mkF m pc' L (st)))) : Go p e below P (T.setTop (mkF m pc L (x :: st))) := by
  subst hp
  exact Go.st (fun t kk => XT.pop H.here H.exec (g := mkF m pc L (x :: st)) rfl (H.dec hd) rfl hc kk) k
theorem G.dup (H : Hs p l e R s m args below meth c Z a0 EL cw own n0 bytes maxL ret nm T h C S sf) {x : Value} {pc pc' : Nat} {L : Array Slot} {st : List Value} (hd : decode bytes pc = .ok (.dup, 1)) (hp : pc + 1 = pc') (hc : x.category = 1) (k : Go p e below P (T.setTop (mkF m pc' L (x :: x :: st)))) : Go p e below P (T.setTop (mkF m pc L (x :: st))) := by
  subst hp
  exact Go.st (fun t kk => XS.dup H.here H.exec (g := mkF m pc L (x :: st)) rfl (H.dec hd) rfl hc kk) k
theorem G.istoreN (H : Hs p l e R s m args below meth c Z a0 EL cw own n0 bytes maxL ret nm T h C S sf) {i : Fin 4} {x : Int32} {L' : Array Slot} {pc pc' : Nat} {L : Array Slot} {st : List Value} (hd : decode bytes pc = .ok (.istore_n i, 1)) (hp : pc + 1 = pc') (hl : storeLocals L i.val (.int x) = some L') (k : Go p e below P (T.setTop (mkF m pc' L' (st)))) : Go p e below P (T.setTop (mkF m pc L (.int x :: st))) := by
  subst hp
  exact Go.st (fun t kk => XS.istoreN H.here H.exec (g := mkF m pc L (.int x :: st)) rfl (H.dec hd) rfl hl kk) k
theorem G.istore (H : Hs p l e R s m args below meth c Z a0 EL cw own n0 bytes maxL ret nm T h C S sf) {i : Nat} {x : Int32} {L' : Array Slot} {pc pc' : Nat} {L : Array Slot} {st : List Value} (hd : decode bytes pc = .ok (.istore i, 2)) (hp : pc + 2 = pc') (hl : storeLocals L i (.int x) = some L') (k : Go p e below P (T.setTop (mkF m pc' L' (st)))) : Go p e below P (T.setTop (mkF m pc L (.int x :: st))) := by
  subst hp
  exact Go.st (fun t kk => XS.istore H.here H.exec (g := mkF m pc L (.int x :: st)) rfl (H.dec hd) rfl hl kk) k
theorem G.astoreN (H : Hs p l e R s m args below meth c Z a0 EL cw own n0 bytes maxL ret nm T h C S sf) {i : Fin 4} {x : Value} {L' : Array Slot} {pc pc' : Nat} {L : Array Slot} {st : List Value} (hd : decode bytes pc = .ok (.astore_n i, 1)) (hp : pc + 1 = pc') (hv : x.isRef = true) (hl : storeLocals L i.val x = some L') (k : Go p e below P (T.setTop (mkF m pc' L' (st)))) : Go p e below P (T.setTop (mkF m pc L (x :: st))) := by
  subst hp
  exact Go.st (fun t kk => XS.astoreN H.here H.exec (g := mkF m pc L (x :: st)) rfl (H.dec hd) rfl hv hl kk) k
theorem G.astore (H : Hs p l e R s m args below meth c Z a0 EL cw own n0 bytes maxL ret nm T h C S sf) {i : Nat} {x : Value} {L' : Array Slot} {pc pc' : Nat} {L : Array Slot} {st : List Value} (hd : decode bytes pc = .ok (.astore i, 2)) (hp : pc + 2 = pc') (hv : x.isRef = true) (hl : storeLocals L i x = some L') (k : Go p e below P (T.setTop (mkF m pc' L' (st)))) : Go p e below P (T.setTop (mkF m pc L (x :: st))) := by
  subst hp
  exact Go.st (fun t kk => XS.astore H.here H.exec (g := mkF m pc L (x :: st)) rfl (H.dec hd) rfl hv hl kk) k
theorem G.iinc (H : Hs p l e R s m args below meth c Z a0 EL cw own n0 bytes maxL ret nm T h C S sf) {i : Nat} {cst : Int} {x v : Int32} {L' : Array Slot} {pc pc' : Nat} {L : Array Slot} {st : List Value} (hd : decode bytes pc = .ok (.iinc i cst, 3)) (hp : pc + 3 = pc') (hl : L[i]? = some (.val (.int x))) (hv : x + Int32.ofInt cst = v) (hl' : storeLocals L i (.int v) = some L') (k : Go p e below P (T.setTop (mkF m pc' L' (st)))) : Go p e below P (T.setTop (mkF m pc L (st))) := by
  subst hp; subst hv
  exact Go.st (fun t kk => XS.iinc H.here H.exec (g := mkF m pc L (st)) rfl (H.dec hd) hl hl' kk) k
theorem G.goto (H : Hs p l e R s m args below meth c Z a0 EL cw own n0 bytes maxL ret nm T h C S sf) {o : Int} {pc pc' : Nat} {L : Array Slot} {st : List Value} (hd : decode bytes pc = .ok (.goto o, 3)) (ho : 0 ≤ (pc : Int) + o) (hp : ((pc : Int) + o).toNat = pc') (k : Go p e below P (T.setTop (mkF m pc' L (st)))) : Go p e below P (T.setTop (mkF m pc L (st))) :=
  Go.st (fun t kk => XS.goto H.here H.exec (g := mkF m pc L (st)) rfl (pc0 := pc) rfl (H.dec hd) ho hp kk) k
theorem G.ifYes (H : Hs p l e R s m args below meth c Z a0 EL cw own n0 bytes maxL ret nm T h C S sf) {cd : ClassFile.Cond} {x : Int32} {o : Int} {pc pc' : Nat} {L : Array Slot} {st : List Value} (hd : decode bytes pc = .ok (.ifCond cd o, 3)) (hc : ifCond.holds cd x = true) (ho : 0 ≤ (pc : Int) + o) (hp : ((pc : Int) + o).toNat = pc') (k : Go p e below P (T.setTop (mkF m pc' L (st)))) : Go p e below P (T.setTop (mkF m pc L (.int x :: st))) :=
  Go.st (fun t kk => XS.ifYes H.here H.exec (g := mkF m pc L (.int x :: st)) rfl (pc0 := pc) rfl (H.dec hd) rfl hc ho hp kk) k
theorem G.icmpYes (H : Hs p l e R s m args below meth c Z a0 EL cw own n0 bytes maxL ret nm T h C S sf) {cd : ClassFile.Cond} {x y : Int32} {o : Int} {pc pc' : Nat} {L : Array Slot} {st : List Value} (hd : decode bytes pc = .ok (.if_icmp cd o, 3)) (hc : if_icmp.holds cd x y = true) (ho : 0 ≤ (pc : Int) + o) (hp : ((pc : Int) + o).toNat = pc') (k : Go p e below P (T.setTop (mkF m pc' L (st)))) : Go p e below P (T.setTop (mkF m pc L (.int y :: .int x :: st))) :=
  Go.st (fun t kk => XS.icmpYes H.here H.exec (g := mkF m pc L (.int y :: .int x :: st)) rfl (pc0 := pc) rfl (H.dec hd) rfl hc ho hp kk) k
theorem G.acmpYes (H : Hs p l e R s m args below meth c Z a0 EL cw own n0 bytes maxL ret nm T h C S sf) {cd : ClassFile.ACond} {x y : Value} {o : Int} {pc pc' : Nat} {L : Array Slot} {st : List Value} (hd : decode bytes pc = .ok (.if_acmp cd o, 3)) (hx' : x.isRef = true) (hy' : y.isRef = true) (hc : XT.acmp cd x y = true) (ho : 0 ≤ (pc : Int) + o) (hp : ((pc : Int) + o).toNat = pc') (k : Go p e below P (T.setTop (mkF m pc' L (st)))) : Go p e below P (T.setTop (mkF m pc L (y :: x :: st))) :=
  Go.st (fun t kk => XT.acmpYes H.here H.exec (g := mkF m pc L (y :: x :: st)) rfl (pc0 := pc) rfl (H.dec hd) rfl hx' hy' hc ho hp kk) k
theorem G.ifNo (H : Hs p l e R s m args below meth c Z a0 EL cw own n0 bytes maxL ret nm T h C S sf) {cd : ClassFile.Cond} {o : Int} {x : Int32} {pc pc' : Nat} {L : Array Slot} {st : List Value} (hd : decode bytes pc = .ok (.ifCond cd o, 3)) (hp : pc + 3 = pc') (hc : ifCond.holds cd x = false) (k : Go p e below P (T.setTop (mkF m pc' L (st)))) : Go p e below P (T.setTop (mkF m pc L (.int x :: st))) := by
  subst hp
  exact Go.st (fun t kk => XS.ifNo H.here H.exec (g := mkF m pc L (.int x :: st)) rfl (H.dec hd) rfl hc kk) k
theorem G.icmpNo (H : Hs p l e R s m args below meth c Z a0 EL cw own n0 bytes maxL ret nm T h C S sf) {cd : ClassFile.Cond} {o : Int} {x y : Int32} {pc pc' : Nat} {L : Array Slot} {st : List Value} (hd : decode bytes pc = .ok (.if_icmp cd o, 3)) (hp : pc + 3 = pc') (hc : if_icmp.holds cd x y = false) (k : Go p e below P (T.setTop (mkF m pc' L (st)))) : Go p e below P (T.setTop (mkF m pc L (.int y :: .int x :: st))) := by
  subst hp
  exact Go.st (fun t kk => XS.icmpNo H.here H.exec (g := mkF m pc L (.int y :: .int x :: st)) rfl (H.dec hd) rfl hc kk) k
theorem G.acmpNo (H : Hs p l e R s m args below meth c Z a0 EL cw own n0 bytes maxL ret nm T h C S sf) {cd : ClassFile.ACond} {o : Int} {x y : Value} {pc pc' : Nat} {L : Array Slot} {st : List Value} (hd : decode bytes pc = .ok (.if_acmp cd o, 3)) (hp : pc + 3 = pc') (hx' : x.isRef = true) (hy' : y.isRef = true) (hc : XT.acmp cd x y = false) (k : Go p e below P (T.setTop (mkF m pc' L (st)))) : Go p e below P (T.setTop (mkF m pc L (y :: x :: st))) := by
  subst hp
  exact Go.st (fun t kk => XT.acmpNo H.here H.exec (g := mkF m pc L (y :: x :: st)) rfl (H.dec hd) rfl hx' hy' hc kk) k
theorem Hs.ext {T' : State} {h' : Heap} {C' S' : Nat} {vm0 : Vm} {k0 : Nat} {locs : List Loc} (H : Hs p l e R s m args below meth c Z a0 EL cw own n0 bytes maxL ret nm T h C S sf) (X' : Stand p l e R (s.setVm vm0) m args below meth c T' locs C' S') (e' : T'.heap = h') (E : Ext h h') (h2 : s.Since vm0 k0) (h3 : k0 ≤ h.size) (h4 : Z.Warmed39 vm0) (h5 : vm0.findClass own = some m.cls) (h6 : Fr n0 locs) (h7 : CHr Z EL s.vm s.heap vm0 h) (h8 : ∀ x ∈ sf, x < h.size ∧ Safe Z EL vm0 h x) (h9 : cw ∨ s.WarmedH vm0) (hO : Old Z n0 h) (hlt : h.size < h'.size) : Hs p l e R s m args below meth c Z a0 EL cw own n0 bytes maxL ret nm T' h' C' S' (h.size :: sf) :=
  ⟨H.1, vm0, k0, locs, X', e', h2, Nat.le_trans h3 E.1, h4, h5, h6, h7.trans (CHr.ext E h7.1), fun x hx => by
    rcases List.mem_cons.mp hx with rfl | hx
    · exact ⟨hlt, Safe.ext E h7.1 (Safe.new (Nat.le_refl _))⟩
    · exact ⟨Nat.lt_of_lt_of_le (h8 x hx).1 E.1, Safe.ext E h7.1 (h8 x hx).2⟩, h9, hO.ext E⟩
theorem G.new (H : Hs p l e R s m args below meth c Z a0 EL cw own n0 bytes maxL ret nm T h C S sf) {K : String} {index n : Nat} (w : (Cond.classLink own index K).before a0 Z = true) (wi : (Cond.instantiable K n).before a0 Z = true) (wz : (Cond.initialized K).before a0 Z = true) {pc pc' : Nat} {L : Array Slot} {st : List Value} (hd : decode bytes pc = .ok (.new index, 3)) (hp : pc + 3 = pc') (hc : C + 1 ≤ R.cells) (hl : S + n ≤ R.slots)
    (k : ∀ T' h' a, a = h.size → Hs p l e R s m args below meth c Z a0 EL cw own n0 bytes maxL ret nm T' h' (C + 1) (S + n) (a :: sf) → Ext h h' → Exa Z h' a K → (∀ {O nm' d : String} {ty : FieldType}, Laid Z a0 K O nm' d → parseFieldDescriptor d = some ty → Fld Z h' a O nm' d (defaultValue ty)) → Go p e below P (T'.setTop (mkF m pc' L (.ref a :: st)))) : Go p e below P (T.setTop (mkF m pc L st)) := by
  subst hp
  obtain ⟨hM, vm0, k0, locs, X, h1, h2, h3, h4, h5, h6, h7, h8, h9, hO⟩ := id H
  obtain ⟨T', h', X', e', E, A, D, -, st'⟩ := RoadKit.newO X H.exec h4 h5 w wi wz h1 (g := mkF m pc L st) rfl (H.dec hd) hc hl
  exact Go.st st' (k T' h' _ rfl (H.ext X' e' E h2 h3 h4 h5 h6 h7 h8 h9 hO A.lt) E A D)
theorem G.newP (H : Hs p l e R s m args below meth c Z a0 EL cw own n0 bytes maxL ret nm T h C S sf) {aty : ArrayType} (w : (Cond.arrayClass (newarray.typeOf aty)).before a0 Z = true) {z : Int32} {pc pc' : Nat} {L : Array Slot} {st : List Value} (hd : decode bytes pc = .ok (.newarray aty, 2)) (hp : pc + 2 = pc') (hn : ¬ z < 0) {cap : Nat} (hcap : z.toNatClampNeg ≤ cap) (hb : cap * 8 ≤ 536870912) (hc : C + 1 ≤ R.cells) (hl : S + cap ≤ R.slots) {vs : List Value} (hvs : List.replicate z.toNatClampNeg (defaultValue (newarray.typeOf aty)) = vs) {ad : String} (had : "[" ++ (newarray.typeOf aty).toString = ad)
    (k : ∀ T' h' a kc, a = h.size → Hs p l e R s m args below meth c Z a0 EL cw own n0 bytes maxL ret nm T' h' (C + 1) (S + cap) (a :: sf) → Ext h h' → Arv Z h' a kc (newarray.typeOf aty) z vs (defaultValue (newarray.typeOf aty)) → Exa Z h' a ad → Go p e below P (T'.setTop (mkF m pc' L (.ref a :: st)))) : Go p e below P (T.setTop (mkF m pc L (.int z :: st))) := by
  subst hp
  obtain ⟨hM, vm0, k0, locs, X, h1, h2, h3, h4, h5, h6, h7, h8, h9, hO⟩ := id H
  obtain ⟨T', h', cA, X', e', E, A, EX, st'⟩ := RoadKit.newPE X H.exec h4 w h1 (g := mkF m pc L (.int z :: st)) rfl (H.dec hd) rfl hn hcap hb hc hl had
  refine Go.st st' (k T' h' _ cA rfl (H.ext X' e' E h2 h3 h4 h5 h6 h7 h8 h9 hO A.lt) E ?_ EX)
  subst hvs
  exact (Arv.new A hn).pad (fun i => by simpa using pad_rep [] (defaultValue (newarray.typeOf aty)) z.toNatClampNeg i)
theorem Hs.wr {T' : State} {h' : Heap} {vm0 : Vm} {k0 : Nat} {locs : List Loc} {a : Addr} {sl : Nat} {v : Value} (H : Hs p l e R s m args below meth c Z a0 EL cw own n0 bytes maxL ret nm T h C S sf) (X' : Stand p l e R (s.setVm vm0) m args below meth c T' (locs ++ [⟨a, sl⟩]) C S) (e' : T'.heap = h') (W : Wr h h' a sl v) (q : n0 ≤ a) (sa : Safe Z EL vm0 h a) (h2 : s.Since vm0 k0) (h3 : k0 ≤ h.size) (h4 : Z.Warmed39 vm0) (h5 : vm0.findClass own = some m.cls) (h6 : Fr n0 locs) (h7 : CHr Z EL s.vm s.heap vm0 h) (h8 : ∀ x ∈ sf, x < h.size ∧ Safe Z EL vm0 h x) (h9 : cw ∨ s.WarmedH vm0) (hO : Old Z n0 h) : Hs p l e R s m args below meth c Z a0 EL cw own n0 bytes maxL ret nm T' h' C S sf :=
  ⟨H.1, vm0, k0, locs ++ [⟨a, sl⟩], X', e', h2, by rw [W.size]; exact h3, h4, h5, Fr.snoc X' h6 q, h7.trans (CHr.wr W sa h7.1), fun x hx => ⟨by rw [W.size]; exact (h8 x hx).1, Safe.wr W sa h7.1 (h8 x hx).2⟩, h9, hO.wr W q⟩
theorem G.putF (H : Hs p l e R s m args below meth c Z a0 EL cw own n0 bytes maxL ret nm T h C S sf) {R0 O n d K : String} {index kk : Nat} {ty : FieldType} (w : (Cond.fieldLink own index R0 n d).before a0 Z = true) (via : Via Z R0 O n d) {a : Addr} {v old : Value} (F : Fld Z h a O n d old) (E : Exa Z h a K) (Ly : (Cond.lays K O n d).before a0 Z = true ∨ ((Cond.laysFinal K O n d).before a0 Z = true ∧ own = O ∧ nm = "<init>")) (wi : (Cond.instantiable K kk).before a0 Z = true) (hty : parseFieldDescriptor d = some ty) (hn : narrow ty v = v) (hf : fits ty v = true) (hq : n0 ≤ a) (hsf : Sf Z EL h sf a) {pc pc' : Nat} {L : Array Slot} {st : List Value} (hd : decode bytes pc = .ok (.putfield index, 3)) (hp : pc + 3 = pc')
    (k : ∀ T' h', Hs p l e R s m args below meth c Z a0 EL cw own n0 bytes maxL ret nm T' h' C S sf → Wr h h' a (RoadKit.slotOf Z O n d) v → Go p e below P (T'.setTop (mkF m pc' L st))) : Go p e below P (T.setTop (mkF m pc L (v :: .ref a :: st))) := by
  subst hp
  obtain ⟨hM, vm0, k0, locs, X, h1, h2, h3, h4, h5, h6, h7, h8, h9, hO⟩ := id H
  obtain ⟨T', h', X', e', W, st'⟩ := RoadKit.putF X H.exec h4 (host := "") h5 (Or.inl w) via h1 F E (Ly.imp id (fun q => ⟨q.1, q.2.1, hM.2.2.2.2.2.2.1.trans q.2.2⟩)) wi hty hn hf (g := mkF m pc L (v :: .ref a :: st)) rfl rfl (H.dec hd)
  exact Go.st st' (k T' h' (H.wr X' e' W hq (hsf.safe h4 h8) h2 h3 h4 h5 h6 h7 h8 h9 hO) W)
theorem G.stC (H : Hs p l e R s m args below meth c Z a0 EL cw own n0 bytes maxL ret nm T h C S sf) {a : Addr} {kc : ClassId} {z : Int32} {vs : List Value} {dv : Value} (A : Arv Z h a kc .char z vs dv) {j x : Int32} (hj : ¬ j < 0 ∧ j < z) {i : Nat} (hi : j.toNatClampNeg = i) (hlt : i < vs.length) (hq : n0 ≤ a) {y : Int32} (hy : nar .char x = y) {pc pc' : Nat} {L : Array Slot} {st : List Value} (hd : decode bytes pc = .ok (.castore, 1)) (hp : pc + 1 = pc')
    (k : ∀ T' h', Hs p l e R s m args below meth c Z a0 EL cw own n0 bytes maxL ret nm T' h' C S sf → Wr h h' a i (.int y) → Arv Z h' a kc .char z (vs.set i (.int y)) dv → Go p e below P (T'.setTop (mkF m pc' L st))) : Go p e below P (T.setTop (mkF m pc L (.int x :: .int j :: .ref a :: st))) := by
  subst hp; subst hi; subst hy
  obtain ⟨hM, vm0, k0, locs, X, h1, h2, h3, h4, h5, h6, h7, h8, h9, hO⟩ := id H
  obtain ⟨cl, Ar, q1, S1, q3, H1, G1⟩ := A
  obtain ⟨T', h', X', e', W, st'⟩ := RoadKit.stC X H.exec h4 h1 Ar (inb_of S1 hj) (g := mkF m pc L (.int x :: .int j :: .ref a :: st)) rfl rfl (H.dec hd)
  exact Go.st st' (k T' h' (H.wr X' e' W hq (Safe.arr h4.alike Ar (by decide)) h2 h3 h4 h5 h6 h7 h8 h9 hO) W (Arv.set Ar q1 S1 q3 H1 G1 (fits_nar_char x) W _ rfl hlt))
theorem Hs.rebase {T' : State} {h' : Heap} {C' S' : Nat} {vm0 : Vm} {k1 : Nat} {locs : List Loc} (H : Hs p l e R s m args below meth c Z a0 EL cw own n0 bytes maxL ret nm T h C S sf) (hcw : cw) (X' : Stand p l e R (s.setVm T'.vm) m args below meth c T' locs C' S') (e' : T'.heap = h') (h2 : s.Since T'.vm k1) (h3 : k1 ≤ h'.size) (h4 : Z.Warmed39 T'.vm) (h5 : T'.vm.findClass own = some m.cls) (h6 : Fr n0 locs) (h7 : CHr Z EL s.vm s.heap vm0 h) (h7' : CHr Z EL vm0 h T'.vm h') (h8 : ∀ x ∈ sf, x < h.size ∧ Safe Z EL vm0 h x) (hO : Old Z n0 h') : Hs p l e R s m args below meth c Z a0 EL cw own n0 bytes maxL ret nm T' h' C' S' sf :=
  ⟨H.1, T'.vm, k1, locs, X', e', h2, h3, h4, h5, h6, h7.trans h7', fun x hx => ⟨Nat.lt_of_lt_of_le (h8 x hx).1 h7'.2.1, h7'.safe (h8 x hx).1 (h8 x hx).2⟩, Or.inl hcw, hO⟩
theorem G.ldcS (H : Hs p l e R s m args below meth c Z a0 EL cw own n0 bytes maxL ret nm T h C S sf) (hcw : cw) (wS : ∀ a ∈ Bundle.stringAtoms, a.before a0 Z = true) {index : Nat} {text : String} (w : (Cond.stringLink own index text).before a0 Z = true) (hmem : (own, index) ∈ EL) {vs : List Value} {z : Int32} (ht : (∀ c ∈ text.toList, c.toNat < 256) ∧ text.toList.map (fun c => Value.int (Jvm.Lit.byteI c.toNat.toUInt16)) = vs) (hz : ¬ z < 0) (hl : z.toNatClampNeg = vs.length) {n : Nat} (hn : 4 * text.toList.length ≤ n) (hbig : n ≤ 536870912) (hc : C + 2 ≤ R.cells) (hl' : S + (n + 4) ≤ R.slots) {pc pc' : Nat} {L : Array Slot} {st : List Value} (hd : decode bytes pc = .ok (.ldc index, 2)) (hp : pc + 2 = pc')
    (k : ∀ T' h' a b kb, Hs p l e R s m args below meth c Z a0 EL cw own n0 bytes maxL ret nm T' h' (C + 2) (S + (n + 4)) sf → Ext h h' → Exa Z h' a "java/lang/String" → Fld Z h' a "java/lang/String" "coder" "B" (.int 0) → Fld Z h' a "java/lang/String" "value" "[B" (.ref b) → Arv Z h' b kb .byte z vs (.int 0) → (∀ x ∈ sf, x ≠ a ∧ x ≠ b) → Go p e below P (T'.setTop (mkF m pc' L (.ref a :: st)))) : Go p e below P (T.setTop (mkF m pc L st)) := by
  subst hp
  obtain ⟨hM, vm0, k0, locs, X, h1, h2, h3, h4, h5, h6, h7, h8, h9, hO⟩ := id H
  obtain ⟨a, T', h', k1, b, kb, X', e', E, s2, s3, s4, s5, F1, F2, F3, F4, -, -, h7', -, hne, st'⟩ := RoadKit.ldcCH X H.exec h4 h5 w wS h1 h2 h3 hM.2.1 hmem h7.1 ht hz hl (g := mkF m pc L st) rfl (H.dec hd) hn hbig hc hl'
  exact Go.st st' (k T' h' a b kb (H.rebase hcw X' e' s2 s3 s4 s5 h6 h7 h7' h8 (hO.ext E)) E F1 F2 F3 F4 (fun x hx => hne x (h7'.safe (h8 x hx).1 (h8 x hx).2)))
def FinP (s : State) (below : List Frame) (Z : State) (EL : List (String × Nat)) (cw : Prop) (n0 Cm Sm : Nat) (Q : Option Value → Heap → List Addr → Prop) : State → Outcome → Prop := fun u o =>
  u.status = .running ∧ Ended u below o ∧ ∃ v L so, o = .returned v ∧ Q v u.heap so ∧ Old Z n0 u.heap ∧ Fr n0 L ∧ CHr Z EL s.vm s.heap u.vm u.heap ∧ (∀ x ∈ so, x < u.heap.size ∧ Safe Z EL u.vm u.heap x) ∧ ReturnedEndW s o u L Cm Sm ∧ (cw ∨ FrameEnd s o u L Cm Sm)
theorem Hs.leave (H : Hs p l e R s m args below meth c Z a0 EL cw own n0 bytes maxL ret nm T h C S sf) {Cm Sm : Nat} {Q : Option Value → Heap → List Addr → Prop} {v : Option Value} {so : List Addr} (hv : ret = none → v = none) (hQ : Q v h so) (hso : ∀ x ∈ so, x ∈ sf) (hC : C ≤ Cm) (hS : S ≤ Sm) :
    ∃ fs, (∀ (f : JFrame) (acts : List Action), f.method = m → f.locked = none → f.entered = [] → (doReturn e (T.setTop f) acts v).1 = T.setFrames fs) ∧ FinP s below Z EL cw n0 Cm Sm Q (T.setFrames fs) (.returned v) := by
  obtain ⟨hM, vm0, k0, locs, X, h1, h2, h3, h4, h5, h6, h7, h8, h9, hO⟩ := H
  obtain ⟨-, hEL, -, -, hret, hlocks, -, -⟩ := hM
  obtain ⟨fs, hr, hrun, hended, hW, hsame⟩ := X.leave (v := v) (fun q => hv (hret.symm.trans q)) hlocks
  have hk : k0 ≤ (T.setFrames fs).heap.size := by show k0 ≤ T.heap.size; rw [h1]; exact h3
  obtain ⟨w1, w2, w3⟩ := h2.ended (U := T.setFrames fs) hW hk hsame
  have A := CHv.at X h4 hEL h7.1
  refine ⟨fs, hr, hrun, hended, v, locs, so, rfl, ?_, ?_, h6, ?_, ?_, ⟨⟨v, rfl⟩, w1, w2, w3.mono hC hS⟩, ?_⟩
  · show Q v T.heap so; rw [h1]; exact hQ
  · show Old Z n0 T.heap; rw [h1]; exact hO
  · show CHr Z EL s.vm s.heap T.vm T.heap; rw [h1]; exact h7.trans A
  · intro x hx
    show x < T.heap.size ∧ Safe Z EL T.vm T.heap x
    rw [h1]; exact ⟨(h8 x (hso x hx)).1, A.safe (h8 x (hso x hx)).1 (h8 x (hso x hx)).2⟩
  · exact h9.imp id (fun q => ⟨⟨v, rfl⟩, State.WarmedH.trans (t := s.setVm vm0) q hW, w3.mono hC hS⟩)
theorem G.retG (H : Hs p l e R s m args below meth c Z a0 EL cw own n0 bytes maxL ret nm T h C S sf) {Cm Sm : Nat} {Q : Option Value → Heap → List Addr → Prop} {so : List Addr} {pc : Nat} {L : Array Slot} {w : Value} {t : FieldType} {i : Instr} {rest : List Value} (hret : ret = some t) (hn : narrow t w = w)
    (hi : (i = .ireturn ∧ (t = .int ∨ t = .boolean ∨ t = .byte ∨ t = .char ∨ t = .short) ∧ ∃ z, w = .int z) ∨ (i = .lreturn ∧ t = .long ∧ ∃ z, w = .long z) ∨ (i = .dreturn ∧ t = .double ∧ ∃ z, w = .double z) ∨ (i = .freturn ∧ t = .float ∧ ∃ z, w = .float z) ∨ (i = .areturn ∧ t.isReference = true ∧ w.isRef = true))
    (hd : decode bytes pc = .ok (i, 1)) (hso : ∀ x ∈ so, x ∈ sf) (hC : C ≤ Cm) (hS : S ≤ Sm) (hQ : Q (some w) h so) : Go p e below (FinP s below Z EL cw n0 Cm Sm Q) (T.setTop (mkF m pc L (w :: rest))) := by
  obtain ⟨fs, hr, hF⟩ := H.leave (Q := Q) (v := some w) (Cm := Cm) (Sm := Sm) (fun q => by rw [hret] at q; cases q) hQ hso hC hS
  obtain ⟨hM, vm0, k0, locs, X, -⟩ := id H
  exact ⟨_, _, retOut X H.exec (hM.2.2.2.2.1.trans hret) hn hi (H.dec hd) hr, hF⟩
theorem G.retI (H : Hs p l e R s m args below meth c Z a0 EL cw own n0 bytes maxL ret nm T h C S sf) {Cm Sm : Nat} {Q : Option Value → Heap → List Addr → Prop} {so : List Addr} {pc : Nat} {L : Array Slot} {z : Int32} {rest : List Value} (hret : ret = some .int) (hd : decode bytes pc = .ok (.ireturn, 1)) (hso : ∀ x ∈ so, x ∈ sf) (hC : C ≤ Cm) (hS : S ≤ Sm) (hQ : Q (some (.int z)) h so) : Go p e below (FinP s below Z EL cw n0 Cm Sm Q) (T.setTop (mkF m pc L (.int z :: rest))) :=
  G.retG H hret rfl (Or.inl ⟨rfl, Or.inl rfl, z, rfl⟩) hd hso hC hS hQ
theorem G.retN (H : Hs p l e R s m args below meth c Z a0 EL cw own n0 bytes maxL ret nm T h C S sf) {Cm Sm : Nat} {Q : Option Value → Heap → List Addr → Prop} {so : List Addr} {pc : Nat} {L : Array Slot} {z : Int32} {t : FieldType} {rest : List Value} (hret : ret = some t) (ht : t = .boolean ∨ t = .byte ∨ t = .char ∨ t = .short) (hd : decode bytes pc = .ok (.ireturn, 1)) (hso : ∀ x ∈ so, x ∈ sf) (hC : C ≤ Cm) (hS : S ≤ Sm) (hQ : Q (some (.int (nar t z))) h so) : Go p e below (FinP s below Z EL cw n0 Cm Sm Q) (T.setTop (mkF m pc L (.int z :: rest))) := by
  obtain ⟨fs, hr, hF⟩ := H.leave (Q := Q) (v := some (.int (nar t z))) (Cm := Cm) (Sm := Sm) (fun q => by rw [hret] at q; cases q) hQ hso hC hS
  obtain ⟨hM, vm0, k0, locs, X, -⟩ := id H
  exact ⟨_, _, RoadKit.retN X H.exec (hM.2.2.2.2.1.trans hret) ht (H.dec hd) hr, hF⟩
theorem G.retA (H : Hs p l e R s m args below meth c Z a0 EL cw own n0 bytes maxL ret nm T h C S sf) {Cm Sm : Nat} {Q : Option Value → Heap → List Addr → Prop} {so : List Addr} {pc : Nat} {L : Array Slot} {w : Value} {t : FieldType} {rest : List Value} (hret : ret = some t) (ht : t.isReference = true) (hw : w.isRef = true) (hd : decode bytes pc = .ok (.areturn, 1)) (hso : ∀ x ∈ so, x ∈ sf) (hC : C ≤ Cm) (hS : S ≤ Sm) (hQ : Q (some w) h so) : Go p e below (FinP s below Z EL cw n0 Cm Sm Q) (T.setTop (mkF m pc L (w :: rest))) :=
  G.retG H hret (by rcases ref_cases hw with rfl | ⟨a, rfl⟩ <;> cases t <;> first | rfl | cases ht) (Or.inr (Or.inr (Or.inr (Or.inr ⟨rfl, ht, hw⟩)))) hd hso hC hS hQ
theorem G.retV (H : Hs p l e R s m args below meth c Z a0 EL cw own n0 bytes maxL ret nm T h C S sf) {Cm Sm : Nat} {Q : Option Value → Heap → List Addr → Prop} {so : List Addr} {pc : Nat} {L : Array Slot} (hret : ret = none) (hd : decode bytes pc = .ok (.return_, 1)) (hso : ∀ x ∈ so, x ∈ sf) (hC : C ≤ Cm) (hS : S ≤ Sm) (hQ : Q none h so) : Go p e below (FinP s below Z EL cw n0 Cm Sm Q) (T.setTop (mkF m pc L [])) := by
  obtain ⟨fs, hr, hF⟩ := H.leave (Q := Q) (v := none) (Cm := Cm) (Sm := Sm) (fun _ => rfl) hQ hso hC hS
  obtain ⟨hM, vm0, k0, locs, X, -⟩ := id H
  exact ⟨_, _, X.returnOut H.exec (hM.2.2.2.2.1.trans hret) (H.dec hd) hr, hF⟩
def Met (Z : State) (a0 : Array Value) (EL : List (String × Nat)) (cw : Prop) (n0 : Nat) (l : Launch) (y : MethodName) (bytes : ByteArray) (maxL : Nat) (ret : Option FieldType) (rm : Room) (as' : Array Value) (h : Heap) (sfI : List Addr) (Q : Option Value → Heap → List Addr → Prop) : Prop :=
  ∀ ws, MetFree l y (head1 (Cond.code y bytes maxL ret :: ws) rm) (fun a U => a = as' ∧ Z.Warmed39 U.vm ∧ U.heap = h ∧ CHv Z EL U.vm h ∧ ∀ x ∈ sfI, x < h.size ∧ Safe Z EL U.vm h x) (fun _ _ _ _ _ => True)
    (fun _ U o U' => ∃ v L so, o = .returned v ∧ Q v U'.heap so ∧ Old Z n0 U'.heap ∧ Fr n0 L ∧ CHr Z EL U.vm U.heap U'.vm U'.heap ∧ (∀ x ∈ so, x < U'.heap.size ∧ Safe Z EL U'.vm U'.heap x) ∧ ReturnedEndW U o U' L rm.cells rm.slots ∧ (cw ∨ FrameEnd U o U' L rm.cells rm.slots))
theorem Met.of {y : MethodName} {rm : Room} {as' : Array Value} {sfI : List Addr} {Q : Option Value → Heap → List Addr → Prop} {L0 : Array Slot} (hEL : EW Z a0 EL) (hpn : plainFor y = true) (hO : Old Z n0 h) (hL : Jvm.Sym.laidSlots as'.toList ++ List.replicate (maxL - (Jvm.Sym.laidSlots as'.toList).length) .unset = L0.toList)
    (body : ∀ (p : Program) (e : Env) (s : State) (m : MethodId) (below : List Frame) (meth : Method) (c : Code) (T : State), Hs p l e rm s m as' below meth c Z a0 EL cw y.cls n0 bytes maxL ret y.name T h 0 0 sfI → Go p e below (FinP s below Z EL cw n0 rm.cells rm.slots Q) (T.setTop (mkF m 0 L0 []))) : Met Z a0 EL cw n0 l y bytes maxL ret rm as' h sfI Q := by
  intro ws
  refine MetFree.of_bodySF hpn hisR ?_
  intro p e s m args below meth c s₁ Bd hml hP hK
  obtain ⟨rfl, hZ, hh, hC, hs⟩ := hP
  have X0 : Stand p l e rm (s.setVm s.vm) m args below meth c s₁ [] 0 0 := Stand.of_body Bd
  have e0 : s₁.heap = h := by rw [← hh, Bd.state]; rfl
  have H : Hs p l e rm s m args below meth c Z a0 EL cw y.cls n0 bytes maxL ret y.name s₁ h 0 0 sfI :=
    ⟨⟨Bd.exec, hEL, Bd.bytes, hml, Bd.returns, Bd.notSynchronized, (name_of_methodNamed Bd.named Bd.method).1, by rw [hh, ← hO.1]; exact hO.2.1⟩, s.vm, s.heap.size, [], X0, e0, (State.WarmedH.refl s).since _, by rw [hh]; exact Nat.le_refl _, hZ, findClass_of_methodNamed Bd.named, Fr.nil n0, by rw [hh]; exact CHr.refl hC, hs, Or.inr (State.WarmedH.refl s), hO⟩
  obtain ⟨u, o, h1, h2, h3, v, L, so, r1, r2, rO, r3, r4, r5, r6, r7⟩ := body p e s m below meth c s₁ H
  exact ⟨u, o, (XT.entry hL).trans h1, h2, h3, v, L, so, r1, r2, rO, r3, r4, r5, r6, r7⟩
theorem Met.backS {y : MethodName} {rm : Room} {as' : Array Value} {sfI : List Addr} {Q : Option Value → Heap → List Addr → Prop} {vm0 : Vm} {len W : Nat} (M : Met Z a0 EL cw n0 l y bytes maxL ret rm as' h sfI Q) (hEL : EW Z a0 EL) (hZ : Z.Warmed39 vm0) (wc : (Cond.code y bytes maxL ret).before a0 Z = true) (wz : (Cond.initialized y.cls).before a0 Z = true) (hf : rm.frames + 1 ≤ R.frames) (hl : W + (maxL + 11) + rm.locals ≤ R.locals) (H : CHv Z EL vm0 h) (hs : ∀ x ∈ sfI, x < h.size ∧ Safe Z EL vm0 h x) :
    BackS l R p e below (s.setVm vm0) args y len W (fun A a => a = as' ∧ A.U.heap = h ∧ A.cells + rm.cells ≤ R.cells ∧ A.slots + rm.slots ≤ R.slots)
      (fun A _ v B => ∃ L so, Q v B.U.heap so ∧ Old Z n0 B.U.heap ∧ Fr n0 L ∧ B.locs = A.locs ++ L ∧ B.cells = A.cells + rm.cells ∧ B.slots = A.slots + rm.slots ∧ CHr Z EL vm0 h B.U.vm B.U.heap ∧ (∀ x ∈ so, x < B.U.heap.size ∧ Safe Z EL B.U.vm B.U.heap x) ∧ (cw ∨ (s.setVm vm0).WarmedH B.U.vm)) :=
  BackS.of_freeW (bytes := bytes) (maxL := maxL) (ret := ret)
    (E := fun _ first o t L k n => k = rm.cells ∧ n = rm.slots ∧ ∃ v so, o = .returned v ∧ Q v t.heap so ∧ Old Z n0 t.heap ∧ Fr n0 L ∧ CHr Z EL first.vm first.heap t.vm t.heap ∧ (∀ x ∈ so, x < t.heap.size ∧ Safe Z EL t.vm t.heap x) ∧ (cw ∨ first.WarmedH t.vm))
    (M []) hf hl
    (fun m meth c A a Y hp => have hU : Z.Warmed39 A.U.vm := wtrans (s := s.setVm vm0) hZ Y.warmed
      ⟨by show (Cond.and _ .tt).before a A.U = true; rw [Cond.before_and, mv hU wc]; rfl, mv hU wc, mv hU wz, hp.2.2.1, hp.2.2.2⟩)
    (fun m meth c A a g mk Y hp => by
      have A1 := CHv.at Y hZ hEL H
      exact ⟨hp.1, wtrans (s := s.setVm vm0) hZ Y.warmed, hp.2.1, A1.1, fun x hx => ⟨(hs x hx).1, A1.safe (hs x hx).1 (hs x hx).2⟩⟩)
    (fun _ _ _ _ _ _ _ _ _ => trivial)
    (fun _ _ _ _ ⟨v, L, so, h1, h2, hO, h3, h4, h5, h6, h7⟩ => ⟨L, _, _, h6, rfl, rfl, v, so, h1, h2, hO, h3, h4, h5, h7.imp id (fun q => q.2.1)⟩)
    (fun m meth c A a g mk v t L k n Y hp _ _ ⟨e1, e2, v', so, e3, e4, eO, e5, e6, e7, e8⟩ => by
      cases e3; subst e1 e2
      refine ⟨L, so, e4, eO, e5, rfl, rfl, rfl, (CHv.at Y hZ hEL H).trans ?_, e7, e8.imp id (fun q => State.WarmedH.trans (t := A.U) Y.warmed q)⟩
      rw [← hp.2.1]; exact e6)
/-- behind a call -/
theorem Hs.behind {vm0 vm₁ : Vm} {k0 : Nat} {locs : List Loc} {B : Pt} {L' : List Loc} {so : List Addr} {kc ks : Nat} (H : Hs p l e R s m args below meth c Z a0 EL cw own n0 bytes maxL ret nm T h C S sf) (h2 : s.Since vm0 k0) (h3 : k0 ≤ h.size) (h4 : Z.Warmed39 vm0) (h5 : vm0.findClass own = some m.cls) (h6 : Fr n0 locs) (h7 : CHr Z EL s.vm s.heap vm0 h) (h8 : ∀ x ∈ sf, x < h.size ∧ Safe Z EL vm0 h x) (h9 : cw ∨ s.WarmedH vm0)
    (X' : Stand p l e R ((s.setVm vm0).setVm B.U.vm) m args below meth c B.U B.locs B.cells B.slots) (hS : (s.setVm vm0).Since B.U.vm B.U.heap.size) (hg : h.size ≤ B.U.heap.size) (r1 : Fr n0 L') (r2 : B.locs = locs ++ L') (r3 : B.cells = C + kc) (r4 : B.slots = S + ks) (r5 : CHr Z EL vm0 h B.U.vm B.U.heap) (r6 : ∀ x ∈ so, x < B.U.heap.size ∧ Safe Z EL B.U.vm B.U.heap x) (r7 : cw ∨ (s.setVm vm0).WarmedH B.U.vm) (rO : Old Z n0 B.U.heap) : Hs p l e R s m args below meth c Z a0 EL cw own n0 bytes maxL ret nm B.U B.U.heap (C + kc) (S + ks) (so ++ sf) := by
  obtain ⟨Y, y1, y2, y3⟩ := rebS (Z := Z) (own := own) h2 h3 X' hS hg h4 h5
  refine ⟨H.1, B.U.vm, B.U.heap.size, B.locs, by rw [← r3, ← r4]; exact Y, rfl, y1, Nat.le_refl _, y2, y3, by rw [r2]; exact Fr.app h6 r1, h7.trans r5, fun x hx => ?_, ?_, rO⟩
  · rcases List.mem_append.mp hx with hx | hx
    · exact r6 x hx
    · exact ⟨Nat.lt_of_lt_of_le (h8 x hx).1 hg, r5.safe (h8 x hx).1 (h8 x hx).2⟩
  · rcases h9 with q | q
    · exact Or.inl q
    · exact r7.imp id (fun r => State.WarmedH.trans (t := s.setVm vm0) q r)
theorem G.callS (H : Hs p l e R s m args below meth c Z a0 EL cw own n0 bytes maxL ret nm T h C S sf) {y : MethodName} {yb : ByteArray} {ym : Nat} {yr : Option FieldType} {rm : Room} {as' : Array Value} {sfI : List Addr} {Q : Option Value → Heap → List Addr → Prop} (M : Met Z a0 EL cw n0 l y yb ym yr rm as' h sfI Q) {index : Nat} (w1 : (Cond.methodLink own index y).before a0 Z = true) (w2 : (Cond.static y).before a0 Z = true) (wz : (Cond.initialized y.cls).before a0 Z = true) (wc : (Cond.code y yb ym yr).before a0 Z = true) (hy : y.cls ≠ "java/lang/invoke/MethodHandle" ∧ y.cls ≠ "java/lang/invoke/VarHandle")
    {argsL rest st : List Value} {W : Nat} {pc pc' : Nat} {L : Array Slot} (hL : L.size = maxL) (has : argsL.toArray = as') (hlen : ∀ sig, parseMethodDescriptor y.desc = some sig → argsL.length = sig.parameters.length) (hst : st = argsL.reverse ++ rest) (hW : (rest.map fun v => v.category).sum = W) (hd : decode bytes pc = .ok (.invokestatic index, 3)) (hp : pc + 3 = pc') (hf : rm.frames + 1 ≤ R.frames) (hl : W + (ym + 11) + rm.locals ≤ R.locals) (hc : C + rm.cells ≤ R.cells) (hsl : S + rm.slots ≤ R.slots) (hsf : ∀ x ∈ sfI, x ∈ sf)
    (k : ∀ T' h' v so, Hs p l e R s m args below meth c Z a0 EL cw own n0 bytes maxL ret nm T' h' (C + rm.cells) (S + rm.slots) (so ++ sf) → Q v h' so → Go p e below P (T'.setTop (mkF m pc' L (v.toList ++ rest)))) : Go p e below P (T.setTop (mkF m pc L st)) := by
  subst hp; subst has
  obtain ⟨hM, vm0, k0, locs, X, h1, h2, h3, h4, h5, h6, h7, h8, h9, hO⟩ := id H
  obtain ⟨v, vm₁, B, hw, X', hS, hg, ⟨L', so, q1, rO, r1, r2, r3, r4, r5, r6, r7⟩, st'⟩ := RoadKit.callSS X H.exec h5 (mvT (s := s.setVm vm0) h4 w1) (mvT (s := s.setVm vm0) h4 w2) (mvT (s := s.setVm vm0) h4 wz) (mvT (s := s.setVm vm0) h4 wc) hy (M.backS (W := W) hM.2.1 h4 wc wz hf hl h7.1 (fun x hx => h8 x (hsf x hx))) (g := mkF m pc L st) rfl (by rw [hM.2.2.2.1]; exact hL) hlen hst (by show 2 * 0 + _ ≤ _; omega) (H.dec hd) (fun _ _ => ⟨rfl, h1, hc, hsl⟩)
  rw [h1] at hg
  exact Go.tr st' (k _ _ v so (H.behind (vm₁ := vm₁) h2 h3 h4 h5 h6 h7 h8 h9 X' hS hg r1 r2 r3 r4 r5 r6 r7 rO) q1)
theorem G.callI (H : Hs p l e R s m args below meth c Z a0 EL cw own n0 bytes maxL ret nm T h C S sf) {y : MethodName} {yb : ByteArray} {ym : Nat} {rm : Room} {as' : Array Value} {sfI : List Addr} {Q : Option Value → Heap → List Addr → Prop} (M : Met Z a0 EL cw n0 l y yb ym none rm as' h sfI Q) {index : Nat} (hy1 : y.name = "<init>") (w1 : (Cond.methodLink own index y).before a0 Z = true) (w2 : (Cond.instanceMethod y).before a0 Z = true) (wz : (Cond.initialized y.cls).before a0 Z = true) (wc : (Cond.code y yb ym none).before a0 Z = true) (hy : y.cls ≠ "java/lang/invoke/MethodHandle" ∧ y.cls ≠ "java/lang/invoke/VarHandle")
    {a : Addr} {argsL rest st : List Value} {W : Nat} {pc pc' : Nat} {L : Array Slot} (hL : L.size = maxL) (has : (Value.ref a :: argsL).toArray = as') (hlen : ∀ sig, parseMethodDescriptor y.desc = some sig → argsL.length = sig.parameters.length) (hst : st = argsL.reverse ++ .ref a :: rest) (hW : (rest.map fun v => v.category).sum = W) (hd : decode bytes pc = .ok (.invokespecial index, 3)) (hp : pc + 3 = pc') (hf : rm.frames + 1 ≤ R.frames) (hl : W + (ym + 11) + rm.locals ≤ R.locals) (hc : C + rm.cells ≤ R.cells) (hsl : S + rm.slots ≤ R.slots) (hsf : ∀ x ∈ sfI, x ∈ sf)
    (k : ∀ T' h' v so, Hs p l e R s m args below meth c Z a0 EL cw own n0 bytes maxL ret nm T' h' (C + rm.cells) (S + rm.slots) (so ++ sf) → Q v h' so → Go p e below P (T'.setTop (mkF m pc' L (v.toList ++ rest)))) : Go p e below P (T.setTop (mkF m pc L st)) := by
  subst hp; subst has
  obtain ⟨hM, vm0, k0, locs, X, h1, h2, h3, h4, h5, h6, h7, h8, h9, hO⟩ := id H
  obtain ⟨v, vm₁, B, hw, X', hS, hg, ⟨L', so, q1, rO, r1, r2, r3, r4, r5, r6, r7⟩, st'⟩ := X.specialBackS H.exec hy1 h5 (mvT (s := s.setVm vm0) h4 w1) (mvT (s := s.setVm vm0) h4 w2) (mvT (s := s.setVm vm0) h4 wc) hy (M.backS (W := W) hM.2.1 h4 wc wz hf hl h7.1 (fun x hx => h8 x (hsf x hx))) (g := mkF m pc L st) rfl (by rw [hM.2.2.2.1]; exact hL) (Steps.refl _) (a := a) hlen hst (by show 2 * 0 + _ ≤ _; omega) (H.dec hd) (fun _ _ => ⟨rfl, h1, hc, hsl⟩)
  rw [h1] at hg
  exact Go.tr st' (k _ _ v so (H.behind (vm₁ := vm₁) h2 h3 h4 h5 h6 h7 h8 h9 X' hS hg r1 r2 r3 r4 r5 r6 r7 rO) q1)
theorem G.callV (H : Hs p l e R s m args below meth c Z a0 EL cw own n0 bytes maxL ret nm T h C S sf) {y z : MethodName} {D : String} {yb : ByteArray} {ym : Nat} {yr : Option FieldType} {rm : Room} {as' : Array Value} {sfI : List Addr} {Q : Option Value → Heap → List Addr → Prop} (M : Met Z a0 EL cw n0 l z yb ym yr rm as' h sfI Q) {index : Nat} (w1 : (Cond.methodLink own index y).before a0 Z = true) (w2 : (Cond.declares y).before a0 Z = true) (wn : ∀ s' : State, Z.Warmed39 s'.vm → NotFace s' y) (w3 : (Cond.selects D y z).before a0 Z = true) (w4 : (Cond.instanceMethod z).before a0 Z = true) (wz : (Cond.initialized z.cls).before a0 Z = true) (wc : (Cond.code z yb ym yr).before a0 Z = true) (hy : y.cls ≠ "java/lang/invoke/MethodHandle" ∧ y.cls ≠ "java/lang/invoke/VarHandle")
    {a : Addr} (E : Exa Z h a D) {argsL rest st : List Value} {W : Nat} {pc pc' : Nat} {L : Array Slot} (hL : L.size = maxL) (has : (Value.ref a :: argsL).toArray = as') (hlen : ∀ sig, parseMethodDescriptor y.desc = some sig → argsL.length = sig.parameters.length) (hst : st = argsL.reverse ++ .ref a :: rest) (hW : (rest.map fun v => v.category).sum = W) (hd : decode bytes pc = .ok (.invokevirtual index, 3)) (hp : pc + 3 = pc') (hf : rm.frames + 1 ≤ R.frames) (hl : W + (ym + 11) + rm.locals ≤ R.locals) (hc : C + rm.cells ≤ R.cells) (hsl : S + rm.slots ≤ R.slots) (hsf : ∀ x ∈ sfI, x ∈ sf)
    (k : ∀ T' h' v so, Hs p l e R s m args below meth c Z a0 EL cw own n0 bytes maxL ret nm T' h' (C + rm.cells) (S + rm.slots) (so ++ sf) → Q v h' so → Go p e below P (T'.setTop (mkF m pc' L (v.toList ++ rest)))) : Go p e below P (T.setTop (mkF m pc L st)) := by
  subst hp; subst has
  obtain ⟨hM, vm0, k0, locs, X, h1, h2, h3, h4, h5, h6, h7, h8, h9, hO⟩ := id H
  obtain ⟨cq, kq, qa, qb, qc⟩ := isOf (s := s.setVm vm0) h4 h1 E
  obtain ⟨v, vm₁, B, hw, X', hS, hg, ⟨L', so, q1, rO, r1, r2, r3, r4, r5, r6, r7⟩, st'⟩ := X.virtualBackS H.exec h5 (mvT (s := s.setVm vm0) h4 w1) (mvT (s := s.setVm vm0) h4 w2) (wn (s.setVm vm0) h4) (mvT (s := s.setVm vm0) h4 w3) (mvT (s := s.setVm vm0) h4 w4) hy (M.backS (W := W) hM.2.1 h4 wc wz hf hl h7.1 (fun x hx => h8 x (hsf x hx))) qa qc (g := mkF m pc L st) rfl (by rw [hM.2.2.2.1]; exact hL) (Steps.refl _) hlen hst (by show 2 * 0 + _ ≤ _; omega) (H.dec hd) (fun _ _ => ⟨rfl, h1, hc, hsl⟩)
  rw [h1] at hg
  exact Go.tr st' (k _ _ v so (H.behind (vm₁ := vm₁) h2 h3 h4 h5 h6 h7 h8 h9 X' hS hg r1 r2 r3 r4 r5 r6 r7 rO) q1)
theorem nf_sel {y : MethodName} {D : String} (w : (Cond.selects D y y).before a0 Z = true) : ∀ s' : State, Z.Warmed39 s'.vm → NotFace s' y := fun s' hZ => notFace_of_selects (args := #[]) (mvT (s := s') hZ w)
theorem own_and255 (x : Int32) : ¬ (x &&& 255) < 0 ∧ ¬ (255 : Int32) < (x &&& 255) := by
  have h : (x &&& 255).toBitVec.toNat < 256 := by
    simp only [Int32.toBitVec_and, BitVec.toNat_and]
    exact Nat.lt_succ_of_le Nat.and_le_right
  have h2 : (x &&& 255).toInt = ((x &&& 255).toBitVec.toNat : Int) := by
    show (x &&& 255).toBitVec.toInt = _
    rw [BitVec.toInt_eq_toNat_of_lt (by omega)]
  rw [Int32.lt_iff_toInt_lt, Int32.lt_iff_toInt_lt, h2]
  have e0 : (0 : Int32).toInt = 0 := rfl
  have e1 : (255 : Int32).toInt = 255 := rfl
  omega
theorem own_u16 {x : Int32} (h : ¬ x < 0 ∧ ¬ (255 : Int32) < x) : ¬ x < 0 ∧ ¬ (65535 : Int32) < x := by
  obtain ⟨h0, h1⟩ := h
  rw [Int32.lt_iff_toInt_lt] at h0 h1
  refine ⟨by rw [Int32.lt_iff_toInt_lt]; exact h0, ?_⟩
  rw [Int32.lt_iff_toInt_lt]
  have e1 : (255 : Int32).toInt = 255 := rfl
  have e2 : (65535 : Int32).toInt = 65535 := rfl
  omega
theorem own_c16 {x : Int32} (h : ¬ x < 0 ∧ ¬ (65535 : Int32) < x) : x.toUInt32.toUInt16.toUInt32.toInt32 = x := by
  obtain ⟨h0, h1⟩ := h
  rw [Int32.lt_iff_toInt_lt] at h0 h1
  have e0 : (0 : Int32).toInt = 0 := rfl
  have e2 : (65535 : Int32).toInt = 65535 := rfl
  have hb : x.toBitVec.toNat < 65536 := by
    have q : x.toBitVec.toInt = x.toInt := rfl
    have r := BitVec.toInt_eq_toNat_cond x.toBitVec
    split at r <;> omega
  apply Int32.toBitVec_inj.mp
  apply BitVec.eq_of_toNat_eq
  have e : x.toUInt32.toUInt16.toUInt32.toInt32.toBitVec.toNat = x.toUInt32.toUInt16.toUInt32.toNat := rfl
  rw [e, UInt16.toNat_toUInt32, UInt32.toNat_toUInt16]
  show x.toBitVec.toNat % 2 ^ 16 = _
  omega
theorem own_narC {x : Int32} (h : ¬ x < 0 ∧ ¬ (65535 : Int32) < x) : nar .char x = x := own_c16 h
theorem own_rem {x : Int32} {k : Int32} (hk : 0 < k.toInt) : 0 ≤ ((x &&& 2147483647) % k).toInt ∧ ((x &&& 2147483647) % k).toInt < k.toInt := by
  have h : (x &&& 2147483647).toBitVec.toNat < 2 ^ 31 := by
    simp only [Int32.toBitVec_and, BitVec.toNat_and]
    exact Nat.lt_of_le_of_lt Nat.and_le_right (by decide)
  have h2 : (x &&& 2147483647).toInt = ((x &&& 2147483647).toBitVec.toNat : Int) := by
    show (x &&& 2147483647).toBitVec.toInt = _
    rw [BitVec.toInt_eq_toNat_of_lt (by omega)]
  rw [Int32.toInt_mod, h2]
  exact ⟨Int.tmod_nonneg _ (by omega), Int.tmod_lt_of_pos _ hk⟩
theorem lcs {a b : Int32} {l m : List Int32} (h : a = b) (t : l = m) : a :: l = b :: m := by rw [h, t]
theorem mG {α : Type} {L : List α} {a : α} {i : Nat} (q : L[i]? = some a) : a ∈ L := List.mem_of_getElem? q
theorem lB {n m : Nat} (q : Nat.ble n m = true := by rfl) : n ≤ m := Nat.le_of_ble_eq_true q
theorem cb0 : ∀ c ∈ ([] : List Int32), ¬ c < 0 ∧ ¬ (255 : Int32) < c := fun _ q => nomatch q
theorem cbS {x : Int32} {xs : List Int32} (q : ¬ x < 0 ∧ ¬ (255 : Int32) < x) (r : ∀ c ∈ xs, ¬ c < 0 ∧ ¬ (255 : Int32) < c) : ∀ c ∈ x :: xs, ¬ c < 0 ∧ ¬ (255 : Int32) < c := fun c hc => by
  rcases List.mem_cons.mp hc with rfl | hc
  · exact q
  · exact r c hc
/-- a Latin-1 String and its bytes -/
def Str (Z : State) (h : Heap) (a t : Addr) (kb : ClassId) (cs : List Int32) : Prop :=
  Exa Z h a "java/lang/String" ∧ Fld Z h a "java/lang/String" "coder" "B" (.int 0) ∧ Fld Z h a "java/lang/String" "value" "[B" (.ref t) ∧ Arv Z h t kb .byte (Int32.ofNat cs.length) (cs.map fun c => Value.int c.toInt8.toInt32) (.int 0) ∧ (∀ c ∈ cs, ¬ c < 0 ∧ ¬ (255 : Int32) < c) ∧ cs.length ≤ 4000
theorem Str.ext {h' : Heap} {a t : Addr} {kb : ClassId} {cs : List Int32} (E : Ext h h') (F : Str Z h a t kb cs) : Str Z h' a t kb cs := ⟨F.1.ext E, F.2.1.ext E, F.2.2.1.ext E, F.2.2.2.1.ext E, F.2.2.2.2⟩
theorem Str.keep {h' : Heap} {a t : Addr} {kb : ClassId} {cs : List Int32} {ws : List Addr} (F : Str Z h a t kb cs) (K : Keep h h' ws) (q : a ∉ ws) (r : t ∉ ws) : Str Z h' a t kb cs := ⟨F.1.keep K, F.2.1.keep K q, F.2.2.1.keep K q, F.2.2.2.1.keep K r, F.2.2.2.2⟩
theorem Str.other {h' : Heap} {a t w : Addr} {sl : Nat} {v : Value} {kb : ClassId} {cs : List Int32} (W : Wr h h' w sl v) (F : Str Z h a t kb cs) (q : a ≠ w) (r : t ≠ w) : Str Z h' a t kb cs := ⟨F.1.wr W, F.2.1.other W (Or.inl q), F.2.2.1.other W (Or.inl q), F.2.2.2.1.other W r, F.2.2.2.2⟩
theorem G.pureV (H : Hs p l e R s m args below meth c Z a0 EL cw own n0 bytes maxL ret nm T h C S sf) {y : MethodName} {D : String} {Qv : Option Value → Prop} {as' : Array Value} {W : Nat} (hB : ∀ s' : State, Z.Warmed39 s'.vm → Back l R p e below s' args y 3 W (fun P a => a = as' ∧ P.U.heap = h ∧ P.cells + 0 ≤ R.cells ∧ P.slots + 0 ≤ R.slots) (fun P _ v B => ∃ L, (Qv v ∧ L = [] ∧ B.U.heap = h) ∧ B.locs = P.locs ++ L ∧ B.cells = P.cells + 0 ∧ B.slots = P.slots + 0))
    {index : Nat} (w1 : (Cond.methodLink own index y).before a0 Z = true) (w2 : (Cond.declares y).before a0 Z = true) (w3 : (Cond.selects D y y).before a0 Z = true) (w4 : (Cond.instanceMethod y).before a0 Z = true) (hy : y.cls ≠ "java/lang/invoke/MethodHandle" ∧ y.cls ≠ "java/lang/invoke/VarHandle")
    {a : Addr} (E : Exa Z h a D) {argsL rest st : List Value} {pc pc' : Nat} {L : Array Slot} (hL : L.size = maxL) (has : (Value.ref a :: argsL).toArray = as') (hlen : ∀ sig, parseMethodDescriptor y.desc = some sig → argsL.length = sig.parameters.length) (hst : st = argsL.reverse ++ .ref a :: rest) (hW : (rest.map fun v => v.category).sum = W) (hd : decode bytes pc = .ok (.invokevirtual index, 3)) (hp : pc + 3 = pc') (hc : C ≤ R.cells) (hsl : S ≤ R.slots)
    (k : ∀ T' v, Hs p l e R s m args below meth c Z a0 EL cw own n0 bytes maxL ret nm T' h C S sf → Qv v → Go p e below P (T'.setTop (mkF m pc' L (v.toList ++ rest)))) : Go p e below P (T.setTop (mkF m pc L st)) := by
  subst hp; subst has
  obtain ⟨hM, vm0, k0, locs, X, h1, h2, h3, h4, h5, h6, h7, h8, h9, hO⟩ := id H
  obtain ⟨cq, kq, qa, qb, qc⟩ := isOf (s := s.setVm vm0) h4 h1 E
  obtain ⟨v, vm₁, B, hw, X', ⟨L', ⟨q1, q2, q3⟩, r2, r3, r4⟩, st'⟩ := X.virtualBack H.exec h5 (mvT (s := s.setVm vm0) h4 w1) (mvT (s := s.setVm vm0) h4 w2) (notFace_of_selects (args := #[]) (mvT (s := s.setVm vm0) h4 w3)) (mvT (s := s.setVm vm0) h4 w3) (mvT (s := s.setVm vm0) h4 w4) hy (hB (s.setVm vm0) h4) qa qc (g := mkF m pc L st) rfl (by rw [hM.2.2.2.1]; exact hL) (Steps.refl _) hlen hst (by show 2 * 0 + _ ≤ _; omega) (H.dec hd) (fun _ _ => ⟨rfl, h1, hc, hsl⟩)
  subst q2
  refine Go.tr st' (k B.U v ⟨hM, vm0, k0, locs, ?_, q3, h2, h3, h4, h5, h6, h7, h8, h9, hO⟩ q1)
  have e1 : B.locs = locs := by rw [r2]; exact List.append_nil _
  have e2 : B.cells = C := r3
  have e3 : B.slots = S := r4
  rw [← e1, ← e2, ← e3]; exact X'
theorem Met.back {y : MethodName} {rm : Room} {as' : Array Value} {sfI : List Addr} {Q : Option Value → Heap → List Addr → Prop} {vm0 : Vm} {len W : Nat} (M : Met Z a0 EL False n0 l y bytes maxL ret rm as' h sfI Q) (hEL : EW Z a0 EL) (hZ : Z.Warmed39 vm0) (wc : (Cond.code y bytes maxL ret).before a0 Z = true) (wz : (Cond.initialized y.cls).before a0 Z = true) (hf : rm.frames + 1 ≤ R.frames) (hl : W + (maxL + 11) + rm.locals ≤ R.locals) (H : CHv Z EL vm0 h) (hs : ∀ x ∈ sfI, x < h.size ∧ Safe Z EL vm0 h x) :
    Back l R p e below (s.setVm vm0) args y len W (fun A a => a = as' ∧ A.U.heap = h ∧ A.cells + rm.cells ≤ R.cells ∧ A.slots + rm.slots ≤ R.slots)
      (fun A _ v B => ∃ L so, Q v B.U.heap so ∧ Old Z n0 B.U.heap ∧ Fr n0 L ∧ B.locs = A.locs ++ L ∧ B.cells = A.cells + rm.cells ∧ B.slots = A.slots + rm.slots ∧ CHr Z EL vm0 h B.U.vm B.U.heap ∧ (∀ x ∈ so, x < B.U.heap.size ∧ Safe Z EL B.U.vm B.U.heap x)) :=
  Back.of_free (bytes := bytes) (maxL := maxL) (ret := ret)
    (E := fun _ first o t L k n => k = rm.cells ∧ n = rm.slots ∧ ∃ v so, o = .returned v ∧ Q v t.heap so ∧ Old Z n0 t.heap ∧ Fr n0 L ∧ CHr Z EL first.vm first.heap t.vm t.heap ∧ (∀ x ∈ so, x < t.heap.size ∧ Safe Z EL t.vm t.heap x))
    (M []) hf hl
    (fun m meth c A a Y hp => have hU : Z.Warmed39 A.U.vm := wtrans (s := s.setVm vm0) hZ Y.warmed
      ⟨by show (Cond.and _ .tt).before a A.U = true; rw [Cond.before_and, mv hU wc]; rfl, mv hU wc, mv hU wz, hp.2.2.1, hp.2.2.2⟩)
    (fun m meth c A a g mk Y hp => by
      have A1 := CHv.at Y hZ hEL H
      exact ⟨hp.1, wtrans (s := s.setVm vm0) hZ Y.warmed, hp.2.1, A1.1, fun x hx => ⟨(hs x hx).1, A1.safe (hs x hx).1 (hs x hx).2⟩⟩)
    (fun _ _ _ _ _ _ _ _ _ => trivial)
    (fun _ _ _ _ ⟨v, L, so, h1, h2, hO, h3, h4, h5, h6, h7⟩ => ⟨L, _, _, h7.resolve_left (fun q => q), rfl, rfl, v, so, h1, h2, hO, h3, h4, h5⟩)
    (fun m meth c A a g mk v t L k n Y hp _ _ ⟨e1, e2, v', so, e3, e4, eO, e5, e6, e7⟩ => by
      cases e3; subst e1 e2
      refine ⟨L, so, e4, eO, e5, rfl, rfl, rfl, (CHv.at Y hZ hEL H).trans ?_, e7⟩
      rw [← hp.2.1]; exact e6)
end Kit
end Jvm.OwnKit
/- laws to paste: Road.backV, Road.eqW (cut by pick.py; bodies as the Statement names them) -/
namespace Jvm.Pilot.@@N@@
namespace StrChars
open Jvm Sem ClassFile Op Lib Jvm.Stand Jvm.Free.XT Jvm.Free.ALB Jvm.Free.JM Jvm.Free
open Jvm.Lib.Cold (StaticIs)
/-- a char array whose places are chars -/
def Ch (a : Addr) (A : Cell) (U : State) : Prop := Arr .char a A U ∧ Typed .char A
theorem Ch.mv {a : Addr} {A : Cell} {U U' : State} (h : Ch a A U) (hal : U.vm.Alike U'.vm) (hh : U'.heap = U.heap) : Ch a A U' := ⟨h.1.mv hal hh, h.2⟩
theorem Ch.keep {a : Addr} {A : Cell} {U U' : State} (h : Ch a A U) (hal : U.vm.Alike U'.vm) (hk : U'.heap[a]? = some A) : Ch a A U' := ⟨h.1.keep hal hk, h.2⟩
/-- what place i of a char[]'s cell holds -/
def cv (A : Cell) (i : Nat) : Int32 := match A.slots[i]? with | some (.int x) => x | _ => 0
theorem Ch.get {a : Addr} {A : Cell} {U : State} (h : Ch a A U) {i : Nat} (hi : i < A.slots.size) : A.slots[i]? = some (.int (cv A i)) := by
  have e := Array.getElem?_eq_getElem hi
  have f := h.2 i _ e
  unfold cv; rw [e]
  generalize A.slots[i] = v at f
  cases v <;> simp [fits] at f ⊢
/-- the byte that i2b leaves of a char -/
def lo8 (x : Int32) : Int32 := x.toInt8.toInt32
theorem fits_lo8 (y : Int32) : fits .byte (.int (lo8 y)) = true := by
  have h1 := y.toInt8.le_toInt
  have h2 := y.toInt8.toInt_lt
  simp only [lo8, fits, Bool.and_eq_true, decide_eq_true_eq, Int32.le_iff_toInt_le, Int8.toInt_toInt32, show (-128 : Int32).toInt = -128 from by decide, show (127 : Int32).toInt = 127 from by decide]
  omega
/-- A' is A but that each place j of lo .. hi - 1 holds f j -/
def Laid (A A' : Cell) (lo hi : Nat) (f : Nat → Value) : Prop := A'.cls = A.cls ∧ A'.vm = A.vm ∧ A'.slots.size = A.slots.size ∧ ∀ i, A'.slots[i]? = if lo ≤ i ∧ i < hi then some (f i) else A.slots[i]?
theorem Laid.zero (A : Cell) (lo : Nat) (f : Nat → Value) : Laid A A lo (lo + 0) f := ⟨rfl, rfl, rfl, fun i => by rw [if_neg (by omega)]⟩
theorem Laid.step {A Ak : Cell} {lo k : Nat} {f : Nat → Value} {v : Value} (h : Laid A Ak lo k f) (hlo : lo ≤ k) (hk : k < Ak.slots.size) (hv : v = f k) : Laid A (Ak.setSlot k v) lo (k + 1) f := by
  refine ⟨h.1, h.2.1, by simpa [Cell.setSlot] using h.2.2.1, fun i => ?_⟩
  by_cases e : k = i
  · subst e; rw [Cell.slots_setSlot_self v hk, if_pos (by omega), hv]
  · rw [Cell.slots_setSlot_ne v e, h.2.2.2 i]
    by_cases q : lo ≤ i ∧ i < k
    · rw [if_pos q, if_pos (by omega)]
    · rw [if_neg q, if_neg (by omega)]
def U16 : String := "java/lang/StringUTF16"
namespace Cmp5
def yN : MethodName := ⟨"java/lang/StringUTF16", "compress", "([CI[BII)I"⟩
abbrev yB : ByteArray := jdk_52_method_21_code
theorem d0 : decode yB 0 = .ok (.iconst 0, 1) := by decide +kernel
theorem d1 : decode yB 1 = .ok (.istore 5, 2) := by decide +kernel
theorem d3 : decode yB 3 = .ok (.iload 5, 2) := by decide +kernel
theorem d5 : decode yB 5 = .ok (.iload 4, 2) := by decide +kernel
theorem d7 : decode yB 7 = .ok (.if_icmp (.ge) 37, 3) := by decide +kernel
theorem d10 : decode yB 10 = .ok (.aload_n 0, 1) := by decide +kernel
theorem d11 : decode yB 11 = .ok (.iload_n 1, 1) := by decide +kernel
theorem d12 : decode yB 12 = .ok (.caload, 1) := by decide +kernel
theorem d13 : decode yB 13 = .ok (.istore 6, 2) := by decide +kernel
theorem d15 : decode yB 15 = .ok (.iload 6, 2) := by decide +kernel
theorem d17 : decode yB 17 = .ok (.sipush 255, 3) := by decide +kernel
theorem d20 : decode yB 20 = .ok (.if_icmp (.le) 6, 3) := by decide +kernel
theorem d26 : decode yB 26 = .ok (.aload_n 2, 1) := by decide +kernel
theorem d27 : decode yB 27 = .ok (.iload_n 3, 1) := by decide +kernel
theorem d28 : decode yB 28 = .ok (.iload 6, 2) := by decide +kernel
theorem d30 : decode yB 30 = .ok (.i2b, 1) := by decide +kernel
theorem d31 : decode yB 31 = .ok (.bastore, 1) := by decide +kernel
theorem d32 : decode yB 32 = .ok (.iinc 1 1, 3) := by decide +kernel
theorem d35 : decode yB 35 = .ok (.iinc 3 1, 3) := by decide +kernel
theorem d38 : decode yB 38 = .ok (.iinc 5 1, 3) := by decide +kernel
theorem d41 : decode yB 41 = .ok (.goto (-38), 3) := by decide +kernel
theorem d44 : decode yB 44 = .ok (.iload 4, 2) := by decide +kernel
theorem d46 : decode yB 46 = .ok (.ireturn, 1) := by decide +kernel
def site : List Cond := []
def tab : Cond := tabOf yN yB 7 (some .int) site
def P (b : Addr) (A : Cell) (d : Addr) (B : Cell) (o q len : Nat) (args : Array Value) (s : State) : Prop := args = #[.ref b, .int (Int32.ofNat o), .ref d, .int (Int32.ofNat q), .int (Int32.ofNat len)] ∧ Ch b A s ∧ Arr .byte d B s ∧ b ≠ d ∧ o + len ≤ A.slots.size ∧ q + len ≤ B.slots.size ∧ ∀ i, i < len → ¬ 255 < cv A (o + i)
def E (b : Addr) (A : Cell) (d : Addr) (B : Cell) (o q len : Nat) (r : Option Value) (s u : State) : Prop := r = some (.int (Int32.ofNat len)) ∧ ∃ B', Put d B' s u ∧ Laid B B' q (q + len) (fun j => Value.int (lo8 (cv A (o + (j - q)))))
/-- no char of the range above 255: len; the places written hold each char's low byte -/
theorem law (l : Launch) (b : Addr) (A : Cell) (d : Addr) (B : Cell) (o q len : Nat) : Law l yN 5 5 0 0 yB 7 (some .int) site (P b A d B o q len) (E b A d B o q len) (copyLocs d q len) 0 0 := by
  refine Law.of_walk (plainFor_of_name (by decide +kernel)) (by decide +kernel) (by decide +kernel) (by decide) (fun _ _ h => by rw [h.1]; rfl) (fun _ U U' hal hh h => ⟨h.1, h.2.1.mv hal hh, h.2.2.1.mv hal hh, h.2.2.2⟩) (fun r U U' V V' h1 hal h2 h => ⟨h.1, h.2.elim fun B' q => ⟨B', q.1.mv h1 h2, q.2⟩⟩) ?_
  intro p e s m args below meth c s₁ X0 hexec hbytes hml hret hlk hnm hown hh0 W hP
  obtain ⟨rfl, hA, hB, hne, l1, l2, hp⟩ := hP
  have c1 : Steps p.tables e below (s₁.setTop (entryFrame m #[.ref b, .int (Int32.ofNat o), .ref d, .int (Int32.ofNat q), .int (Int32.ofNat len)] 7)) (s₁.setTop (mkF m 0 #[.val (.ref b), .val (.int (Int32.ofNat o)), .val (.ref d), .val (.int (Int32.ofNat q)), .val (.int (Int32.ofNat len)), .unset, .unset] [])) := entry rfl
  have hA0 := hA.1.mv X0.warmed.alike hh0
  have hB0 := hB.mv X0.warmed.alike hh0
  have a31 := hA.1.2.2.2
  have c2 : Steps p.tables e below (s₁.setTop (entryFrame m #[.ref b, .int (Int32.ofNat o), .ref d, .int (Int32.ofNat q), .int (Int32.ofNat len)] 7)) (s₁.setTop (mkF m 3 #[.val (.ref b), .val (.int (Int32.ofNat o)), .val (.ref d), .val (.int (Int32.ofNat q)), .val (.int (Int32.ofNat len)), .val (.int 0), .unset] [])) := c1.trans (by
    refine iconstV X0.here hexec rfl 0 (hb hbytes d0) (by decide) ?_
    refine XS.istore X0.here hexec rfl (hb hbytes d1) rfl rfl ?_
    exact Steps.refl _)
  have loop : ∀ (r i : Nat), i + r = len → ∀ (z : Slot), (z = .unset ∨ ∃ w, z = .val w ∧ w.category = 1) → ∀ (Tl : State) (Bk : Cell), Stand p l e { frames := 0, locals := 0, cells := 0, slots := 0 } s m #[.ref b, .int (Int32.ofNat o), .ref d, .int (Int32.ofNat q), .int (Int32.ofNat len)] below meth c Tl ([] ++ copyLocs d q i) 0 0 → Put d Bk s₁ Tl → Laid B Bk q (q + i) (fun j => Value.int (lo8 (cv A (o + (j - q))))) →
      Steps p.tables e below (s₁.setTop (entryFrame m #[.ref b, .int (Int32.ofNat o), .ref d, .int (Int32.ofNat q), .int (Int32.ofNat len)] 7)) (Tl.setTop (mkF m 3 #[.val (.ref b), .val (.int (Int32.ofNat (o + i))), .val (.ref d), .val (.int (Int32.ofNat (q + i))), .val (.int (Int32.ofNat len)), .val (.int (Int32.ofNat i)), z] [])) → ∃ (T' : State) (B' : Cell) (z' : Slot), Stand p l e { frames := 0, locals := 0, cells := 0, slots := 0 } s m #[.ref b, .int (Int32.ofNat o), .ref d, .int (Int32.ofNat q), .int (Int32.ofNat len)] below meth c T' ([] ++ copyLocs d q len) 0 0 ∧ Put d B' s₁ T' ∧ Laid B B' q (q + len) (fun j => Value.int (lo8 (cv A (o + (j - q))))) ∧
      Steps p.tables e below (s₁.setTop (entryFrame m #[.ref b, .int (Int32.ofNat o), .ref d, .int (Int32.ofNat q), .int (Int32.ofNat len)] 7)) (T'.setTop (mkF m 3 #[.val (.ref b), .val (.int (Int32.ofNat (o + len))), .val (.ref d), .val (.int (Int32.ofNat (q + len))), .val (.int (Int32.ofNat len)), .val (.int (Int32.ofNat len)), z'] [])) := by
    intro r
    induction r with
    | zero =>
      intro i hi z hz Tl Bk Xl pl fl cl
      have hil : i = len := by omega
      rw [hil] at Xl fl cl
      exact ⟨Tl, Bk, z, Xl, pl, fl, cl⟩
    | succ r ih =>
      intro i hi z hz Tl Bk Xl pl fl cl
      have all := X0.warmed.alike.symm.trans Xl.warmed.alike
      have hAl := hA0.keep all (pl.other hne hA0.1)
      have hBk := hB0.like all pl.1 fl.1 fl.2.1 fl.2.2.1
      have hlt : q + i < Bk.slots.size := by rw [fl.2.2.1]; omega
      have c3 : Steps p.tables e below (s₁.setTop (entryFrame m #[.ref b, .int (Int32.ofNat o), .ref d, .int (Int32.ofNat q), .int (Int32.ofNat len)] 7)) (Tl.setTop (mkF m 12 #[.val (.ref b), .val (.int (Int32.ofNat (o + i))), .val (.ref d), .val (.int (Int32.ofNat (q + i))), .val (.int (Int32.ofNat len)), .val (.int (Int32.ofNat i)), z] [.int (Int32.ofNat (o + i)), .ref b])) := cl.trans (by
        refine XS.iload Xl.here hexec rfl (hb hbytes d3) rfl ?_
        refine XS.iload Xl.here hexec rfl (hb hbytes d5) rfl ?_
        refine XS.icmpNo Xl.here hexec rfl (hb hbytes d7) rfl (ii_ge_f (lt32 (by omega) (by omega))) ?_
        refine XS.aloadN Xl.here hexec rfl (hb hbytes d10) rfl rfl ?_
        refine XS.iloadN Xl.here hexec rfl (hb hbytes d11) rfl ?_
        exact Steps.refl _)
      have c4 : Steps p.tables e below (s₁.setTop (entryFrame m #[.ref b, .int (Int32.ofNat o), .ref d, .int (Int32.ofNat q), .int (Int32.ofNat len)] 7)) (Tl.setTop (mkF m 13 #[.val (.ref b), .val (.int (Int32.ofNat (o + i))), .val (.ref d), .val (.int (Int32.ofNat (q + i))), .val (.int (Int32.ofNat len)), .val (.int (Int32.ofNat i)), z] [.int (cv A (o + i))])) := c3.trans (by
        refine Xl.aget hexec hAl rfl (hA.get (i := o + i) (by omega)) rfl rfl (hb hbytes d12) ?_
        exact Steps.refl _)
      have c5 : Steps p.tables e below (s₁.setTop (entryFrame m #[.ref b, .int (Int32.ofNat o), .ref d, .int (Int32.ofNat q), .int (Int32.ofNat len)] 7)) (Tl.setTop (mkF m 15 #[.val (.ref b), .val (.int (Int32.ofNat (o + i))), .val (.ref d), .val (.int (Int32.ofNat (q + i))), .val (.int (Int32.ofNat len)), .val (.int (Int32.ofNat i)), .val (.int (cv A (o + i)))] [])) := c4.trans (by
        refine XS.istoreS Xl.here hexec rfl (hb hbytes d13) rfl rfl hz ?_
        exact Steps.refl _)
      have c6 : Steps p.tables e below (s₁.setTop (entryFrame m #[.ref b, .int (Int32.ofNat o), .ref d, .int (Int32.ofNat q), .int (Int32.ofNat len)] 7)) (Tl.setTop (mkF m 31 #[.val (.ref b), .val (.int (Int32.ofNat (o + i))), .val (.ref d), .val (.int (Int32.ofNat (q + i))), .val (.int (Int32.ofNat len)), .val (.int (Int32.ofNat i)), .val (.int (cv A (o + i)))] [.int (lo8 (cv A (o + i))), .int (Int32.ofNat (q + i)), .ref d])) := c5.trans (by
        refine XS.iload Xl.here hexec rfl (hb hbytes d15) rfl ?_
        refine sipushV Xl.here hexec rfl 255 (hb hbytes d17) (by decide) ?_
        refine XS.icmpYes Xl.here hexec rfl (pc0 := 20) rfl (hb hbytes d20) rfl (ii_le_t (hp i (by omega))) (by decide) rfl ?_
        refine XS.aloadN Xl.here hexec rfl (hb hbytes d26) rfl rfl ?_
        refine XS.iloadN Xl.here hexec rfl (hb hbytes d27) rfl ?_
        refine XS.iload Xl.here hexec rfl (hb hbytes d28) rfl ?_
        refine i2b Xl.here hexec rfl (hb hbytes d30) rfl ?_
        exact Steps.refl _)
      obtain ⟨T7, X7, p7, st7⟩ := Xl.aput hexec hBk rfl hlt rfl (fits_lo8 (cv A (o + i))) (g := (mkF m 31 #[.val (.ref b), .val (.int (Int32.ofNat (o + i))), .val (.ref d), .val (.int (Int32.ofNat (q + i))), .val (.int (Int32.ofNat len)), .val (.int (Int32.ofNat i)), .val (.int (cv A (o + i)))] [.int (lo8 (cv A (o + i))), .int (Int32.ofNat (q + i)), .ref d])) rfl (rest := []) rfl (hb hbytes d31)
      have c8 : Steps p.tables e below (s₁.setTop (entryFrame m #[.ref b, .int (Int32.ofNat o), .ref d, .int (Int32.ofNat q), .int (Int32.ofNat len)] 7)) (T7.setTop (mkF m 32 #[.val (.ref b), .val (.int (Int32.ofNat (o + i))), .val (.ref d), .val (.int (Int32.ofNat (q + i))), .val (.int (Int32.ofNat len)), .val (.int (Int32.ofNat i)), .val (.int (cv A (o + i)))] [])) := c6.trans (st7 _ (Steps.refl _))
      have c9 : Steps p.tables e below (s₁.setTop (entryFrame m #[.ref b, .int (Int32.ofNat o), .ref d, .int (Int32.ofNat q), .int (Int32.ofNat len)] 7)) (T7.setTop (mkF m 3 #[.val (.ref b), .val (.int (Int32.ofNat (o + i) + 1)), .val (.ref d), .val (.int (Int32.ofNat (q + i) + 1)), .val (.int (Int32.ofNat len)), .val (.int (Int32.ofNat i + 1)), .val (.int (cv A (o + i)))] [])) := c8.trans (by
        refine iincV X7.here hexec rfl 1 (hb hbytes d32) (by decide) rfl rfl ?_
        refine iincV X7.here hexec rfl 1 (hb hbytes d35) (by decide) rfl rfl ?_
        refine iincV X7.here hexec rfl 1 (hb hbytes d38) (by decide) rfl rfl ?_
        refine XS.goto X7.here hexec rfl (pc0 := 41) rfl (hb hbytes d41) (by decide) rfl ?_
        exact Steps.refl _)
      have c10 : Steps p.tables e below (s₁.setTop (entryFrame m #[.ref b, .int (Int32.ofNat o), .ref d, .int (Int32.ofNat q), .int (Int32.ofNat len)] 7)) (T7.setTop (mkF m 3 #[.val (.ref b), .val (.int (Int32.ofNat (o + (i + 1)))), .val (.ref d), .val (.int (Int32.ofNat (q + (i + 1)))), .val (.int (Int32.ofNat len)), .val (.int (Int32.ofNat (i + 1))), .val (.int (cv A (o + i)))] [])) := by
        have := c9
        rw [succ32, succ32, succ32] at this
        exact this
      exact ih (i + 1) (by omega) _ (Or.inr ⟨_, rfl, rfl⟩) T7 _ (by rw [copyLocs_step, ← List.append_assoc]; exact X7) (pl.trans p7) (fl.step (by omega) hlt (by simp)) c10
  obtain ⟨T9, B9, z9, X9, p9, f9, g9⟩ := loop len 0 (by omega) .unset (Or.inl rfl) s₁ B (by simpa [copyLocs] using X0) ⟨hB0.1, fun _ _ => rfl, rfl⟩ (Laid.zero _ _ _) c2
  have c11 : Steps p.tables e below (s₁.setTop (entryFrame m #[.ref b, .int (Int32.ofNat o), .ref d, .int (Int32.ofNat q), .int (Int32.ofNat len)] 7)) (T9.setTop (mkF m 46 #[.val (.ref b), .val (.int (Int32.ofNat (o + len))), .val (.ref d), .val (.int (Int32.ofNat (q + len))), .val (.int (Int32.ofNat len)), .val (.int (Int32.ofNat len)), z9] [.int (Int32.ofNat len)])) := g9.trans (by
    refine XS.iload X9.here hexec rfl (hb hbytes d3) rfl ?_
    refine XS.iload X9.here hexec rfl (hb hbytes d5) rfl ?_
    refine XS.icmpYes X9.here hexec rfl (pc0 := 7) rfl (hb hbytes d7) rfl (ii_ge_t (nlt32 (by omega) (Nat.le_refl _))) (by decide) rfl ?_
    refine XS.iload X9.here hexec rfl (hb hbytes d44) rfl ?_
    exact Steps.refl _)
  exact ⟨T9, some (.int (Int32.ofNat len)), _, _, _, X9, by simp, rfl, rfl, (fun h => by cases h), ⟨rfl, B9, p9.from hh0, f9⟩, fun fs hl => c11.trans (X9.ireturnOut hexec hret rfl (Or.inl rfl) (hb hbytes d46) hl)⟩
end Cmp5
namespace Cmp3
def yN : MethodName := ⟨"java/lang/StringUTF16", "compress", "([CII)[B"⟩
abbrev yB : ByteArray := jdk_52_method_16_code
theorem d0 : decode yB 0 = .ok (.iload_n 2, 1) := by decide +kernel
theorem d1 : decode yB 1 = .ok (.newarray .byte, 2) := by decide +kernel
theorem d3 : decode yB 3 = .ok (.astore_n 3, 1) := by decide +kernel
theorem d4 : decode yB 4 = .ok (.aload_n 0, 1) := by decide +kernel
theorem d5 : decode yB 5 = .ok (.iload_n 1, 1) := by decide +kernel
theorem d6 : decode yB 6 = .ok (.aload_n 3, 1) := by decide +kernel
theorem d7 : decode yB 7 = .ok (.iconst 0, 1) := by decide +kernel
theorem d8 : decode yB 8 = .ok (.iload_n 2, 1) := by decide +kernel
theorem d9 : decode yB 9 = .ok (.invokestatic 115, 3) := by decide +kernel
theorem d12 : decode yB 12 = .ok (.istore 4, 2) := by decide +kernel
theorem d14 : decode yB 14 = .ok (.iload 4, 2) := by decide +kernel
theorem d16 : decode yB 16 = .ok (.iload_n 2, 1) := by decide +kernel
theorem d17 : decode yB 17 = .ok (.if_icmp (.eq) 40, 3) := by decide +kernel
theorem d57 : decode yB 57 = .ok (.aload_n 3, 1) := by decide +kernel
theorem d58 : decode yB 58 = .ok (.areturn, 1) := by decide +kernel
def site : List Cond := [.arrayClass .byte, Cmp5.tab] ++ staticW U16 115 Cmp5.yN
def tab : Cond := tabOf yN yB 6 (some (.array .byte)) site
def P (b : Addr) (A : Cell) (o len : Nat) (args : Array Value) (s : State) : Prop := args = #[.ref b, .int (Int32.ofNat o), .int (Int32.ofNat len)] ∧ Ch b A s ∧ o + len ≤ A.slots.size ∧ len ≤ 536870912 ∧ ∀ i, i < len → ¬ 255 < cv A (o + i)
def E (b : Addr) (A : Cell) (o len : Nat) (r : Option Value) (s u : State) : Prop := NewArr .byte "[B" len (fun j => .int (lo8 (cv A (o + j)))) r s u ∧ u.heap.size = s.heap.size + 1
/-- no char of the range above 255: a new byte[] of their low bytes -/
theorem law (l : Launch) (b : Addr) (A : Cell) (o len : Nat) : Law l yN 3 3 1 18 yB 6 (some (.array .byte)) site (P b A o len) (E b A o len) [] 1 len := by
  refine Law.of_walk (plainFor_of_name (by decide +kernel)) (by decide +kernel) (by decide +kernel) (by decide) (fun _ _ h => by rw [h.1]; rfl) (fun _ U U' hal hh h => ⟨h.1, h.2.1.mv hal hh, h.2.2⟩) (fun r U U' V V' h1 hal h2 h => ⟨NewArr.mv r U U' V V' h1 hal h2 h.1, by rw [h1, h2]; exact h.2⟩) ?_
  intro p e s m args below meth c s₁ X0 hexec hbytes hml hret hlk hnm hown hh0 W hP
  obtain ⟨rfl, hA, l1, l2, hp⟩ := hP
  have a31 := hA.1.2.2.2
  have c1 : Steps p.tables e below (s₁.setTop (entryFrame m #[.ref b, .int (Int32.ofNat o), .int (Int32.ofNat len)] 6)) (s₁.setTop (mkF m 0 #[.val (.ref b), .val (.int (Int32.ofNat o)), .val (.int (Int32.ofNat len)), .unset, .unset, .unset] [])) := entry rfl
  have c2 : Steps p.tables e below (s₁.setTop (entryFrame m #[.ref b, .int (Int32.ofNat o), .int (Int32.ofNat len)] 6)) (s₁.setTop (mkF m 1 #[.val (.ref b), .val (.int (Int32.ofNat o)), .val (.int (Int32.ofNat len)), .unset, .unset, .unset] [.int (Int32.ofNat len)])) := c1.trans (by
    refine XS.iloadN X0.here hexec rfl (hb hbytes d0) rfl ?_
    exact Steps.refl _)
  obtain ⟨T3, B3, X3, ba3, bs3, bv3, bh3, bf3, st3⟩ := X0.anew hexec (atype := .byte) (wk W (.arrayClass .byte)) rfl (by show len * 1 ≤ _; omega) (by omega) (g := (mkF m 1 #[.val (.ref b), .val (.int (Int32.ofNat o)), .val (.int (Int32.ofNat len)), .unset, .unset, .unset] [.int (Int32.ofNat len)])) rfl (hb hbytes d1) (rest := []) rfl (Nat.le_refl _) (by show 0 + len ≤ len; omega)
  rw [hh0] at ba3 st3
  have kp3 : XT.Kept s T3 := (XT.Kept.of_eq hh0).push bh3
  have hA3 := hA.keep X3.warmed.alike (kp3 _ _ hA.1.1)
  have hne : b ≠ s.heap.size := hA.1.ne
  have c4 : Steps p.tables e below (s₁.setTop (entryFrame m #[.ref b, .int (Int32.ofNat o), .int (Int32.ofNat len)] 6)) (T3.setTop (mkF m 3 #[.val (.ref b), .val (.int (Int32.ofNat o)), .val (.int (Int32.ofNat len)), .unset, .unset, .unset] [.ref s.heap.size])) := c2.trans (st3 _ (Steps.refl _))
  have c5 : Steps p.tables e below (s₁.setTop (entryFrame m #[.ref b, .int (Int32.ofNat o), .int (Int32.ofNat len)] 6)) (T3.setTop (mkF m 9 #[.val (.ref b), .val (.int (Int32.ofNat o)), .val (.int (Int32.ofNat len)), .val (.ref s.heap.size), .unset, .unset] [.int (Int32.ofNat len), .int 0, .ref s.heap.size, .int (Int32.ofNat o), .ref b])) := c4.trans (by
    refine XS.astoreN X3.here hexec rfl (hb hbytes d3) rfl rfl rfl ?_
    refine XS.aloadN X3.here hexec rfl (hb hbytes d4) rfl rfl ?_
    refine XS.iloadN X3.here hexec rfl (hb hbytes d5) rfl ?_
    refine XS.aloadN X3.here hexec rfl (hb hbytes d6) rfl rfl ?_
    refine iconstV X3.here hexec rfl 0 (hb hbytes d7) (by decide) ?_
    refine XS.iloadN X3.here hexec rfl (hb hbytes d8) rfl ?_
    exact Steps.refl _)
  obtain ⟨v6, T6, X6, E6, g6⟩ := X3.callS hexec (Cmp5.law l b A s.heap.size B3 o 0 len) hown (wks W (staticW U16 115 Cmp5.yN)) (wk W Cmp5.tab) (W := 0) (Nat.le_of_ble_eq_true rfl) (Nat.le_of_ble_eq_true rfl) (Nat.le_refl _) (by show 0 + len + 0 ≤ len; omega) (g := (mkF m 9 #[.val (.ref b), .val (.int (Int32.ofNat o)), .val (.int (Int32.ofNat len)), .val (.ref s.heap.size), .unset, .unset] [.int (Int32.ofNat len), .int (Int32.ofNat 0), .ref s.heap.size, .int (Int32.ofNat o), .ref b])) rfl (by rw [hml]; rfl) c5 (argsL := [.ref b, .int (Int32.ofNat o), .ref s.heap.size, .int (Int32.ofNat 0), .int (Int32.ofNat len)]) (rest := []) rfl rfl (by show 2 * 0 + 0 ≤ _; decide) (hb hbytes d9) (⟨rfl, hA3, ba3, hne, l1, by rw [bs3]; simp, hp⟩)
  obtain ⟨rfl, B6, p6, f6⟩ := E6
  have c7 : Steps p.tables e below (s₁.setTop (entryFrame m #[.ref b, .int (Int32.ofNat o), .int (Int32.ofNat len)] 6)) (T6.setTop (mkF m 12 #[.val (.ref b), .val (.int (Int32.ofNat o)), .val (.int (Int32.ofNat len)), .val (.ref s.heap.size), .unset, .unset] [.int (Int32.ofNat len)])) := g6
  have c8 : Steps p.tables e below (s₁.setTop (entryFrame m #[.ref b, .int (Int32.ofNat o), .int (Int32.ofNat len)] 6)) (T6.setTop (mkF m 58 #[.val (.ref b), .val (.int (Int32.ofNat o)), .val (.int (Int32.ofNat len)), .val (.ref s.heap.size), .val (.int (Int32.ofNat len)), .unset] [.ref s.heap.size])) := c7.trans (by
    refine XS.istore X6.here hexec rfl (hb hbytes d12) rfl rfl ?_
    refine XS.iload X6.here hexec rfl (hb hbytes d14) rfl ?_
    refine XS.iloadN X6.here hexec rfl (hb hbytes d16) rfl ?_
    refine XS.icmpYes X6.here hexec rfl (pc0 := 17) rfl (hb hbytes d17) rfl (ii_eq_t rfl) (by decide) rfl ?_
    refine XS.aloadN X6.here hexec rfl (hb hbytes d57) rfl rfl ?_
    exact Steps.refl _)
  have X8 := X6.wide (L' := []) (cells' := 1) (slots' := len) (fun x hx hlt => by
    simp only [List.nil_append, copyLocs, List.mem_map, List.mem_range] at hx
    obtain ⟨i, -, rfl⟩ := hx
    exact absurd hlt (Nat.lt_irrefl _)) (Nat.le_refl _) (by omega)
  exact ⟨T6, some (.ref s.heap.size), _, _, _, X8, rfl, rfl, rfl, (fun h => by cases h), ⟨⟨rfl, B6, ba3.like (X3.warmed.alike.symm.trans X6.warmed.alike) p6.1 f6.1 f6.2.1 f6.2.2.1, f6.2.1.trans bv3, by rw [X6.warmed.alike.findClass, f6.1]; exact bf3, by rw [f6.2.2.1, bs3]; simp, fun j hj => by rw [f6.2.2.2 j, if_pos (by omega)]; rfl, kp3.put p6 (Nat.le_refl _)⟩, by rw [p6.2.2, bh3, hh0]; simp⟩, fun fs hl => c8.trans (X8.areturnOut hexec rfl hret rfl (hb hbytes d58) hl)⟩
end Cmp3
namespace CodL
def yN : MethodName := ⟨"java/lang/StringUTF16", "coderFromArrayLen", "([BI)B"⟩
abbrev yB : ByteArray := jdk_52_method_15_code
theorem d0 : decode yB 0 = .ok (.iload_n 1, 1) := by decide +kernel
theorem d1 : decode yB 1 = .ok (.aload_n 0, 1) := by decide +kernel
theorem d2 : decode yB 2 = .ok (.arraylength, 1) := by decide +kernel
theorem d3 : decode yB 3 = .ok (.isub, 1) := by decide +kernel
theorem d4 : decode yB 4 = .ok (.bipush 31, 2) := by decide +kernel
theorem d6 : decode yB 6 = .ok (.iushr, 1) := by decide +kernel
theorem d7 : decode yB 7 = .ok (.i2b, 1) := by decide +kernel
theorem d8 : decode yB 8 = .ok (.ireturn, 1) := by decide +kernel
def site : List Cond := []
def tab : Cond := tabOf yN yB 2 (some .byte) site
def P (d : Addr) (B : Cell) (args : Array Value) (s : State) : Prop := args = #[.ref d, .int (Int32.ofNat B.slots.size)] ∧ Arr .byte d B s
def E (r : Option Value) (s u : State) : Prop := XT.PureE (some (.int 0)) r s u
/-- an array as long as the number of chars: LATIN1 -/
theorem law (l : Launch) (d : Addr) (B : Cell) : Law l yN 2 2 0 0 yB 2 (some .byte) site (P d B) E [] 0 0 := by
  refine Law.of_walk (plainFor_of_name (by decide +kernel)) (by decide +kernel) (by decide +kernel) (by decide) (fun _ _ h => by rw [h.1]; rfl) (fun _ U U' hal hh h => ⟨h.1, h.2.mv hal hh⟩) (fun r U U' V V' h1 hal h2 h => XT.PureE.mv r U U' V V' h1 hal h2 h) ?_
  intro p e s m args below meth c s₁ X0 hexec hbytes hml hret hlk hnm hown hh0 W hP
  obtain ⟨rfl, hB⟩ := hP
  have hB0 := hB.mv X0.warmed.alike hh0
  have c1 : Steps p.tables e below (s₁.setTop (entryFrame m #[.ref d, .int (Int32.ofNat B.slots.size)] 2)) (s₁.setTop (mkF m 0 #[.val (.ref d), .val (.int (Int32.ofNat B.slots.size))] [])) := entry rfl
  have c2 : Steps p.tables e below (s₁.setTop (entryFrame m #[.ref d, .int (Int32.ofNat B.slots.size)] 2)) (s₁.setTop (mkF m 2 #[.val (.ref d), .val (.int (Int32.ofNat B.slots.size))] [.ref d, .int (Int32.ofNat B.slots.size)])) := c1.trans (by
    refine XS.iloadN X0.here hexec rfl (hb hbytes d0) rfl ?_
    refine XS.aloadN X0.here hexec rfl (hb hbytes d1) rfl rfl ?_
    exact Steps.refl _)
  have c3 : Steps p.tables e below (s₁.setTop (entryFrame m #[.ref d, .int (Int32.ofNat B.slots.size)] 2)) (s₁.setTop (mkF m 8 #[.val (.ref d), .val (.int (Int32.ofNat B.slots.size))] [.int (lo8 (ushr (Int32.ofNat B.slots.size - Int32.ofNat B.slots.size) 31))])) := c2.trans (by
    refine X0.alen hexec hB0 rfl rfl (hb hbytes d2) ?_
    refine XS.isub X0.here hexec rfl (hb hbytes d3) rfl ?_
    refine bipushV X0.here hexec rfl 31 (hb hbytes d4) (by decide) ?_
    refine iushr X0.here hexec rfl (hb hbytes d6) rfl ?_
    refine i2b X0.here hexec rfl (hb hbytes d7) rfl ?_
    exact Steps.refl _)
  have e0 : lo8 (ushr (Int32.ofNat B.slots.size - Int32.ofNat B.slots.size) 31) = 0 := by rw [Int32.sub_self]; decide
  rw [e0] at c3
  exact ⟨s₁, some (.int 0), _, _, _, X0, rfl, rfl, rfl, (fun h => by cases h), ⟨rfl, hh0⟩, fun fs hl => c3.trans (X0.ireturnOut hexec hret rfl (Or.inr (Or.inr (Or.inl rfl))) (hb hbytes d8) hl)⟩
end CodL
/-- the String at a is Latin-1 over a new byte[] (the heap's one new cell): the low bytes of the len chars of A from o on; every cell but a is kept -/
def Got (a : Addr) (D : Cell) (fV fC : Field) (A : Cell) (o len : Nat) (r : Option Value) (s u : State) : Prop := r = none ∧ ∃ D' V : Cell, Blank "java/lang/String" a D' u ∧ Same D D' [fV.slot, fC.slot] ∧ D'.slots[fV.slot]? = some (.ref s.heap.size) ∧ D'.slots[fC.slot]? = some (.int 0) ∧ Arr .byte s.heap.size V u ∧ V.vm = .none ∧ u.vm.findClass "[B" = some V.cls ∧ V.slots.size = len ∧ (∀ j, j < len → V.slots[j]? = some (.int (lo8 (cv A (o + j))))) ∧ (∀ (y : Addr) (c : Cell), y ≠ a → s.heap[y]? = some c → u.heap[y]? = some c) ∧ u.heap.size = s.heap.size + 1
theorem Got.mv {a : Addr} {D A : Cell} {fV fC : Field} {o len : Nat} : ∀ r (U U' V V' : State), U'.heap = U.heap → V.vm.Alike V'.vm → V'.heap = V.heap → Got a D fV fC A o len r U V → Got a D fV fC A o len r U' V' :=
  fun r U U' V V' h1 hal h2 ⟨e0, D', X, a1, a2, a3, a4, a5, a6, a7, a8, a9, a10, a11⟩ => ⟨e0, D', X, a1.mv hal h2, a2, by rw [h1]; exact a3, a4, by rw [h1]; exact a5.mv hal h2, a6, by rw [hal.findClass]; exact a7, a8, a9, by rw [h1, h2]; exact a10, by rw [h1, h2]; exact a11⟩
namespace New4
def yN : MethodName := ⟨"java/lang/String", "<init>", "([CIILjava/lang/Void;)V"⟩
abbrev yB : ByteArray := jdk_42_method_149_code
theorem d0 : decode yB 0 = .ok (.aload_n 0, 1) := by decide +kernel
theorem d1 : decode yB 1 = .ok (.invokespecial 1, 3) := by decide +kernel
theorem d4 : decode yB 4 = .ok (.iload_n 3, 1) := by decide +kernel
theorem d5 : decode yB 5 = .ok (.ifCond (.ne) 22, 3) := by decide +kernel
theorem d27 : decode yB 27 = .ok (.getstatic 38, 3) := by decide +kernel
theorem d30 : decode yB 30 = .ok (.ifCond (.eq) 28, 3) := by decide +kernel
theorem d33 : decode yB 33 = .ok (.aload_n 1, 1) := by decide +kernel
theorem d34 : decode yB 34 = .ok (.iload_n 2, 1) := by decide +kernel
theorem d35 : decode yB 35 = .ok (.iload_n 3, 1) := by decide +kernel
theorem d36 : decode yB 36 = .ok (.invokestatic 177, 3) := by decide +kernel
theorem d39 : decode yB 39 = .ok (.astore 5, 2) := by decide +kernel
theorem d41 : decode yB 41 = .ok (.aload_n 0, 1) := by decide +kernel
theorem d42 : decode yB 42 = .ok (.aload 5, 2) := by decide +kernel
theorem d44 : decode yB 44 = .ok (.iload_n 3, 1) := by decide +kernel
theorem d45 : decode yB 45 = .ok (.invokestatic 47, 3) := by decide +kernel
theorem d48 : decode yB 48 = .ok (.putfield 15, 3) := by decide +kernel
theorem d51 : decode yB 51 = .ok (.aload_n 0, 1) := by decide +kernel
theorem d52 : decode yB 52 = .ok (.aload 5, 2) := by decide +kernel
theorem d54 : decode yB 54 = .ok (.putfield 9, 3) := by decide +kernel
theorem d57 : decode yB 57 = .ok (.return_, 1) := by decide +kernel
def site : List Cond := [.fieldLink "java/lang/String" 38 "java/lang/String" "COMPACT_STRINGS" "Z", Cmp3.tab, CodL.tab, .laysFinal "java/lang/String" "java/lang/String" "value" "[B", .fieldLink "java/lang/String" 9 "java/lang/String" "value" "[B", .laysFinal "java/lang/String" "java/lang/String" "coder" "B", .fieldLink "java/lang/String" 15 "java/lang/String" "coder" "B"] ++ objW "java/lang/String" 1 ++ staticW "java/lang/String" 177 Cmp3.yN ++ staticW "java/lang/String" 47 CodL.yN
def tab : Cond := tabOf yN yB 6 none site
def P (a : Addr) (D : Cell) (fV fC : Field) (b : Addr) (A : Cell) (z : Int32) (o len : Nat) (args : Array Value) (s : State) : Prop := args = #[.ref a, .ref b, .int (Int32.ofNat o), .int (Int32.ofNat len), .null] ∧ Blank "java/lang/String" a D s ∧ Found "java/lang/String" "value" "[B" fV s ∧ Found "java/lang/String" "coder" "B" fC s ∧ Ch b A s ∧ StaticIs s "java/lang/String" "COMPACT_STRINGS" "Z" (.int z) ∧ ¬ z = 0 ∧ 0 < len ∧ o + len ≤ A.slots.size ∧ len ≤ 536870912 ∧ ∀ i, i < len → ¬ 255 < cv A (o + i)
def E (a : Addr) (D : Cell) (fV fC : Field) (A : Cell) (o len : Nat) (r : Option Value) (s u : State) : Prop := Got a D fV fC A o len r s u
/-- len > 0, no char of the range above 255: a Latin-1 String of their low bytes -/
theorem law (l : Launch) (a : Addr) (D : Cell) (fV fC : Field) (b : Addr) (A : Cell) (z : Int32) (o len : Nat) : Law l yN 5 4 2 35 yB 6 none site (P a D fV fC b A z o len) (E a D fV fC A o len) [⟨a, fC.slot⟩, ⟨a, fV.slot⟩] 1 len := by
  refine Law.of_walk (plainFor_of_name (by decide +kernel)) (by decide +kernel) (by decide +kernel) (by decide) (fun _ _ h => by rw [h.1]; rfl) (fun _ U U' hal hh h => ⟨h.1, h.2.1.mv hal hh, h.2.2.1.al hal, h.2.2.2.1.al hal, h.2.2.2.2.1.mv hal hh, h.2.2.2.2.2.1.there hal hh, h.2.2.2.2.2.2⟩) (fun r U U' V V' h1 hal h2 h => Got.mv r U U' V V' h1 hal h2 h) ?_
  intro p e s m args below meth c s₁ X0 hexec hbytes hml hret hlk hnm hown hh0 W hP
  obtain ⟨rfl, hB, f1, f2, hA, s1, hz, l0, l1, l2, hp⟩ := hP
  have a31 := hA.1.2.2.2
  have c1 : Steps p.tables e below (s₁.setTop (entryFrame m #[.ref a, .ref b, .int (Int32.ofNat o), .int (Int32.ofNat len), .null] 6)) (s₁.setTop (mkF m 0 #[.val (.ref a), .val (.ref b), .val (.int (Int32.ofNat o)), .val (.int (Int32.ofNat len)), .val .null, .unset] [])) := entry rfl
  have c2 : Steps p.tables e below (s₁.setTop (entryFrame m #[.ref a, .ref b, .int (Int32.ofNat o), .int (Int32.ofNat len), .null] 6)) (s₁.setTop (mkF m 1 #[.val (.ref a), .val (.ref b), .val (.int (Int32.ofNat o)), .val (.int (Int32.ofNat len)), .val .null, .unset] [.ref a])) := c1.trans (by
    refine XS.aloadN X0.here hexec rfl (hb hbytes d0) rfl rfl ?_
    exact Steps.refl _)
  obtain ⟨T3, X3, q3, st3⟩ := X0.oinit hexec hown (wks W (objW "java/lang/String" 1)) (g := (mkF m 1 #[.val (.ref a), .val (.ref b), .val (.int (Int32.ofNat o)), .val (.int (Int32.ofNat len)), .val .null, .unset] [.ref a])) rfl (by rw [hml]; rfl) (rest := []) rfl (hb hbytes d1) (W := 0) (by show 2 * 0 + 0 ≤ _; decide) (Nat.le_of_ble_eq_true rfl) (Nat.le_of_ble_eq_true rfl)
  have hh3 := q3.trans hh0
  have c4 : Steps p.tables e below (s₁.setTop (entryFrame m #[.ref a, .ref b, .int (Int32.ofNat o), .int (Int32.ofNat len), .null] 6)) (T3.setTop (mkF m 27 #[.val (.ref a), .val (.ref b), .val (.int (Int32.ofNat o)), .val (.int (Int32.ofNat len)), .val .null, .unset] [])) := (c2.trans (st3 _ (Steps.refl _))).trans (by
    refine XS.iloadN X3.here hexec rfl (hb hbytes d4) rfl ?_
    refine XS.ifYes X3.here hexec rfl (pc0 := 5) rfl (hb hbytes d5) rfl (i0_ne_t (nz32 (by omega) l0)) (by decide) rfl ?_
    exact Steps.refl _)
  obtain ⟨T5, X5, q5, st5⟩ := X3.sget hexec hown (wk W (.fieldLink "java/lang/String" 38 "java/lang/String" "COMPACT_STRINGS" "Z")) s1 (fun _ _ h => by rw [hh3]; exact h) (g := (mkF m 27 #[.val (.ref a), .val (.ref b), .val (.int (Int32.ofNat o)), .val (.int (Int32.ofNat len)), .val .null, .unset] [])) rfl (hb hbytes d27)
  have hh5 := q5.trans hh3
  have c6 : Steps p.tables e below (s₁.setTop (entryFrame m #[.ref a, .ref b, .int (Int32.ofNat o), .int (Int32.ofNat len), .null] 6)) (T5.setTop (mkF m 30 #[.val (.ref a), .val (.ref b), .val (.int (Int32.ofNat o)), .val (.int (Int32.ofNat len)), .val .null, .unset] [.int z])) := c4.trans (st5 _ (Steps.refl _))
  have c7 : Steps p.tables e below (s₁.setTop (entryFrame m #[.ref a, .ref b, .int (Int32.ofNat o), .int (Int32.ofNat len), .null] 6)) (T5.setTop (mkF m 36 #[.val (.ref a), .val (.ref b), .val (.int (Int32.ofNat o)), .val (.int (Int32.ofNat len)), .val .null, .unset] [.int (Int32.ofNat len), .int (Int32.ofNat o), .ref b])) := c6.trans (by
    refine XS.ifNo X5.here hexec rfl (hb hbytes d30) rfl (i0_eq_f hz) ?_
    refine XS.aloadN X5.here hexec rfl (hb hbytes d33) rfl rfl ?_
    refine XS.iloadN X5.here hexec rfl (hb hbytes d34) rfl ?_
    refine XS.iloadN X5.here hexec rfl (hb hbytes d35) rfl ?_
    exact Steps.refl _)
  obtain ⟨v8, T8, X8, E8, g8⟩ := X5.callS hexec (Cmp3.law l b A o len) hown (wks W (staticW "java/lang/String" 177 Cmp3.yN)) (wk W Cmp3.tab) (W := 0) (Nat.le_of_ble_eq_true rfl) (Nat.le_of_ble_eq_true rfl) (Nat.le_refl _) (by show 0 + len ≤ len; omega) (g := (mkF m 36 #[.val (.ref a), .val (.ref b), .val (.int (Int32.ofNat o)), .val (.int (Int32.ofNat len)), .val .null, .unset] [.int (Int32.ofNat len), .int (Int32.ofNat o), .ref b])) rfl (by rw [hml]; rfl) c7 (argsL := [.ref b, .int (Int32.ofNat o), .int (Int32.ofNat len)]) (rest := []) rfl rfl (by show 2 * 0 + 0 ≤ _; decide) (hb hbytes d36) (⟨rfl, hA.mv X5.warmed.alike hh5, l1, l2, hp⟩)
  obtain ⟨e8, z8⟩ := E8
  obtain ⟨rfl, N, n1, n2, n3, n4, n5, n6⟩ := NewArr.mv _ T5 s _ _ hh5.symm (Vm.Alike.refl _) rfl e8
  rw [hh5] at z8
  have hB1 := hB.keep X8.warmed.alike (n6 _ _ hB.1)
  have hne : s.heap.size ≠ a := (Nat.ne_of_lt (Array.getElem?_eq_some_iff.mp hB.1).1).symm
  have c9 : Steps p.tables e below (s₁.setTop (entryFrame m #[.ref a, .ref b, .int (Int32.ofNat o), .int (Int32.ofNat len), .null] 6)) (T8.setTop (mkF m 39 #[.val (.ref a), .val (.ref b), .val (.int (Int32.ofNat o)), .val (.int (Int32.ofNat len)), .val .null, .unset] [.ref s.heap.size])) := g8
  have c10 : Steps p.tables e below (s₁.setTop (entryFrame m #[.ref a, .ref b, .int (Int32.ofNat o), .int (Int32.ofNat len), .null] 6)) (T8.setTop (mkF m 45 #[.val (.ref a), .val (.ref b), .val (.int (Int32.ofNat o)), .val (.int (Int32.ofNat len)), .val .null, .val (.ref s.heap.size)] [.int (Int32.ofNat N.slots.size), .ref s.heap.size, .ref a])) := by
    have hc : Steps p.tables e below (s₁.setTop (entryFrame m #[.ref a, .ref b, .int (Int32.ofNat o), .int (Int32.ofNat len), .null] 6)) (T8.setTop (mkF m 45 #[.val (.ref a), .val (.ref b), .val (.int (Int32.ofNat o)), .val (.int (Int32.ofNat len)), .val .null, .val (.ref s.heap.size)] [.int (Int32.ofNat len), .ref s.heap.size, .ref a])) := c9.trans (by
      refine XS.astore X8.here hexec rfl (hb hbytes d39) rfl rfl rfl ?_
      refine XS.aloadN X8.here hexec rfl (hb hbytes d41) rfl rfl ?_
      refine XS.aload X8.here hexec rfl (hb hbytes d42) rfl rfl ?_
      refine XS.iloadN X8.here hexec rfl (hb hbytes d44) rfl ?_
      exact Steps.refl _)
    rw [n4]; exact hc
  obtain ⟨v11, T11, X11, E11, g11⟩ := X8.callS hexec (CodL.law l s.heap.size N) hown (wks W (staticW "java/lang/String" 47 CodL.yN)) (wk W CodL.tab) (W := 1) (Nat.le_of_ble_eq_true rfl) (Nat.le_of_ble_eq_true rfl) (Nat.le_refl _) (by show 0 + len + 0 ≤ len; omega) (g := (mkF m 45 #[.val (.ref a), .val (.ref b), .val (.int (Int32.ofNat o)), .val (.int (Int32.ofNat len)), .val .null, .val (.ref s.heap.size)] [.int (Int32.ofNat N.slots.size), .ref s.heap.size, .ref a])) rfl (by rw [hml]; rfl) c10 (argsL := [.ref s.heap.size, .int (Int32.ofNat N.slots.size)]) (rest := [.ref a]) rfl rfl (by show 2 * 0 + (1 + 0) ≤ _; decide) (hb hbytes d45) (⟨rfl, n1⟩)
  obtain ⟨rfl, q11⟩ := E11
  have hB11 := hB1.mv (X8.warmed.alike.symm.trans X11.warmed.alike) q11
  have c12 : Steps p.tables e below (s₁.setTop (entryFrame m #[.ref a, .ref b, .int (Int32.ofNat o), .int (Int32.ofNat len), .null] 6)) (T11.setTop (mkF m 48 #[.val (.ref a), .val (.ref b), .val (.int (Int32.ofNat o)), .val (.int (Int32.ofNat len)), .val .null, .val (.ref s.heap.size)] [.int 0, .ref a])) := g11
  obtain ⟨T13, X13, p13, bl13, sl13, st13⟩ := X11.finit hexec hown (wk W (.fieldLink "java/lang/String" 15 "java/lang/String" "coder" "B")) (Or.inr ⟨_, (wk W (.laysFinal "java/lang/String" "java/lang/String" "coder" "B"))⟩) (Or.inl ⟨rfl, hnm⟩) f2 (Or.inl rfl) hB11 (t := .byte) (by decide +kernel) rfl (g := (mkF m 48 #[.val (.ref a), .val (.ref b), .val (.int (Int32.ofNat o)), .val (.int (Int32.ofNat len)), .val .null, .val (.ref s.heap.size)] [.int 0, .ref a])) rfl (rest := []) rfl (hb hbytes d48)
  have c14 : Steps p.tables e below (s₁.setTop (entryFrame m #[.ref a, .ref b, .int (Int32.ofNat o), .int (Int32.ofNat len), .null] 6)) (T13.setTop (mkF m 54 #[.val (.ref a), .val (.ref b), .val (.int (Int32.ofNat o)), .val (.int (Int32.ofNat len)), .val .null, .val (.ref s.heap.size)] [.ref s.heap.size, .ref a])) := (c12.trans (st13 _ (Steps.refl _))).trans (by
    refine XS.aloadN X13.here hexec rfl (hb hbytes d51) rfl rfl ?_
    refine XS.aload X13.here hexec rfl (hb hbytes d52) rfl rfl ?_
    exact Steps.refl _)
  obtain ⟨T15, X15, p15, bl15, sl15, st15⟩ := X13.finit hexec hown (wk W (.fieldLink "java/lang/String" 9 "java/lang/String" "value" "[B")) (Or.inr ⟨_, (wk W (.laysFinal "java/lang/String" "java/lang/String" "value" "[B"))⟩) (Or.inl ⟨rfl, hnm⟩) f1 (Or.inl rfl) bl13 (t := (.array .byte)) (by decide +kernel) rfl (g := (mkF m 54 #[.val (.ref a), .val (.ref b), .val (.int (Int32.ofNat o)), .val (.int (Int32.ofNat len)), .val .null, .val (.ref s.heap.size)] [.ref s.heap.size, .ref a])) rfl (rest := []) rfl (hb hbytes d54)
  have c16 : Steps p.tables e below (s₁.setTop (entryFrame m #[.ref a, .ref b, .int (Int32.ofNat o), .int (Int32.ofNat len), .null] 6)) (T15.setTop (mkF m 57 #[.val (.ref a), .val (.ref b), .val (.int (Int32.ofNat o)), .val (.int (Int32.ofNat len)), .val .null, .val (.ref s.heap.size)] [])) := c14.trans (st15 _ (Steps.refl _))
  have ap := apart (Or.inr ⟨_, (wk W (.laysFinal "java/lang/String" "java/lang/String" "value" "[B"))⟩) (Or.inr ⟨_, (wk W (.laysFinal "java/lang/String" "java/lang/String" "coder" "B"))⟩) f1 f2 (t₁ := .array .byte) (t₂ := .byte) (by decide +kernel) (by decide +kernel) (by decide)
  have al := X8.warmed.alike.symm.trans X15.warmed.alike
  have n7 : T11.heap[s.heap.size]? = some N := by rw [q11]; exact n1.1
  exact ⟨T15, none, _, _, _, X15, by simp, rfl, by omega, (fun _ => rfl), ⟨rfl, _, N, bl15, ((Same.refl D _).set _ (by simp)).set _ (by simp), sl15, (Cell.slots_setSlot_ne _ ap).trans sl13, n1.keep al (p15.other hne (p13.other hne n7)), n2, by rw [al.findClass]; exact n3, n4, n5, fun y c h1 h2 => p15.other h1 (p13.other h1 (by rw [q11]; exact n6 y c h2)), by rw [p15.2.2, p13.2.2, q11]; exact z8⟩, fun fs hl => c16.trans (X15.returnOut hexec hret (hb hbytes d57) hl)⟩
end New4
namespace New1
def yN : MethodName := ⟨"java/lang/String", "<init>", "([C)V"⟩
abbrev yB : ByteArray := jdk_42_method_3_code
theorem d0 : decode yB 0 = .ok (.aload_n 0, 1) := by decide +kernel
theorem d1 : decode yB 1 = .ok (.aload_n 1, 1) := by decide +kernel
theorem d2 : decode yB 2 = .ok (.iconst 0, 1) := by decide +kernel
theorem d3 : decode yB 3 = .ok (.aload_n 1, 1) := by decide +kernel
theorem d4 : decode yB 4 = .ok (.arraylength, 1) := by decide +kernel
theorem d5 : decode yB 5 = .ok (.aconst_null, 1) := by decide +kernel
theorem d6 : decode yB 6 = .ok (.invokespecial 27, 3) := by decide +kernel
theorem d9 : decode yB 9 = .ok (.return_, 1) := by decide +kernel
def site : List Cond := [New4.tab] ++ initW "java/lang/String" 27 New4.yN
def tab : Cond := tabOf yN yB 2 none site
def P (a : Addr) (D : Cell) (fV fC : Field) (b : Addr) (A : Cell) (z : Int32) (args : Array Value) (s : State) : Prop := args = #[.ref a, .ref b] ∧ Blank "java/lang/String" a D s ∧ Found "java/lang/String" "value" "[B" fV s ∧ Found "java/lang/String" "coder" "B" fC s ∧ Ch b A s ∧ StaticIs s "java/lang/String" "COMPACT_STRINGS" "Z" (.int z) ∧ ¬ z = 0 ∧ 0 < A.slots.size ∧ A.slots.size ≤ 536870912 ∧ ∀ i, i < A.slots.size → ¬ 255 < cv A i
def E (a : Addr) (D : Cell) (fV fC : Field) (A : Cell) (r : Option Value) (s u : State) : Prop := Got a D fV fC A 0 A.slots.size r s u
/-- new String(chars), not empty, no char above 255: a Latin-1 String of their low bytes -/
theorem law (l : Launch) (a : Addr) (D : Cell) (fV fC : Field) (b : Addr) (A : Cell) (z : Int32) : Law l yN 2 1 3 52 yB 2 none site (P a D fV fC b A z) (E a D fV fC A) [⟨a, fC.slot⟩, ⟨a, fV.slot⟩] 1 A.slots.size := by
  refine Law.of_walk (plainFor_of_name (by decide +kernel)) (by decide +kernel) (by decide +kernel) (by decide) (fun _ _ h => by rw [h.1]; rfl) (fun _ U U' hal hh h => ⟨h.1, h.2.1.mv hal hh, h.2.2.1.al hal, h.2.2.2.1.al hal, h.2.2.2.2.1.mv hal hh, h.2.2.2.2.2.1.there hal hh, h.2.2.2.2.2.2⟩) (fun r U U' V V' h1 hal h2 h => Got.mv r U U' V V' h1 hal h2 h) ?_
  intro p e s m args below meth c s₁ X0 hexec hbytes hml hret hlk hnm hown hh0 W hP
  obtain ⟨rfl, hB, f1, f2, hA, s1, hz, l0, l2, hp⟩ := hP
  have c1 : Steps p.tables e below (s₁.setTop (entryFrame m #[.ref a, .ref b] 2)) (s₁.setTop (mkF m 0 #[.val (.ref a), .val (.ref b)] [])) := entry rfl
  have c2 : Steps p.tables e below (s₁.setTop (entryFrame m #[.ref a, .ref b] 2)) (s₁.setTop (mkF m 6 #[.val (.ref a), .val (.ref b)] [.null, .int (Int32.ofNat A.slots.size), .int 0, .ref b, .ref a])) := c1.trans (by
    refine XS.aloadN X0.here hexec rfl (hb hbytes d0) rfl rfl ?_
    refine XS.aloadN X0.here hexec rfl (hb hbytes d1) rfl rfl ?_
    refine iconstV X0.here hexec rfl 0 (hb hbytes d2) (by decide) ?_
    refine XS.aloadN X0.here hexec rfl (hb hbytes d3) rfl rfl ?_
    refine X0.alen hexec (hA.1.mv X0.warmed.alike hh0) rfl rfl (hb hbytes d4) ?_
    refine XS.aconstNull X0.here hexec rfl (hb hbytes d5) ?_
    exact Steps.refl _)
  obtain ⟨v3, T3, X3, E3, g3⟩ := X0.callN hexec (New4.law l a D fV fC b A z 0 A.slots.size) rfl hown (wks W (initW "java/lang/String" 27 New4.yN)) (W New4.tab (by simp only [site, List.mem_cons, List.mem_append, true_or, or_true])) (W := 0) (Nat.le_of_ble_eq_true rfl) (Nat.le_of_ble_eq_true rfl) (Nat.le_refl _) (by show 0 + A.slots.size ≤ A.slots.size; omega) (g := (mkF m 6 #[.val (.ref a), .val (.ref b)] [.null, .int (Int32.ofNat A.slots.size), .int (Int32.ofNat 0), .ref b, .ref a])) rfl (by rw [hml]; rfl) c2 (argsL := [.ref b, .int (Int32.ofNat 0), .int (Int32.ofNat A.slots.size), .null]) (rest := []) rfl rfl (by show 2 * 0 + 0 ≤ _; decide) (hb hbytes d6) (⟨rfl, hB.mv X0.warmed.alike hh0, f1.al X0.warmed.alike, f2.al X0.warmed.alike, hA.mv X0.warmed.alike hh0, s1.there X0.warmed.alike hh0, hz, l0, by omega, l2, fun i hi => by rw [Nat.zero_add]; exact hp i hi⟩)
  have e0 := Got.mv _ s₁ s _ _ hh0.symm (Vm.Alike.refl _) rfl E3
  obtain rfl := e0.1
  have c4 : Steps p.tables e below (s₁.setTop (entryFrame m #[.ref a, .ref b] 2)) (T3.setTop (mkF m 9 #[.val (.ref a), .val (.ref b)] [])) := g3
  exact ⟨T3, none, _, _, _, X3, by simp, rfl, by omega, (fun _ => rfl), e0, fun fs hl => c4.trans (X3.returnOut hexec hret (hb hbytes d9) hl)⟩
theorem pays {l : Launch} {R : Room} {p : Program} {e : Env} {below : List Frame} {s : State} {sargs : Array Value} {len W : Nat} (a : Addr) (D : Cell) (fV fC : Field) (b : Addr) (A : Cell) (z : Int32) (htab : tab.before sargs s = true) (hfr : 4 ≤ R.frames) (hlo : W + 65 ≤ R.locals) :
    Back l R p e below s sargs yN len W (fun A₁ a₁ => A₁.cells + 1 ≤ R.cells ∧ A₁.slots + A.slots.size ≤ R.slots ∧ P a D fV fC b A z a₁ A₁.U) (fun A₁ _ v₁ B₁ => E a D fV fC A v₁ A₁.U B₁.U ∧ B₁.locs = A₁.locs ++ [⟨a, fC.slot⟩, ⟨a, fV.slot⟩] ∧ B₁.cells = A₁.cells + 1 ∧ B₁.slots = A₁.slots + A.slots.size) :=
  (law l a D fV fC b A z).pays htab hfr (by omega)
end New1
/-- the byte, read back as charAt reads it, is the char -/
theorem lo8_mask {x : Int32} (h0 : ¬ x < 0) (h1 : ¬ 255 < x) : lo8 x &&& 255 = x := by
  have t : ∀ k : Fin 256, lo8 (Int32.ofNat k.val) &&& 255 = Int32.ofNat k.val := by decide +kernel
  rw [Int32.lt_iff_toInt_lt] at h0 h1
  have e0 : (0 : Int32).toInt = 0 := rfl
  have e1 : (255 : Int32).toInt = 255 := rfl
  obtain ⟨k, hk⟩ : ∃ k : Nat, x.toInt = k := ⟨x.toInt.toNat, by omega⟩
  have hx : x = Int32.ofNat k := Int32.toInt_inj.mp (by rw [hk, Int32.toInt_ofNat_small (by omega)])
  rw [hx]
  exact t ⟨k, by omega⟩
end StrChars
namespace StrChars.Road
open Jvm Sem ClassFile Op Lib Jvm.Stand Jvm.Free Jvm.Free.XT
open Jvm.Lib.Cold (StaticIs)
abbrev ST : String := "java/lang/String"
/-- every table word that New1's law asks, flat -/
abbrev words : List Jvm.Cond := [.code New1.yN New1.yB 2 none, .initialized ST, .methodLink ST 27 New4.yN, .instanceMethod New4.yN,
  .code New4.yN New4.yB 6 none, .fieldLink ST 38 ST "COMPACT_STRINGS" "Z", .laysFinal ST ST "value" "[B", .fieldLink ST 9 ST "value" "[B", .laysFinal ST ST "coder" "B", .fieldLink ST 15 ST "coder" "B",
  .methodLink ST 1 Lib.objectInit, .instanceMethod Lib.objectInit, .code Lib.objectInit ⟨#[0xb1]⟩ 1 none, .methodLink ST 177 Cmp3.yN, .static Cmp3.yN, .methodLink ST 47 CodL.yN, .static CodL.yN,
  .code Cmp3.yN Cmp3.yB 6 (some (.array .byte)), .initialized U16, .arrayClass .byte, .methodLink U16 115 Cmp5.yN, .static Cmp5.yN, .code Cmp5.yN Cmp5.yB 7 (some .int), .code CodL.yN CodL.yB 2 (some .byte)]
theorem tab_of {a : Array Value} {s : State} (h : ∀ w ∈ words, w.before a s = true) : New1.tab.before a s = true := by
  have h5 : Cmp5.tab.before a s = true := unparts (wk h (.code Cmp5.yN Cmp5.yB 7 (some .int))) (wks h (.initialized Cmp5.yN.cls :: Cmp5.site))
  have hc : CodL.tab.before a s = true := unparts (wk h (.code CodL.yN CodL.yB 2 (some .byte))) (wks h (.initialized CodL.yN.cls :: CodL.site))
  have q5 : ∀ w ∈ Cmp5.tab :: words, w.before a s = true := fun w hw => (List.mem_cons.mp hw).elim (fun e => e ▸ h5) (h w)
  have h3 : Cmp3.tab.before a s = true := unparts (wk q5 (.code Cmp3.yN Cmp3.yB 6 (some (.array .byte)))) (wks q5 (.initialized Cmp3.yN.cls :: Cmp3.site))
  have q3 : ∀ w ∈ Cmp3.tab :: CodL.tab :: words, w.before a s = true := fun w hw => (List.mem_cons.mp hw).elim (fun e => e ▸ h3) fun hw => (List.mem_cons.mp hw).elim (fun e => e ▸ hc) (h w)
  have h4 : New4.tab.before a s = true := unparts (wk q3 (.code New4.yN New4.yB 6 none)) (wks q3 (.initialized New4.yN.cls :: New4.site))
  have q4 : ∀ w ∈ New4.tab :: words, w.before a s = true := fun w hw => (List.mem_cons.mp hw).elim (fun e => e ▸ h4) (h w)
  exact unparts (wk q4 (.code New1.yN New1.yB 2 none)) (wks q4 (.initialized New1.yN.cls :: New1.site))
/-- the words ride from the start Z to the walk's own state -/
theorem moved {Z s : State} {a0 args : Array Value} (hZ : Z.Warmed39 s.vm) (hw : ∀ d ∈ words, d.before a0 Z = true) : ∀ d ∈ words, d.before args s = true := fun d hd => by
  have q := hw d hd
  have t : ∀ d ∈ words, d = .arrayClass .byte ∨ (d.onTables && d.keepsFace) = true := by decide +kernel
  rcases t d hd with rfl | t
  · exact RoadKit.mvA hZ q
  · exact RoadKit.mv hZ q t
/-- WHAT COMES BACK, over the tables of the start Z: h the heap at the call, h' behind it -/
def Q (Z : State) (x : Addr) (A : Cell) (h : Heap) (v : Option Value) (h' : Heap) (L : List Loc) : Prop := v = none ∧ (∀ y ∈ L, y.base = x) ∧ RoadKit.Keep h h' [x] ∧ h'.size = h.size + 1 ∧ RoadKit.Exa Z h' x ST ∧ RoadKit.Fld Z h' x ST "value" "[B" (.ref h.size) ∧ RoadKit.Fld Z h' x ST "coder" "B" (.int 0) ∧
  (∃ V : Cell, RoadKit.Arr Z h' h.size V .byte ∧ V.vm = .none ∧ Z.vm.findClass "[B" = some V.cls ∧ V.slots.size = A.slots.size ∧ ∀ j, j < A.slots.size → V.slots[j]? = some (.int (lo8 (cv A j)))) ∧
  ∀ (O n d : String) (w : Value), RoadKit.Fld Z h x O n d w → RoadKit.slotOf Z O n d ≠ RoadKit.slotOf Z ST "value" "[B" → RoadKit.slotOf Z O n d ≠ RoadKit.slotOf Z ST "coder" "B" → RoadKit.Fld Z h' x O n d w
/-- **new String(chars) AT A CALL, IN THE ROAD'S FORM**: for specialBack behind newO: x the fresh String, b the char[] with the cell A -/
theorem back {p : Program} {l : Launch} {e : Env} {R : Room} {s : State} {args : Array Value} {below : List Frame} {len W : Nat} {Z : State} {a0 : Array Value} {h : Heap} (hZ : Z.Warmed39 s.vm) (hw : ∀ d ∈ words, d.before a0 Z = true) {kI : Nat} (wi : (Jvm.Cond.instantiable ST kI).before a0 Z = true)
    {x b : Addr} {A : Cell} {z : Int32} {v0 c0 : Value} (E : RoadKit.Exa Z h x ST) (V : RoadKit.Fld Z h x ST "value" "[B" v0) (C : RoadKit.Fld Z h x ST "coder" "B" c0) (K : RoadKit.Arr Z h b A .char) (hty : Typed .char A) (S : RoadKit.Sta Z h ST "COMPACT_STRINGS" "Z" (.int z)) (hz : ¬ z = 0)
    (l0 : 0 < A.slots.size) (l2 : A.slots.size ≤ 536870912) (hp : ∀ i, i < A.slots.size → ¬ 255 < cv A i) (hfr : 4 ≤ R.frames) (hlo : W + 65 ≤ R.locals) :
    Back l R p e below s args New1.yN len W (fun P a => a = #[.ref x, .ref b] ∧ P.U.heap = h ∧ P.cells + 1 ≤ R.cells ∧ P.slots + A.slots.size ≤ R.slots)
      (fun P _ v B => ∃ L, Q Z x A h v B.U.heap L ∧ B.locs = P.locs ++ L ∧ B.cells = P.cells + 1 ∧ B.slots = P.slots + A.slots.size) := by
  intro m meth c P g ig mk a X hg hsize hdg hW hn hp'
  obtain ⟨rfl, rfl, r1, r2⟩ := hp'
  have al : Z.vm.Alike P.U.vm := hZ.alike.trans X.warmed.alike
  obtain ⟨D, cfV, kV, iV, fV, hD, gV, stV, knV, obV, asV, slV⟩ := id V
  obtain ⟨D', cfC, kC, iC, fC, hD', gC, stC, -, -, asC, slC⟩ := id C
  cases hD.symm.trans hD'
  obtain ⟨D2, kD, e1, e2, e3, e4, e5⟩ := id E
  cases hD.symm.trans e1
  obtain ⟨c2, k2, i1, i2, i3, -⟩ := Cond.instantiable_spec wi
  cases e2.symm.trans i1
  cases e3.symm.trans i2
  obtain ⟨kU, u1, u2⟩ := al.2.2 _ _ e3
  have hB : Blank ST x D P.U := ⟨hD, ⟨knV, fun q hq => by rw [hq] at obV; cases obV⟩, by rw [al.findClass]; exact e2, kU, u1, by rw [u2]; exact i3, by rw [u2]; exact e5 i3⟩
  have F1 : Found ST "value" "[B" fV P.U := ⟨SBG.found_only al ⟨cfV, kV, iV, gV⟩, stV⟩
  have F2 : Found ST "coder" "B" fC P.U := ⟨SBG.found_only al ⟨cfC, kC, iC, gC⟩, stC⟩
  have hA : Ch b A P.U := ⟨⟨K.1, State.isArrayOf_alike al K.2.1, K.2.2, by omega⟩, hty⟩
  have hS : StaticIs P.U ST "COMPACT_STRINGS" "Z" (.int z) := by
    obtain ⟨cfS, iS, kS, fS, st, cS, t1, t2, t3, t4, t5, t6, t7⟩ := S
    exact StaticIs.there (s := { Z with heap := P.U.heap }) ⟨cfS, iS, kS, fS, st, cS, t1, t2, t3, t4, t5, (fun q => by rw [q] at t6; cases t6), t7⟩ al rfl
  obtain ⟨v, B, X', ⟨⟨hv, E', V', q1, q2, q3, q4, q5, q6, q7, q8, q9, q10, q11⟩, hl, hc, hs⟩, st⟩ := New1.pays x D fV fC b A z (tab_of (moved hZ hw)) hfr hlo m meth c P g ig mk _ X hg hsize hdg hW hn ⟨r1, r2, rfl, hB, F1, F2, hA, hS, hz, l0, l2, hp⟩
  have al' : Z.vm.Alike B.U.vm := hZ.alike.trans X'.warmed.alike
  have hsz : E'.slots.size = D.slots.size := by
    obtain ⟨-, -, -, kB, w1, w2, w3⟩ := q1
    obtain ⟨kB', y1, y2⟩ := al'.2.2 _ _ e3
    rw [q2.2.1] at w1
    cases w1.symm.trans y1
    rw [w3, e5 i3, y2]
  refine ⟨v, B, X', ⟨_, ⟨hv, ?_, ⟨by omega, fun y cy hy hn' => q10 y cy (by simpa using hn') hy, fun y cy hy => ?_⟩, q11, ⟨E', _, q1.1, by rw [q2.2.1]; exact e2, by rw [q2.2.1]; exact e3, by rw [q2.1]; exact obV, fun _ => by rw [hsz]; exact e5 i3⟩,
    ⟨E', cfV, kV, iV, fV, q1.1, gV, stV, by rw [q2.1]; exact knV, by rw [q2.1]; exact obV, by rw [q2.2.1]; exact asV, q3⟩, ⟨E', cfC, kC, iC, fC, q1.1, gC, stC, by rw [q2.1]; exact knV, by rw [q2.1]; exact obV, by rw [q2.2.1]; exact asC, q4⟩,
    ⟨V', ⟨q5.1, State.isArrayOf_alike al'.symm q5.2.1, q5.2.2.1⟩, q6, by rw [← al'.findClass]; exact q7, q8, fun j hj => by have := q9 j hj; rwa [Nat.zero_add] at this⟩, fun O n d w F n1 n2 => ?_⟩, hl, hc, hs⟩, st⟩
  · intro y hy
    simp only [List.mem_cons, List.not_mem_nil, or_false] at hy
    rcases hy with rfl | rfl <;> rfl
  · by_cases q : y = x
    · subst q
      cases hD.symm.trans hy
      exact ⟨E', q1.1, q2.2.1, q2.1, hsz⟩
    · exact ⟨cy, q10 y cy q hy, rfl, rfl, rfl⟩
  · obtain ⟨D3, cf, k, i, f, g1, g2, g3, g4, g5, g6, g7⟩ := F
    cases hD.symm.trans g1
    simp only [RoadKit.slotOf, g2, gV, gC, Option.map_some, Option.getD_some] at n1 n2
    exact ⟨E', cf, k, i, f, q1.1, g2, g3, by rw [q2.1]; exact g4, by rw [q2.1]; exact g5, by rw [q2.2.1]; exact g6, by rw [q2.2.2 f.slot (by simp [n1, n2])]; exact g7⟩
end StrChars.Road
namespace StrChars.Road
open Jvm Sem ClassFile Op Lib Jvm.Stand Jvm.Free Jvm.Free.XT
/-- WHAT COMES BACK, the byte[] as a list of values -/
def QA (Z : State) (x : Addr) (zn : Int32) (cs : List Int32) (h : Heap) (v : Option Value) (h' : Heap) (L : List Loc) : Prop := v = none ∧ (∀ y ∈ L, y.base = x) ∧ RoadKit.Keep h h' [x] ∧ h'.size = h.size + 1 ∧ RoadKit.Exa Z h' x ST ∧ RoadKit.Fld Z h' x ST "value" "[B" (.ref h.size) ∧ RoadKit.Fld Z h' x ST "coder" "B" (.int 0) ∧
  (∃ kb, Z.vm.findClass "[B" = some kb ∧ RoadKit.Arv Z h' h.size kb .byte zn (cs.map fun c => .int (lo8 c)) (.int 0)) ∧
  ∀ (O n d : String) (w : Value), RoadKit.Fld Z h x O n d w → RoadKit.slotOf Z O n d ≠ RoadKit.slotOf Z ST "value" "[B" → RoadKit.slotOf Z O n d ≠ RoadKit.slotOf Z ST "coder" "B" → RoadKit.Fld Z h' x O n d w
/-- **new String(chars) AT A CALL, THE ARRAYS AS LISTS**: the char[] at b holds cs, not empty, no char above 255 -/
theorem backArv {p : Program} {l : Launch} {e : Env} {R : Room} {s : State} {args : Array Value} {below : List Frame} {len W : Nat} {Z : State} {a0 : Array Value} {h : Heap} (hZ : Z.Warmed39 s.vm) (hw : ∀ d ∈ words, d.before a0 Z = true) {kI : Nat} (wi : (Jvm.Cond.instantiable ST kI).before a0 Z = true)
    {x b : Addr} {k : ClassId} {zn z : Int32} {cs : List Int32} {dv v0 c0 : Value} (E : RoadKit.Exa Z h x ST) (V : RoadKit.Fld Z h x ST "value" "[B" v0) (C : RoadKit.Fld Z h x ST "coder" "B" c0) (K : RoadKit.Arv Z h b k .char zn (cs.map Value.int) dv) (S : RoadKit.Sta Z h ST "COMPACT_STRINGS" "Z" (.int z)) (hz : ¬ z = 0)
    (hlen : zn.toNatClampNeg = cs.length) (h0 : 0 < cs.length) (hbig : cs.length ≤ 536870912) (hall : ∀ c ∈ cs, ¬ 255 < c) (hfr : 4 ≤ R.frames) (hlo : W + 65 ≤ R.locals) :
    Back l R p e below s args New1.yN len W (fun P a => a = #[.ref x, .ref b] ∧ P.U.heap = h ∧ P.cells + 1 ≤ R.cells ∧ P.slots + cs.length ≤ R.slots)
      (fun P _ v B => ∃ L, QA Z x zn cs h v B.U.heap L ∧ B.locs = P.locs ++ L ∧ B.cells = P.cells + 1 ∧ B.slots = P.slots + cs.length) := by
  obtain ⟨A, K1, K2, K3, K4, K5, K6⟩ := K
  have e : A.slots.size = cs.length := K3.trans hlen
  have hat : ∀ (i : Nat) (hi : i < cs.length), A.slots[i]? = some (.int cs[i]) := fun i hi => by rw [K5 i (by omega)]; simp [List.getD_eq_getElem?_getD, hi]
  have hcv : ∀ (i : Nat) (hi : i < cs.length), cv A i = cs[i] := fun i hi => by unfold cv; rw [hat i hi]
  have hty : Typed .char A := fun i v hv => by
    have hi : i < A.slots.size := (Array.getElem?_eq_some_iff.mp hv).1
    have q := K5 i hi
    rw [hv] at q
    rw [Option.some.inj q]
    exact K6 i hi
  refine Back.mono (back hZ hw wi E V C K1 hty S hz (by omega) (by omega) (fun i hi => by rw [hcv i (by omega)]; exact hall _ (List.getElem_mem _)) hfr hlo) (fun P a hp => ⟨hp.1, hp.2.1, hp.2.2.1, by rw [e]; exact hp.2.2.2⟩) (fun P a v B hp hq => ?_)
  obtain ⟨L, ⟨q1, q2, q3, q4, q5, q6, q7, ⟨V', v1, v2, v3, v4, v5⟩, q9⟩, hl, hc, hs⟩ := hq
  refine ⟨L, ⟨q1, q2, q3, q4, q5, q6, q7, ⟨V'.cls, v3, V', v1, rfl, by rw [v4, e, hlen], K4, fun i hi => ?_, fun i hi => ?_⟩, q9⟩, hl, hc, by rw [hs, e]⟩
  · have hi' : i < cs.length := by omega
    rw [v5 i (by omega), hcv i hi']; simp [List.getD_eq_getElem?_getD, hi']
  · have hi' : i < cs.length := by omega
    simp only [List.getD_eq_getElem?_getD, List.getElem?_map, List.getElem?_eq_getElem hi', Option.map_some, Option.getD_some]
    exact fits_lo8 _
end StrChars.Road
namespace StrChars.Road
open Jvm Sem ClassFile Op Lib Jvm.Stand Jvm.Free Jvm.Free.XT
/-- WHAT COMES BACK, in the writer's own shape -/
def QV (Z : State) (x : Addr) (N : Int32) (bs : List Int32) (h : Heap) (n0 : Nat) (v : Option Value) (h' : Heap) (L : List Loc) : Prop := v = none ∧ RoadKit.Fr n0 L ∧ RoadKit.Keep h h' [x] ∧ RoadKit.Exa Z h' x ST ∧ RoadKit.Fld Z h' x ST "coder" "B" (.int 0) ∧
  ∃ (t : Addr) (kb : ClassId), n0 ≤ t ∧ h.size ≤ t ∧ ¬ t = x ∧ RoadKit.Fld Z h' x ST "value" "[B" (.ref t) ∧ RoadKit.Arv Z h' t kb .byte N (bs.map Value.int) (.int 0)
/-- **new String(chars) AT A CALL, FOR THE WRITER**: a char[] of n known ints, each 0 to 255 -/
theorem backV {p : Program} {l : Launch} {e : Env} {R : Room} {s : State} {args : Array Value} {below : List Frame} {len W : Nat} {Z : State} {a0 : Array Value} {h : Heap} (hZ : Z.Warmed39 s.vm) (hw : ∀ d ∈ words, d.before a0 Z = true) {kI : Nat} (wi : (Jvm.Cond.instantiable ST kI).before a0 Z = true)
    {x b : Addr} {kC : ClassId} {cs bs : List Int32} {d v0 c0 : Value} {z N : Int32} {n n0 : Nat} (hx0 : n0 ≤ x) (hh0 : n0 ≤ h.size) (E : RoadKit.Exa Z h x ST) (V : RoadKit.Fld Z h x ST "value" "[B" v0) (C : RoadKit.Fld Z h x ST "coder" "B" c0) (K : RoadKit.Arv Z h b kC .char N (cs.map Value.int) d) (S : RoadKit.Sta Z h ST "COMPACT_STRINGS" "Z" (.int z)) (hz : ¬ z = 0)
    (hn : cs.length = n) (hN : N = Int32.ofNat n) (l0 : 0 < n) (l2 : n ≤ 4000) (hp : ∀ c ∈ cs, ¬ c < 0 ∧ ¬ (255 : Int32) < c) (hb : bs = cs.map (fun c => c.toInt8.toInt32)) (hfr : 4 ≤ R.frames) (hlo : W + 65 ≤ R.locals) :
    Back l R p e below s args (⟨"java/lang/String", "<init>", "([C)V"⟩ : MethodName) len W (fun P a => a = #[.ref x, .ref b] ∧ P.U.heap = h ∧ P.cells + 1 ≤ R.cells ∧ P.slots + n ≤ R.slots)
      (fun P _ v B => ∃ L, QV Z x N bs h n0 v B.U.heap L ∧ B.locs = P.locs ++ L ∧ B.cells = P.cells + 1 ∧ B.slots = P.slots + n) := by
  subst hn hN hb
  refine Back.mono (backArv hZ hw wi E V C K S hz (n32 (by omega)) l0 (by omega) (fun c hc => (hp c hc).2) hfr hlo) (fun P a hp => hp) (fun P a v B hp hq => ?_)
  obtain ⟨L, ⟨q1, q2, q3, q4, q5, q6, q7, ⟨kb, v1, v2⟩, q9⟩, hl, hc, hs⟩ := hq
  exact ⟨L, ⟨q1, fun y hy => by rw [q2 y hy]; exact hx0, q3, q5, q7, h.size, kb, hh0, Nat.le_refl _, Nat.ne_of_gt E.lt, q6, by rw [List.map_map]; exact v2⟩, hl, hc, hs⟩
end StrChars.Road
namespace StrChars
open Jvm Sem ClassFile Op Lib Jvm.Stand Jvm.Free.XT Jvm.Free.ALB Jvm.Free.JM Jvm.Free
open Jvm.Lib.Cold (StaticIs)
def hi8 (x : Int32) : Int32 := lo8 (x >>> ((8 : Int32) &&& 31))
/-- what StringUTF16.getChar makes of two bytes -/
def pairCh (u v : Int32) : Int32 := (((u &&& 255) <<< ((0 : Int32) &&& 31)) ||| ((v &&& 255) <<< ((8 : Int32) &&& 31))).toUInt32.toUInt16.toUInt32.toInt32
theorem lo8_and (x : Int32) : (lo8 x &&& 255).toBitVec.toNat = x.toBitVec.toNat % 256 := by
  have h : (lo8 x).toBitVec = (x.toBitVec.signExtend 8).signExtend 32 := by rw [lo8, Int8.toBitVec_toInt32, Int32.toBitVec_toInt8]
  rw [Int32.toBitVec_and, BitVec.toNat_and, h]
  have e : ((x.toBitVec.signExtend 8).signExtend 32).toNat % 256 = x.toBitVec.toNat % 256 := by
    rw [BitVec.toNat_signExtend]
    have hlt := x.toBitVec.isLt
    simp only [BitVec.toNat_setWidth, BitVec.toNat_signExtend]
    split <;> split <;> omega
  rw [← e]
  exact Nat.and_two_pow_sub_one_eq_mod _ 8
theorem pair_says {c : Int32} (h0 : ¬ c < 0) (h1 : ¬ 65535 < c) : pairCh (lo8 c) (hi8 c) = c := by
  rw [Int32.lt_iff_toInt_lt] at h0 h1
  have e0 : (0 : Int32).toInt = 0 := rfl
  have e1 : (65535 : Int32).toInt = 65535 := rfl
  have hc : c.toInt = c.toBitVec.toNat := by
    have := c.toBitVec.isLt
    have e : c.toInt = c.toBitVec.toInt := rfl
    rw [e] at h0 h1
    rw [e]
    rw [BitVec.toInt_eq_toNat_cond] at h0 h1 ⊢
    split at h0 <;> split <;> omega
  have hn : c.toBitVec.toNat < 65536 := by omega
  have a1 := lo8_and c
  have a2 : (hi8 c &&& 255).toBitVec.toNat = c.toBitVec.toNat / 256 := by
    rw [hi8, lo8_and]
    have e : ((8 : Int32) &&& 31) = 8 := by decide
    rw [e, Int32.toBitVec_shiftRight]
    have e2 : ((8 : Int32).toBitVec.smod 32) = 8#32 := by decide
    rw [e2, BitVec.sshiftRight_eq', BitVec.toNat_sshiftRight_of_msb_false (by rw [BitVec.msb_eq_false_iff_two_mul_lt]; omega)]
    show c.toBitVec.toNat >>> 8 % 256 = _
    rw [Nat.shiftRight_eq_div_pow]
    omega
  unfold pairCh
  apply Int32.toBitVec_inj.mp
  apply BitVec.eq_of_toNat_eq
  have f0 : ((0 : Int32) &&& 31) = 0 := by decide
  have f8 : ((8 : Int32) &&& 31) = 8 := by decide
  rw [f0, f8]
  have g : (((lo8 c &&& 255) <<< (0 : Int32)) ||| ((hi8 c &&& 255) <<< (8 : Int32))).toBitVec.toNat = c.toBitVec.toNat := by
    rw [Int32.toBitVec_or, Int32.toBitVec_shiftLeft, Int32.toBitVec_shiftLeft]
    have s0 : ((0 : Int32).toBitVec.smod 32) = 0#32 := by decide
    have s8 : ((8 : Int32).toBitVec.smod 32) = 8#32 := by decide
    rw [s0, s8, BitVec.toNat_or]
    simp only [BitVec.shiftLeft_eq', BitVec.toNat_shiftLeft, a1, a2]
    show (c.toBitVec.toNat % 256) <<< 0 % 2 ^ 32 ||| (c.toBitVec.toNat / 256) <<< 8 % 2 ^ 32 = _
    rw [Nat.shiftLeft_zero, Nat.mod_eq_of_lt (show c.toBitVec.toNat % 256 < 2 ^ 32 by omega), Nat.mod_eq_of_lt (show (c.toBitVec.toNat / 256) <<< 8 < 2 ^ 32 by rw [Nat.shiftLeft_eq]; omega), Nat.or_comm, ← Nat.shiftLeft_add_eq_or_of_lt (by omega), Nat.shiftLeft_eq]
    omega
  show BitVec.toNat (((((lo8 c &&& 255) <<< (0 : Int32)) ||| ((hi8 c &&& 255) <<< (8 : Int32))).toBitVec.setWidth 16).setWidth 32) = _
  rw [BitVec.toNat_setWidth, BitVec.toNat_setWidth, g]
  omega
end StrChars
namespace StrChars
open Jvm Sem ClassFile Op Lib Jvm.Stand Jvm.Free.XT Jvm.Free.ALB Jvm.Free.JM Jvm.Free
open Jvm.Lib.Cold (StaticIs)
/-- the array's cell V codes the n chars f 0 .. f (n - 1) by the coder cd, as the JDK does: coder 1 just where some char is above 255 -/
def Cod (cd : Int32) (n : Nat) (f : Nat → Int32) (V : Cell) : Prop := (cd = 0 ∧ V.slots.size = n ∧ ∀ j, j < n → V.slots[j]? = some (.int (lo8 (f j))) ∧ ¬ 255 < f j) ∨ (cd = 1 ∧ V.slots.size = 2 * n ∧ (∀ j, j < n → V.slots[2 * j]? = some (.int (lo8 (f j))) ∧ V.slots[2 * j + 1]? = some (.int (hi8 (f j)))) ∧ ∃ j, j < n ∧ 255 < f j)
/-- **x is a String of the n chars f 0 .. f (n - 1)**, Latin-1 or UTF-16; its array at t has the cell V -/
def Txt (x t : Addr) (V : Cell) (cd : Int32) (n : Nat) (f : Nat → Int32) (U : State) : Prop := Exact "java/lang/String" x U ∧ Has x "java/lang/String" "value" "[B" (.ref t) U ∧ Has x "java/lang/String" "coder" "B" (.int cd) U ∧ XT.Arr .byte t V U ∧ Cod cd n f V ∧ ∀ j, j < n → ¬ f j < 0 ∧ ¬ 65535 < f j
theorem Txt.mv {x t : Addr} {V : Cell} {cd : Int32} {n : Nat} {f : Nat → Int32} {U U' : State} (h : Txt x t V cd n f U) (hal : U.vm.Alike U'.vm) (hh : U'.heap = U.heap) : Txt x t V cd n f U' := ⟨h.1.mv hal hh, h.2.1.mv hal hh, h.2.2.1.mv hal hh, h.2.2.2.1.mv hal hh, h.2.2.2.2⟩
end StrChars
namespace StrChars.Road
open Jvm Sem ClassFile Op Lib Jvm.Stand Jvm.Free Jvm.Free.XT
open Jvm.Lib.Cold (StaticIs)
theorem consq {a : Array Value} {s : State} {c : Jvm.Cond} {L : List Jvm.Cond} (h0 : c.before a s = true) (h : ∀ w ∈ L, w.before a s = true) : ∀ w ∈ c :: L, w.before a s = true := fun w hw => (List.mem_cons.mp hw).elim (fun e => e ▸ h0) (h w)
/-- the bytes of the chars cs, low before high -/
def wideBytes : List Int32 → List Value
  | [] => []
  | c :: cs => .int (lo8 c) :: .int (hi8 c) :: wideBytes cs
theorem wide_lo (d : Value) : ∀ (cs : List Int32) (j : Nat), j < cs.length → (wideBytes cs).getD (2 * j) d = .int (lo8 (cs.getD j 0))
  | [], j, h => absurd h (Nat.not_lt_zero j)
  | c :: cs, 0, _ => rfl
  | c :: cs, j + 1, h => by
    have q := wide_lo d cs j (by simpa using h)
    rw [show 2 * (j + 1) = 2 * j + 1 + 1 from by omega]
    simpa [wideBytes] using q
theorem wide_hi (d : Value) : ∀ (cs : List Int32) (j : Nat), j < cs.length → (wideBytes cs).getD (2 * j + 1) d = .int (hi8 (cs.getD j 0))
  | [], j, h => absurd h (Nat.not_lt_zero j)
  | c :: cs, 0, _ => rfl
  | c :: cs, j + 1, h => by
    have q := wide_hi d cs j (by simpa using h)
    rw [show 2 * (j + 1) + 1 = 2 * j + 1 + 1 + 1 from by omega]
    simpa [wideBytes] using q
theorem low_at (d : Value) (cs : List Int32) (j : Nat) (h : j < cs.length) : (cs.map fun c => Value.int (lo8 c)).getD j d = .int (lo8 (cs.getD j 0)) := by
  simp [List.getD_eq_getElem?_getD, h]
/-- an array of N2 bytes vs codes the chars cs by the coder cd -/
def CodA (cs : List Int32) (cd N2 : Int32) (vs : List Value) : Prop := (cd = 0 ∧ N2 = Int32.ofNat cs.length ∧ vs = (cs.map fun c => Value.int (lo8 c)) ∧ ∀ c ∈ cs, ¬ 255 < c) ∨ (cd = 1 ∧ N2 = Int32.ofNat (2 * cs.length) ∧ vs = wideBytes cs ∧ ∃ c ∈ cs, 255 < c)
theorem CodA.cod {cs : List Int32} {cd N2 : Int32} {vs : List Value} {V : Cell} (h : CodA cs cd N2 vs) (hn : 2 * cs.length < 2 ^ 31) (hs : V.slots.size = N2.toNatClampNeg) (hv : RoadKit.Has V vs (.int 0)) : Cod cd cs.length (fun j => cs.getD j 0) V := by
  rcases h with ⟨rfl, rfl, rfl, h⟩ | ⟨rfl, rfl, rfl, c, hc, hw⟩
  · rw [n32 (by omega)] at hs
    exact Or.inl ⟨rfl, hs, fun j hj => ⟨by rw [hv j (by omega), low_at _ _ _ hj], by
      have e : cs.getD j 0 = cs[j] := by simp [List.getD_eq_getElem?_getD, hj]
      show ¬ 255 < cs.getD j 0
      rw [e]; exact h _ (List.getElem_mem _)⟩⟩
  · rw [n32 (by omega)] at hs
    obtain ⟨j, hj, rfl⟩ := List.getElem_of_mem hc
    exact Or.inr ⟨rfl, hs, fun j hj => ⟨by rw [hv _ (by omega), wide_lo _ _ _ hj], by rw [hv _ (by omega), wide_hi _ _ _ hj]⟩, j, hj, by
      have e : cs.getD j 0 = cs[j] := by simp [List.getD_eq_getElem?_getD, hj]
      show 255 < cs.getD j 0
      rw [e]; exact hw⟩
/-- an object of exactly java/lang/String, its two fields found: as the laws ask it -/
theorem strObj {Z U : State} {a0 : Array Value} {kI : Nat} (wi : (Jvm.Cond.instantiable ST kI).before a0 Z = true) (al : Z.vm.Alike U.vm) {x : Addr} {v0 c0 : Value} (E : RoadKit.Exa Z U.heap x ST) (V : RoadKit.Fld Z U.heap x ST "value" "[B" v0) (C : RoadKit.Fld Z U.heap x ST "coder" "B" c0) :
    ∃ (D : Cell) (fV fC : Field), Blank ST x D U ∧ Found ST "value" "[B" fV U ∧ Found ST "coder" "B" fC U ∧ D.slots[fV.slot]? = some v0 ∧ D.slots[fC.slot]? = some c0 ∧ RoadKit.slotOf Z ST "value" "[B" = fV.slot ∧ RoadKit.slotOf Z ST "coder" "B" = fC.slot := by
  obtain ⟨D, cfV, kV, iV, fV, hD, gV, stV, knV, obV, asV, slV⟩ := V
  obtain ⟨D', cfC, kC, iC, fC, hD', gC, stC, -, -, asC, slC⟩ := C
  cases hD.symm.trans hD'
  obtain ⟨D2, kD, e1, e2, e3, e4, e5⟩ := E
  cases hD.symm.trans e1
  obtain ⟨c2, k2, i1, i2, i3, -⟩ := Cond.instantiable_spec wi
  cases e2.symm.trans i1
  cases e3.symm.trans i2
  obtain ⟨kU, u1, u2⟩ := al.2.2 _ _ e3
  exact ⟨D, fV, fC, ⟨hD, ⟨knV, fun q hq => by rw [hq] at obV; cases obV⟩, by rw [al.findClass]; exact e2, kU, u1, by rw [u2]; exact i3, by rw [u2]; exact e5 i3⟩, ⟨SBG.found_only al ⟨cfV, kV, iV, gV⟩, stV⟩, ⟨SBG.found_only al ⟨cfC, kC, iC, gC⟩, stC⟩, slV, slC, by simp [RoadKit.slotOf, gV], by simp [RoadKit.slotOf, gC]⟩
theorem sta_is {Z U : State} (al : Z.vm.Alike U.vm) {C n d : String} {v : Value} (S : RoadKit.Sta Z U.heap C n d v) : StaticIs U C n d v := by
  obtain ⟨cfS, iS, kS, fS, st, cS, t1, t2, t3, t4, t5, t6, t7⟩ := S
  exact StaticIs.there (s := { Z with heap := U.heap }) ⟨cfS, iS, kS, fS, st, cS, t1, t2, t3, t4, t5, (fun q => by rw [q] at t6; cases t6), t7⟩ al rfl
end StrChars.Road
namespace StrChars
open Jvm Sem ClassFile Op Lib Jvm.Stand Jvm.Free.XT Jvm.Free.ALB Jvm.Free.JM Jvm.Free
open Jvm.Lib.Cold (StaticIs)
/-- what place i of a byte[]'s cell holds -/
def yv (A : Cell) (i : Nat) : Int32 := match A.slots[i]? with | some (.int x) => x | _ => 0
theorem yv_get {a : Addr} {A : Cell} {U : State} (h : XT.Arr .byte a A U) (ht : Typed .byte A) {i : Nat} (hi : i < A.slots.size) : A.slots[i]? = some (.int (yv A i)) := by
  have e := Array.getElem?_eq_getElem hi
  have f := ht i _ e
  unfold yv; rw [e]
  generalize A.slots[i] = v at f
  cases v <;> simp [fits] at f ⊢
/-- the two arrays are equal, place for place -/
def EqC (A B : Cell) : Prop := A.slots.size = B.slots.size ∧ ∀ i, i < A.slots.size → yv A i = yv B i
/-- a boolean that says whether p -/
def Says01 (q : Prop) (r : Option Value) (s u : State) : Prop := ∃ v : Int32, r = some (.int v) ∧ u.heap = s.heap ∧ ((v = 1 ∧ q) ∨ (v = 0 ∧ ¬ q))
theorem Says01.mv {q : Prop} : ∀ r (U U' V V' : State), U'.heap = U.heap → V.vm.Alike V'.vm → V'.heap = V.heap → Says01 q r U V → Says01 q r U' V' :=
  fun r U U' V V' h1 _ h2 ⟨v, a, b, c⟩ => ⟨v, a, by rw [h1, h2]; exact b, c⟩
namespace LEq
def yN : MethodName := ⟨"java/lang/StringLatin1", "equals", "([B[B)Z"⟩
abbrev yB : ByteArray := jdk_43_method_13_code
theorem d0 : decode yB 0 = .ok (.aload_n 0, 1) := by decide +kernel
theorem d1 : decode yB 1 = .ok (.arraylength, 1) := by decide +kernel
theorem d2 : decode yB 2 = .ok (.aload_n 1, 1) := by decide +kernel
theorem d3 : decode yB 3 = .ok (.arraylength, 1) := by decide +kernel
theorem d4 : decode yB 4 = .ok (.if_icmp (.ne) 30, 3) := by decide +kernel
theorem d7 : decode yB 7 = .ok (.iconst 0, 1) := by decide +kernel
theorem d8 : decode yB 8 = .ok (.istore_n 2, 1) := by decide +kernel
theorem d9 : decode yB 9 = .ok (.iload_n 2, 1) := by decide +kernel
theorem d10 : decode yB 10 = .ok (.aload_n 0, 1) := by decide +kernel
theorem d11 : decode yB 11 = .ok (.arraylength, 1) := by decide +kernel
theorem d12 : decode yB 12 = .ok (.if_icmp (.ge) 20, 3) := by decide +kernel
theorem d15 : decode yB 15 = .ok (.aload_n 0, 1) := by decide +kernel
theorem d16 : decode yB 16 = .ok (.iload_n 2, 1) := by decide +kernel
theorem d17 : decode yB 17 = .ok (.baload, 1) := by decide +kernel
theorem d18 : decode yB 18 = .ok (.aload_n 1, 1) := by decide +kernel
theorem d19 : decode yB 19 = .ok (.iload_n 2, 1) := by decide +kernel
theorem d20 : decode yB 20 = .ok (.baload, 1) := by decide +kernel
theorem d21 : decode yB 21 = .ok (.if_icmp (.eq) 5, 3) := by decide +kernel
theorem d24 : decode yB 24 = .ok (.iconst 0, 1) := by decide +kernel
theorem d25 : decode yB 25 = .ok (.ireturn, 1) := by decide +kernel
theorem d26 : decode yB 26 = .ok (.iinc 2 1, 3) := by decide +kernel
theorem d29 : decode yB 29 = .ok (.goto (-20), 3) := by decide +kernel
theorem d32 : decode yB 32 = .ok (.iconst 1, 1) := by decide +kernel
theorem d33 : decode yB 33 = .ok (.ireturn, 1) := by decide +kernel
theorem d34 : decode yB 34 = .ok (.iconst 0, 1) := by decide +kernel
theorem d35 : decode yB 35 = .ok (.ireturn, 1) := by decide +kernel
def site : List Cond := []
def tab : Cond := tabOf yN yB 3 (some .boolean) site
def P (a : Addr) (A : Cell) (b : Addr) (B : Cell) (args : Array Value) (s : State) : Prop := args = #[.ref a, .ref b] ∧ XT.Arr .byte a A s ∧ Typed .byte A ∧ XT.Arr .byte b B s ∧ Typed .byte B
/-- whether two byte[] are equal, place for place -/
theorem law (l : Launch) (a : Addr) (A : Cell) (b : Addr) (B : Cell) : Law l yN 2 2 0 0 yB 3 (some .boolean) site (P a A b B) (Says01 (EqC A B)) [] 0 0 := by
  refine Law.of_walk (plainFor_of_name (by decide +kernel)) (by decide +kernel) (by decide +kernel) (by decide) (fun _ _ h => by rw [h.1]; rfl) (fun _ U U' hal hh h => ⟨h.1, h.2.1.mv hal hh, h.2.2.1, h.2.2.2.1.mv hal hh, h.2.2.2.2⟩) (fun r U U' V V' h1 hal h2 h => Says01.mv r U U' V V' h1 hal h2 h) ?_
  intro p e s m args below meth c s₁ X0 hexec hbytes hml hret hlk hnm hown hh0 W hP
  obtain ⟨rfl, hA, tA, hB, tB⟩ := hP
  have a31 := hA.2.2.2
  have b31 := hB.2.2.2
  have hA0 := hA.mv X0.warmed.alike hh0
  have hB0 := hB.mv X0.warmed.alike hh0
  have c1 : Steps p.tables e below (s₁.setTop (entryFrame m #[.ref a, .ref b] 3)) (s₁.setTop (mkF m 0 #[.val (.ref a), .val (.ref b), .unset] [])) := entry rfl
  have c2 : Steps p.tables e below (s₁.setTop (entryFrame m #[.ref a, .ref b] 3)) (s₁.setTop (mkF m 4 #[.val (.ref a), .val (.ref b), .unset] [.int (Int32.ofNat B.slots.size), .int (Int32.ofNat A.slots.size)])) := c1.trans (by
    refine XS.aloadN X0.here hexec rfl (hb hbytes d0) rfl rfl ?_
    refine X0.alen hexec hA0 rfl rfl (hb hbytes d1) ?_
    refine XS.aloadN X0.here hexec rfl (hb hbytes d2) rfl rfl ?_
    refine X0.alen hexec hB0 rfl rfl (hb hbytes d3) ?_
    exact Steps.refl _)
  by_cases hs : A.slots.size = B.slots.size
  · have c3 : Steps p.tables e below (s₁.setTop (entryFrame m #[.ref a, .ref b] 3)) (s₁.setTop (mkF m 9 #[.val (.ref a), .val (.ref b), .val (.int 0)] [])) := c2.trans (by
      refine XS.icmpNo X0.here hexec rfl (hb hbytes d4) rfl (ii_ne_f (by rw [hs])) ?_
      refine iconstV X0.here hexec rfl 0 (hb hbytes d7) (by decide) ?_
      refine XS.istoreN X0.here hexec rfl (hb hbytes d8) rfl rfl ?_
      exact Steps.refl _)
    have loop : ∀ (r i : Nat), i + r = A.slots.size → (∀ j, j < i → yv A j = yv B j) → Steps p.tables e below (s₁.setTop (entryFrame m #[.ref a, .ref b] 3)) (s₁.setTop (mkF m 9 #[.val (.ref a), .val (.ref b), .val (.int (Int32.ofNat i))] [])) → ∃ (pc : Nat) (Ls : Array Slot) (v : Int32), (pc = 25 ∨ pc = 33) ∧ ((v = 1 ∧ EqC A B) ∨ (v = 0 ∧ ¬ EqC A B)) ∧ Steps p.tables e below (s₁.setTop (entryFrame m #[.ref a, .ref b] 3)) (s₁.setTop (mkF m pc Ls [.int v])) := by
      intro r
      induction r with
      | zero =>
        intro i hi he cl
        exact ⟨33, _, 1, Or.inr rfl, Or.inl ⟨rfl, hs, fun j hj => he j (by omega)⟩, cl.trans (by
          refine XS.iloadN X0.here hexec rfl (hb hbytes d9) rfl ?_
          refine XS.aloadN X0.here hexec rfl (hb hbytes d10) rfl rfl ?_
          refine X0.alen hexec hA0 rfl rfl (hb hbytes d11) ?_
          refine XS.icmpYes X0.here hexec rfl (pc0 := 12) rfl (hb hbytes d12) rfl (ii_ge_t (nlt32 (by omega) (by omega))) (by decide) rfl ?_
          refine iconstV X0.here hexec rfl 1 (hb hbytes d32) (by decide) ?_
          exact Steps.refl _)⟩
      | succ r ih =>
        intro i hi he cl
        have c4 : Steps p.tables e below (s₁.setTop (entryFrame m #[.ref a, .ref b] 3)) (s₁.setTop (mkF m 21 #[.val (.ref a), .val (.ref b), .val (.int (Int32.ofNat i))] [.int (yv B i), .int (yv A i)])) := cl.trans (by
          refine XS.iloadN X0.here hexec rfl (hb hbytes d9) rfl ?_
          refine XS.aloadN X0.here hexec rfl (hb hbytes d10) rfl rfl ?_
          refine X0.alen hexec hA0 rfl rfl (hb hbytes d11) ?_
          refine XS.icmpNo X0.here hexec rfl (hb hbytes d12) rfl (ii_ge_f (lt32 (by omega) (by omega))) ?_
          refine XS.aloadN X0.here hexec rfl (hb hbytes d15) rfl rfl ?_
          refine XS.iloadN X0.here hexec rfl (hb hbytes d16) rfl ?_
          refine X0.aget hexec hA0 rfl (yv_get hA tA (i := i) (by omega)) rfl rfl (hb hbytes d17) ?_
          refine XS.aloadN X0.here hexec rfl (hb hbytes d18) rfl rfl ?_
          refine XS.iloadN X0.here hexec rfl (hb hbytes d19) rfl ?_
          refine X0.aget hexec hB0 rfl (yv_get hB tB (i := i) (by omega)) rfl rfl (hb hbytes d20) ?_
          exact Steps.refl _)
        by_cases hv : yv A i = yv B i
        · have c5 : Steps p.tables e below (s₁.setTop (entryFrame m #[.ref a, .ref b] 3)) (s₁.setTop (mkF m 9 #[.val (.ref a), .val (.ref b), .val (.int (Int32.ofNat i + 1))] [])) := c4.trans (by
            refine XS.icmpYes X0.here hexec rfl (pc0 := 21) rfl (hb hbytes d21) rfl (ii_eq_t hv) (by decide) rfl ?_
            refine iincV X0.here hexec rfl 1 (hb hbytes d26) (by decide) rfl rfl ?_
            refine XS.goto X0.here hexec rfl (pc0 := 29) rfl (hb hbytes d29) (by decide) rfl ?_
            exact Steps.refl _)
          rw [succ32] at c5
          exact ih (i + 1) (by omega) (fun j hj => by
            by_cases e : j = i
            · rw [e]; exact hv
            · exact he j (by omega)) c5
        · exact ⟨25, _, 0, Or.inl rfl, Or.inr ⟨rfl, fun q => hv (q.2 i (by omega))⟩, c4.trans (by
            refine XS.icmpNo X0.here hexec rfl (hb hbytes d21) rfl (ii_eq_f hv) ?_
            refine iconstV X0.here hexec rfl 0 (hb hbytes d24) (by decide) ?_
            exact Steps.refl _)⟩
    obtain ⟨pc, Ls, v, hpc, hv, cz⟩ := loop A.slots.size 0 (by omega) (fun j hj => absurd hj (Nat.not_lt_zero j)) c3
    have nv : narrow .boolean (.int v) = .int v := by rcases hv with ⟨rfl, -⟩ | ⟨rfl, -⟩ <;> rfl
    rcases hpc with rfl | rfl
    · exact ⟨s₁, some (.int v), _, _, _, X0, rfl, rfl, rfl, (fun h => by cases h), ⟨v, rfl, hh0, hv⟩, fun fs hl => cz.trans (X0.ireturnOut hexec hret nv (Or.inr (Or.inl rfl)) (hb hbytes d25) hl)⟩
    · exact ⟨s₁, some (.int v), _, _, _, X0, rfl, rfl, rfl, (fun h => by cases h), ⟨v, rfl, hh0, hv⟩, fun fs hl => cz.trans (X0.ireturnOut hexec hret nv (Or.inr (Or.inl rfl)) (hb hbytes d33) hl)⟩
  · have c3 : Steps p.tables e below (s₁.setTop (entryFrame m #[.ref a, .ref b] 3)) (s₁.setTop (mkF m 35 #[.val (.ref a), .val (.ref b), .unset] [.int 0])) := c2.trans (by
      refine XS.icmpYes X0.here hexec rfl (pc0 := 4) rfl (hb hbytes d4) rfl (ii_ne_t (ne32 a31 b31 hs)) (by decide) rfl ?_
      refine iconstV X0.here hexec rfl 0 (hb hbytes d34) (by decide) ?_
      exact Steps.refl _)
    exact ⟨s₁, some (.int 0), _, _, _, X0, rfl, rfl, rfl, (fun h => by cases h), ⟨0, rfl, hh0, Or.inr ⟨rfl, fun q => hs q.1⟩⟩, fun fs hl => c3.trans (X0.ireturnOut hexec hret rfl (Or.inr (Or.inl rfl)) (hb hbytes d35) hl)⟩
end LEq
theorem Cod.ty {cd : Int32} {n : Nat} {f : Nat → Int32} {V : Cell} (h : Cod cd n f V) : Typed .byte V := fun i v hv => by
  have hi : i < V.slots.size := (Array.getElem?_eq_some_iff.mp hv).1
  rcases h with ⟨-, k1, k2⟩ | ⟨-, k1, k2, -⟩
  · rw [(k2 i (by omega)).1] at hv; cases hv; exact fits_lo8 _
  · rcases Nat.mod_two_eq_zero_or_one i with e | e
    · obtain ⟨j, rfl⟩ : ∃ j, i = 2 * j := ⟨i / 2, by omega⟩
      rw [(k2 j (by omega)).1] at hv; cases hv; exact fits_lo8 _
    · obtain ⟨j, rfl⟩ : ∃ j, i = 2 * j + 1 := ⟨i / 2, by omega⟩
      rw [(k2 j (by omega)).2] at hv; cases hv; exact fits_lo8 _
/-- the same text -/
def SameT (n : Nat) (f : Nat → Int32) (k : Nat) (g : Nat → Int32) : Prop := n = k ∧ ∀ j, j < n → f j = g j
theorem lo8_inj {x y : Int32} (h0 : ¬ x < 0) (h1 : ¬ 255 < x) (k0 : ¬ y < 0) (k1 : ¬ 255 < y) (h : lo8 x = lo8 y) : x = y := by
  rw [← lo8_mask h0 h1, ← lo8_mask k0 k1, h]
/-- arrays coded by one coder are equal just where the texts are -/
theorem Cod.eqv {cd : Int32} {n k : Nat} {f g : Nat → Int32} {V V' : Cell} (h : Cod cd n f V) (h' : Cod cd k g V') (hf : ∀ j, j < n → ¬ f j < 0 ∧ ¬ 65535 < f j) (hg : ∀ j, j < k → ¬ g j < 0 ∧ ¬ 65535 < g j) : EqC V V' ↔ SameT n f k g := by
  have yvv : ∀ {W : Cell} {i : Nat} {x : Int32}, W.slots[i]? = some (.int x) → yv W i = x := fun q => by unfold yv; rw [q]
  rcases h with ⟨rfl, k1, k2⟩ | ⟨rfl, k1, k2, -⟩
  · rcases h' with ⟨-, m1, m2⟩ | ⟨e, -⟩
    · constructor
      · rintro ⟨e1, e2⟩
        refine ⟨by omega, fun j hj => ?_⟩
        have q := e2 j (by omega)
        rw [yvv (k2 j hj).1, yvv (m2 j (by omega)).1] at q
        exact lo8_inj (hf j hj).1 (k2 j hj).2 (hg j (by omega)).1 (m2 j (by omega)).2 q
      · rintro ⟨rfl, e2⟩
        refine ⟨by omega, fun j hj => ?_⟩
        rw [yvv (k2 j (by omega)).1, yvv (m2 j (by omega)).1, e2 j (by omega)]
    · exact absurd e (by decide)
  · rcases h' with ⟨e, -⟩ | ⟨-, m1, m2, -⟩
    · exact absurd e (by decide)
    · constructor
      · rintro ⟨e1, e2⟩
        refine ⟨by omega, fun j hj => ?_⟩
        have q1 := e2 (2 * j) (by omega)
        have q2 := e2 (2 * j + 1) (by omega)
        rw [yvv (k2 j hj).1, yvv (m2 j (by omega)).1] at q1
        rw [yvv (k2 j hj).2, yvv (m2 j (by omega)).2] at q2
        rw [← pair_says (hf j hj).1 (hf j hj).2, ← pair_says (hg j (by omega)).1 (hg j (by omega)).2, q1, q2]
      · rintro ⟨rfl, e2⟩
        refine ⟨by omega, fun i hi => ?_⟩
        rcases Nat.mod_two_eq_zero_or_one i with e | e
        · obtain ⟨j, rfl⟩ : ∃ j, i = 2 * j := ⟨i / 2, by omega⟩
          rw [yvv (k2 j (by omega)).1, yvv (m2 j (by omega)).1, e2 j (by omega)]
        · obtain ⟨j, rfl⟩ : ∃ j, i = 2 * j + 1 := ⟨i / 2, by omega⟩
          rw [yvv (k2 j (by omega)).2, yvv (m2 j (by omega)).2, e2 j (by omega)]
/-- two codings differ: so do the texts -/
theorem Cod.dif {cd cd' : Int32} {n k : Nat} {f g : Nat → Int32} {V V' : Cell} (h : Cod cd n f V) (h' : Cod cd' k g V') (hne : ¬ cd = cd') : ¬ SameT n f k g := by
  rintro ⟨rfl, e⟩
  rcases h with ⟨rfl, -, k2⟩ | ⟨rfl, -, -, j, hj, hw⟩
  · rcases h' with ⟨rfl, -⟩ | ⟨-, -, -, j, hj, hw⟩
    · exact hne rfl
    · exact (k2 j hj).2 (by rw [e j hj]; exact hw)
  · rcases h' with ⟨-, -, m2⟩ | ⟨rfl, -⟩
    · exact (m2 j hj).2 (by rw [← e j hj]; exact hw)
    · exact hne rfl
/-- an object of exactly C is an instance of C -/
theorem cinst {p : Program} {l : Launch} {e : Env} {R : Room} {s : State} {m : MethodId} {args : Array Value} {below : List Frame} {meth : Method} {c : Code} {T : State} {locs : List Loc} {cells slots : Nat} (X : Stand p l e R s m args below meth c T locs cells slots) (hexec : p.tables.exec = Jvm.exec) {own C : String} {index : Nat} (hown : s.vm.findClass own = some m.cls) (hlink : (Cond.classLink own index C).before args s = true) {a : Addr} (hE : Exact C a T)
    {g : JFrame} (hg : g.method = m) {rest : List Value} (hstack : g.stack = .ref a :: rest) (hdg : decode c.code g.pc = .ok (.instanceof index, 3)) :
    ∃ T', Stand p l e R s m args below meth c T' locs cells slots ∧ T'.heap = T.heap ∧ ∀ target, Steps p.tables e below (T'.setTop { g with pc := g.pc + 3, stack := .int 1 :: rest }) target → Steps p.tables e below (T.setTop g) target := by
  obtain ⟨cB, h1, D, h2, h3, h4⟩ := hE
  have h1' : s.vm.findClass C = some cB := by rw [← X.warmed.alike.findClass]; exact h1
  obtain ⟨vm', X', st⟩ := X.instanceofYes hexec hown hlink h2 h4 h1' (by rw [h3]; exact Jvm.Free.SB.assignable_self _ _) hg hstack hdg
  exact ⟨_, X', rfl, st⟩
theorem cself {p : Program} {l : Launch} {e : Env} {R : Room} {s : State} {m : MethodId} {args : Array Value} {below : List Frame} {meth : Method} {c : Code} {T : State} {locs : List Loc} {cells slots : Nat} (X : Stand p l e R s m args below meth c T locs cells slots) (hexec : p.tables.exec = Jvm.exec) {own C : String} {index : Nat} (hown : s.vm.findClass own = some m.cls) (hlink : (Cond.classLink own index C).before args s = true) {a : Addr} (hE : Exact C a T)
    {g : JFrame} (hg : g.method = m) {rest : List Value} (hstack : g.stack = .ref a :: rest) (hdg : decode c.code g.pc = .ok (.checkcast index, 3)) :
    ∃ T', Stand p l e R s m args below meth c T' locs cells slots ∧ T'.heap = T.heap ∧ ∀ target, Steps p.tables e below (T'.setTop { g with pc := g.pc + 3, stack := .ref a :: rest }) target → Steps p.tables e below (T.setTop g) target := by
  obtain ⟨cB, h1, D, h2, h3, h4⟩ := hE
  have h1' : s.vm.findClass C = some cB := by rw [← X.warmed.alike.findClass]; exact h1
  obtain ⟨vm', X', st⟩ := X.checkcastYes hexec hown hlink h2 h4 h1' (by rw [h3]; exact Jvm.Free.SB.assignable_self _ _) hg hstack hdg
  exact ⟨_, X', rfl, fun t h => st t (by rw [← hstack] at h; exact h)⟩
namespace SEq
def yN : MethodName := ⟨"java/lang/String", "equals", "(Ljava/lang/Object;)Z"⟩
abbrev yB : ByteArray := jdk_42_method_66_code
theorem d0 : decode yB 0 = .ok (.aload_n 0, 1) := by decide +kernel
theorem d1 : decode yB 1 = .ok (.aload_n 1, 1) := by decide +kernel
theorem d2 : decode yB 2 = .ok (.if_acmp (.ne) 5, 3) := by decide +kernel
theorem d5 : decode yB 5 = .ok (.iconst 1, 1) := by decide +kernel
theorem d6 : decode yB 6 = .ok (.ireturn, 1) := by decide +kernel
theorem d7 : decode yB 7 = .ok (.aload_n 1, 1) := by decide +kernel
theorem d8 : decode yB 8 = .ok (.instanceof 10, 3) := by decide +kernel
theorem d11 : decode yB 11 = .ok (.ifCond (.eq) 43, 3) := by decide +kernel
theorem d14 : decode yB 14 = .ok (.aload_n 1, 1) := by decide +kernel
theorem d15 : decode yB 15 = .ok (.checkcast 10, 3) := by decide +kernel
theorem d18 : decode yB 18 = .ok (.astore_n 2, 1) := by decide +kernel
theorem d19 : decode yB 19 = .ok (.getstatic 38, 3) := by decide +kernel
theorem d22 : decode yB 22 = .ok (.ifCond (.eq) 14, 3) := by decide +kernel
theorem d25 : decode yB 25 = .ok (.aload_n 0, 1) := by decide +kernel
theorem d26 : decode yB 26 = .ok (.getfield 15, 3) := by decide +kernel
theorem d29 : decode yB 29 = .ok (.aload_n 2, 1) := by decide +kernel
theorem d30 : decode yB 30 = .ok (.getfield 15, 3) := by decide +kernel
theorem d33 : decode yB 33 = .ok (.if_icmp (.ne) 21, 3) := by decide +kernel
theorem d36 : decode yB 36 = .ok (.aload_n 0, 1) := by decide +kernel
theorem d37 : decode yB 37 = .ok (.getfield 9, 3) := by decide +kernel
theorem d40 : decode yB 40 = .ok (.aload_n 2, 1) := by decide +kernel
theorem d41 : decode yB 41 = .ok (.getfield 9, 3) := by decide +kernel
theorem d44 : decode yB 44 = .ok (.invokestatic 541, 3) := by decide +kernel
theorem d47 : decode yB 47 = .ok (.ifCond (.eq) 7, 3) := by decide +kernel
theorem d50 : decode yB 50 = .ok (.iconst 1, 1) := by decide +kernel
theorem d51 : decode yB 51 = .ok (.goto 4, 3) := by decide +kernel
theorem d54 : decode yB 54 = .ok (.iconst 0, 1) := by decide +kernel
theorem d55 : decode yB 55 = .ok (.ireturn, 1) := by decide +kernel
def site : List Cond := [.classLink "java/lang/String" 10 "java/lang/String", .fieldLink "java/lang/String" 38 "java/lang/String" "COMPACT_STRINGS" "Z", .fieldLink "java/lang/String" 15 "java/lang/String" "coder" "B", .fieldLink "java/lang/String" 9 "java/lang/String" "value" "[B", LEq.tab] ++ staticW "java/lang/String" 541 LEq.yN
def tab : Cond := tabOf yN yB 3 (some .boolean) site
def P (x t : Addr) (V : Cell) (cd : Int32) (n : Nat) (f : Nat → Int32) (y t' : Addr) (V' : Cell) (cd' : Int32) (k : Nat) (g : Nat → Int32) (z : Int32) (args : Array Value) (s : State) : Prop := args = #[.ref x, .ref y] ∧ Txt x t V cd n f s ∧ Txt y t' V' cd' k g s ∧ StaticIs s "java/lang/String" "COMPACT_STRINGS" "Z" (.int z) ∧ ¬ z = 0
/-- equals(Object) of two Strings: whether the texts are the same -/
theorem law (l : Launch) (x t : Addr) (V : Cell) (cd : Int32) (n : Nat) (f : Nat → Int32) (y t' : Addr) (V' : Cell) (cd' : Int32) (k : Nat) (g : Nat → Int32) (z : Int32) : Law l yN 2 1 1 14 yB 3 (some .boolean) site (P x t V cd n f y t' V' cd' k g z) (Says01 (SameT n f k g)) [] 0 0 := by
  refine Law.of_walk (plainFor_of_name (by decide +kernel)) (by decide +kernel) (by decide +kernel) (by decide) (fun _ _ h => by rw [h.1]; rfl) (fun _ U U' hal hh h => ⟨h.1, h.2.1.mv hal hh, h.2.2.1.mv hal hh, h.2.2.2.1.there hal hh, h.2.2.2.2⟩) (fun r U U' V V' h1 hal h2 h => Says01.mv r U U' V V' h1 hal h2 h) ?_
  intro p e s m args below meth c s₁ X0 hexec hbytes hml hret hlk hnm hown hh0 W hP
  obtain ⟨rfl, hx, hy, s1, hz⟩ := hP
  have c1 : Steps p.tables e below (s₁.setTop (entryFrame m #[.ref x, .ref y] 3)) (s₁.setTop (mkF m 2 #[.val (.ref x), .val (.ref y), .unset] [.ref y, .ref x])) := Steps.trans (entry rfl) (by
    show Steps p.tables e below (s₁.setTop (mkF m 0 #[.val (.ref x), .val (.ref y), .unset] [])) _
    refine XS.aloadN X0.here hexec rfl (hb hbytes d0) rfl rfl ?_
    refine XS.aloadN X0.here hexec rfl (hb hbytes d1) rfl rfl ?_
    exact Steps.refl _)
  by_cases hxy : x = y
  · have c2 : Steps p.tables e below (s₁.setTop (entryFrame m #[.ref x, .ref y] 3)) (s₁.setTop (mkF m 6 #[.val (.ref x), .val (.ref y), .unset] [.int 1])) := c1.trans (by
      refine acmpNo X0.here hexec rfl (hb hbytes d2) rfl rfl rfl (by simp [acmp, hxy]) ?_
      refine iconstV X0.here hexec rfl 1 (hb hbytes d5) (by decide) ?_
      exact Steps.refl _)
    subst hxy
    have ec : cd = cd' := by
      obtain ⟨D, fd, a1, a2, a3⟩ := hx.2.2.1
      obtain ⟨D', fd', b1, b2, b3⟩ := hy.2.2.1
      cases a1.symm.trans b1
      obtain ⟨q1, q2, q3, q4⟩ := a2.1
      obtain ⟨r1, r2, r3, r4⟩ := b2.1
      cases q4.symm.trans r4
      cases a3.symm.trans b3; rfl
    have et : t = t' := by
      obtain ⟨D, fd, a1, a2, a3⟩ := hx.2.1
      obtain ⟨D', fd', b1, b2, b3⟩ := hy.2.1
      cases a1.symm.trans b1
      obtain ⟨q1, q2, q3, q4⟩ := a2.1
      obtain ⟨r1, r2, r3, r4⟩ := b2.1
      cases q4.symm.trans r4
      cases a3.symm.trans b3; rfl
    subst ec et
    have ev : V = V' := by cases hx.2.2.2.1.1.symm.trans hy.2.2.2.1.1; rfl
    subst ev
    have hs : SameT n f k g := (Cod.eqv hx.2.2.2.2.1 hy.2.2.2.2.1 hx.2.2.2.2.2 hy.2.2.2.2.2).mp ⟨rfl, fun _ _ => rfl⟩
    exact ⟨s₁, some (.int 1), _, _, _, X0, rfl, rfl, rfl, (fun h => by cases h), ⟨1, rfl, hh0, Or.inl ⟨rfl, hs⟩⟩, fun fs hl => c2.trans (X0.ireturnOut hexec hret rfl (Or.inr (Or.inl rfl)) (hb hbytes d6) hl)⟩
  · have c2 : Steps p.tables e below (s₁.setTop (entryFrame m #[.ref x, .ref y] 3)) (s₁.setTop (mkF m 8 #[.val (.ref x), .val (.ref y), .unset] [.ref y])) := c1.trans (by
      refine acmpYes X0.here hexec rfl (pc0 := 2) rfl (hb hbytes d2) rfl rfl rfl (by simp [acmp, hxy]) (by decide) rfl ?_
      refine XS.aloadN X0.here hexec rfl (hb hbytes d7) rfl rfl ?_
      exact Steps.refl _)
    obtain ⟨T3, X3, q3, st3⟩ := cinst X0 hexec hown (wk W (.classLink "java/lang/String" 10 "java/lang/String")) (hy.mv X0.warmed.alike hh0).1 (g := (mkF m 8 #[.val (.ref x), .val (.ref y), .unset] [.ref y])) rfl (rest := []) rfl (hb hbytes d8)
    have hh3 := q3.trans hh0
    have c4 : Steps p.tables e below (s₁.setTop (entryFrame m #[.ref x, .ref y] 3)) (T3.setTop (mkF m 15 #[.val (.ref x), .val (.ref y), .unset] [.ref y])) := (c2.trans (st3 _ (Steps.refl _))).trans (by
      refine XS.ifNo X3.here hexec rfl (hb hbytes d11) rfl (i0_eq_f (by decide)) ?_
      refine XS.aloadN X3.here hexec rfl (hb hbytes d14) rfl rfl ?_
      exact Steps.refl _)
    obtain ⟨T5, X5, q5, st5⟩ := cself X3 hexec hown (wk W (.classLink "java/lang/String" 10 "java/lang/String")) (hy.mv X3.warmed.alike hh3).1 (g := (mkF m 15 #[.val (.ref x), .val (.ref y), .unset] [.ref y])) rfl (rest := []) rfl (hb hbytes d15)
    have hh5 := q5.trans hh3
    have c6 : Steps p.tables e below (s₁.setTop (entryFrame m #[.ref x, .ref y] 3)) (T5.setTop (mkF m 19 #[.val (.ref x), .val (.ref y), .val (.ref y)] [])) := (c4.trans (st5 _ (Steps.refl _))).trans (by
      refine XS.astoreN X5.here hexec rfl (hb hbytes d18) rfl rfl rfl ?_
      exact Steps.refl _)
    obtain ⟨T7, X7, q7, st7⟩ := X5.sget hexec hown (wk W (.fieldLink "java/lang/String" 38 "java/lang/String" "COMPACT_STRINGS" "Z")) s1 (fun _ _ h => by rw [hh5]; exact h) (g := (mkF m 19 #[.val (.ref x), .val (.ref y), .val (.ref y)] [])) rfl (hb hbytes d19)
    have hh7 := q7.trans hh5
    have c8 : Steps p.tables e below (s₁.setTop (entryFrame m #[.ref x, .ref y] 3)) (T7.setTop (mkF m 26 #[.val (.ref x), .val (.ref y), .val (.ref y)] [.ref x])) := (c6.trans (st7 _ (Steps.refl _))).trans (by
      refine XS.ifNo X7.here hexec rfl (hb hbytes d22) rfl (i0_eq_f hz) ?_
      refine XS.aloadN X7.here hexec rfl (hb hbytes d25) rfl rfl ?_
      exact Steps.refl _)
    obtain ⟨T9, X9, q9, st9⟩ := X7.hget hexec hown (wk W (.fieldLink "java/lang/String" 15 "java/lang/String" "coder" "B")) (hx.mv X7.warmed.alike hh7).2.2.1 (g := (mkF m 26 #[.val (.ref x), .val (.ref y), .val (.ref y)] [.ref x])) rfl (rest := []) rfl (hb hbytes d26)
    have hh9 := q9.trans hh7
    have c10 : Steps p.tables e below (s₁.setTop (entryFrame m #[.ref x, .ref y] 3)) (T9.setTop (mkF m 30 #[.val (.ref x), .val (.ref y), .val (.ref y)] [.ref y, .int cd])) := (c8.trans (st9 _ (Steps.refl _))).trans (by
      refine XS.aloadN X9.here hexec rfl (hb hbytes d29) rfl rfl ?_
      exact Steps.refl _)
    obtain ⟨T11, X11, q11, st11⟩ := X9.hget hexec hown (wk W (.fieldLink "java/lang/String" 15 "java/lang/String" "coder" "B")) (hy.mv X9.warmed.alike hh9).2.2.1 (g := (mkF m 30 #[.val (.ref x), .val (.ref y), .val (.ref y)] [.ref y, .int cd])) rfl (rest := [.int cd]) rfl (hb hbytes d30)
    have hh11 := q11.trans hh9
    have c12 : Steps p.tables e below (s₁.setTop (entryFrame m #[.ref x, .ref y] 3)) (T11.setTop (mkF m 33 #[.val (.ref x), .val (.ref y), .val (.ref y)] [.int cd', .int cd])) := c10.trans (st11 _ (Steps.refl _))
    by_cases hcd : cd = cd'
    · subst hcd
      have c13 : Steps p.tables e below (s₁.setTop (entryFrame m #[.ref x, .ref y] 3)) (T11.setTop (mkF m 37 #[.val (.ref x), .val (.ref y), .val (.ref y)] [.ref x])) := c12.trans (by
        refine XS.icmpNo X11.here hexec rfl (hb hbytes d33) rfl (ii_ne_f rfl) ?_
        refine XS.aloadN X11.here hexec rfl (hb hbytes d36) rfl rfl ?_
        exact Steps.refl _)
      obtain ⟨T14, X14, q14, st14⟩ := X11.hget hexec hown (wk W (.fieldLink "java/lang/String" 9 "java/lang/String" "value" "[B")) (hx.mv X11.warmed.alike hh11).2.1 (g := (mkF m 37 #[.val (.ref x), .val (.ref y), .val (.ref y)] [.ref x])) rfl (rest := []) rfl (hb hbytes d37)
      have hh14 := q14.trans hh11
      have c15 : Steps p.tables e below (s₁.setTop (entryFrame m #[.ref x, .ref y] 3)) (T14.setTop (mkF m 41 #[.val (.ref x), .val (.ref y), .val (.ref y)] [.ref y, .ref t])) := (c13.trans (st14 _ (Steps.refl _))).trans (by
        refine XS.aloadN X14.here hexec rfl (hb hbytes d40) rfl rfl ?_
        exact Steps.refl _)
      obtain ⟨T16, X16, q16, st16⟩ := X14.hget hexec hown (wk W (.fieldLink "java/lang/String" 9 "java/lang/String" "value" "[B")) (hy.mv X14.warmed.alike hh14).2.1 (g := (mkF m 41 #[.val (.ref x), .val (.ref y), .val (.ref y)] [.ref y, .ref t])) rfl (rest := [.ref t]) rfl (hb hbytes d41)
      have hh16 := q16.trans hh14
      have c17 : Steps p.tables e below (s₁.setTop (entryFrame m #[.ref x, .ref y] 3)) (T16.setTop (mkF m 44 #[.val (.ref x), .val (.ref y), .val (.ref y)] [.ref t', .ref t])) := c15.trans (st16 _ (Steps.refl _))
      obtain ⟨v18, T18, X18, E18, g18⟩ := X16.callS hexec (LEq.law l t V t' V') hown (wks W (staticW "java/lang/String" 541 LEq.yN)) (wk W LEq.tab) (W := 0) (Nat.le_of_ble_eq_true rfl) (Nat.le_of_ble_eq_true rfl) (Nat.le_refl _) (Nat.le_refl _) (g := (mkF m 44 #[.val (.ref x), .val (.ref y), .val (.ref y)] [.ref t', .ref t])) rfl (by rw [hml]; rfl) c17 (argsL := [.ref t, .ref t']) (rest := []) rfl rfl (by show 2 * 0 + 0 ≤ _; decide) (hb hbytes d44) (⟨rfl, hx.2.2.2.1.mv X16.warmed.alike hh16, hx.2.2.2.2.1.ty, hy.2.2.2.1.mv X16.warmed.alike hh16, hy.2.2.2.2.1.ty⟩)
      obtain ⟨v, rfl, q18, hv⟩ := E18
      have iff := Cod.eqv hx.2.2.2.2.1 hy.2.2.2.2.1 hx.2.2.2.2.2 hy.2.2.2.2.2
      rcases hv with ⟨rfl, he⟩ | ⟨rfl, he⟩
      · have c19 : Steps p.tables e below (s₁.setTop (entryFrame m #[.ref x, .ref y] 3)) (T18.setTop (mkF m 55 #[.val (.ref x), .val (.ref y), .val (.ref y)] [.int 1])) := Steps.trans g18 (by
          refine XS.ifNo X18.here hexec rfl (hb hbytes d47) rfl (i0_eq_f (by decide)) ?_
          refine iconstV X18.here hexec rfl 1 (hb hbytes d50) (by decide) ?_
          refine XS.goto X18.here hexec rfl (pc0 := 51) rfl (hb hbytes d51) (by decide) rfl ?_
          exact Steps.refl _)
        exact ⟨T18, some (.int 1), _, _, _, X18, rfl, rfl, rfl, (fun h => by cases h), ⟨1, rfl, q18.trans hh16, Or.inl ⟨rfl, iff.mp he⟩⟩, fun fs hl => c19.trans (X18.ireturnOut hexec hret rfl (Or.inr (Or.inl rfl)) (hb hbytes d55) hl)⟩
      · have c19 : Steps p.tables e below (s₁.setTop (entryFrame m #[.ref x, .ref y] 3)) (T18.setTop (mkF m 55 #[.val (.ref x), .val (.ref y), .val (.ref y)] [.int 0])) := Steps.trans g18 (by
          refine XS.ifYes X18.here hexec rfl (pc0 := 47) rfl (hb hbytes d47) rfl (i0_eq_t rfl) (by decide) rfl ?_
          refine iconstV X18.here hexec rfl 0 (hb hbytes d54) (by decide) ?_
          exact Steps.refl _)
        exact ⟨T18, some (.int 0), _, _, _, X18, rfl, rfl, rfl, (fun h => by cases h), ⟨0, rfl, q18.trans hh16, Or.inr ⟨rfl, fun q => he (iff.mpr q)⟩⟩, fun fs hl => c19.trans (X18.ireturnOut hexec hret rfl (Or.inr (Or.inl rfl)) (hb hbytes d55) hl)⟩
    · have c13 : Steps p.tables e below (s₁.setTop (entryFrame m #[.ref x, .ref y] 3)) (T11.setTop (mkF m 55 #[.val (.ref x), .val (.ref y), .val (.ref y)] [.int 0])) := c12.trans (by
        refine XS.icmpYes X11.here hexec rfl (pc0 := 33) rfl (hb hbytes d33) rfl (ii_ne_t hcd) (by decide) rfl ?_
        refine iconstV X11.here hexec rfl 0 (hb hbytes d54) (by decide) ?_
        exact Steps.refl _)
      exact ⟨T11, some (.int 0), _, _, _, X11, rfl, rfl, rfl, (fun h => by cases h), ⟨0, rfl, hh11, Or.inr ⟨rfl, Cod.dif hx.2.2.2.2.1 hy.2.2.2.2.1 hcd⟩⟩, fun fs hl => c13.trans (X11.ireturnOut hexec hret rfl (Or.inr (Or.inl rfl)) (hb hbytes d55) hl)⟩
theorem pays {l : Launch} {R : Room} {p : Program} {e : Env} {below : List Frame} {s : State} {sargs : Array Value} {len W : Nat} (x t : Addr) (V : Cell) (cd : Int32) (n : Nat) (f : Nat → Int32) (y t' : Addr) (V' : Cell) (cd' : Int32) (k : Nat) (g : Nat → Int32) (z : Int32) (htab : tab.before sargs s = true) (hfr : 2 ≤ R.frames) (hlo : W + 28 ≤ R.locals) :
    Back l R p e below s sargs yN len W (fun A₁ a₁ => A₁.cells + 0 ≤ R.cells ∧ A₁.slots + 0 ≤ R.slots ∧ P x t V cd n f y t' V' cd' k g z a₁ A₁.U) (fun A₁ _ v₁ B₁ => Says01 (SameT n f k g) v₁ A₁.U B₁.U ∧ B₁.locs = A₁.locs ++ [] ∧ B₁.cells = A₁.cells + 0 ∧ B₁.slots = A₁.slots + 0) :=
  (law l x t V cd n f y t' V' cd' k g z).pays htab hfr (by omega)
end SEq
end StrChars
namespace StrChars.Road
open Jvm Sem ClassFile Op Lib Jvm.Stand Jvm.Free Jvm.Free.XT
open Jvm.Lib.Cold (StaticIs)
/-- the words of String.equals(Object) -/
abbrev wordsEq : List Jvm.Cond := [.code SEq.yN SEq.yB 3 (some .boolean), .initialized ST, .classLink ST 10 ST, .fieldLink ST 38 ST "COMPACT_STRINGS" "Z", .fieldLink ST 15 ST "coder" "B", .fieldLink ST 9 ST "value" "[B", .methodLink ST 541 LEq.yN, .static LEq.yN, .code LEq.yN LEq.yB 3 (some .boolean), .initialized "java/lang/StringLatin1"]
theorem tabEq_of {a : Array Value} {s : State} (h : ∀ w ∈ wordsEq, w.before a s = true) : SEq.tab.before a s = true := by
  have hl : LEq.tab.before a s = true := unparts (wk h (.code LEq.yN LEq.yB 3 (some .boolean))) (wks h (.initialized LEq.yN.cls :: LEq.site))
  have q := consq hl h
  exact unparts (wk q (.code SEq.yN SEq.yB 3 (some .boolean))) (wks q (.initialized SEq.yN.cls :: SEq.site))
theorem movedEq {Z s : State} {a0 args : Array Value} (hZ : Z.Warmed39 s.vm) (hw : ∀ d ∈ wordsEq, d.before a0 Z = true) : ∀ d ∈ wordsEq, d.before args s = true := fun d hd => by
  have t : ∀ d ∈ wordsEq, (d.onTables && d.keepsFace) = true := by decide +kernel
  exact RoadKit.mv hZ (hw d hd) (t d hd)
/-- the road's facts of a String, as the laws ask it -/
theorem txt_of {Z U : State} {a0 : Array Value} {kI : Nat} (wi : (Jvm.Cond.instantiable ST kI).before a0 Z = true) (al : Z.vm.Alike U.vm) {x t : Addr} {kb : ClassId} {cs : List Int32} {cd N2 : Int32} {vs : List Value} (E : RoadKit.Exa Z U.heap x ST) (V : RoadKit.Fld Z U.heap x ST "value" "[B" (.ref t)) (C : RoadKit.Fld Z U.heap x ST "coder" "B" (.int cd)) (K : RoadKit.Arv Z U.heap t kb .byte N2 vs (.int 0)) (hc : CodA cs cd N2 vs) (hb : ∀ c ∈ cs, ¬ c < 0 ∧ ¬ (65535 : Int32) < c) (l2 : cs.length ≤ 4000) :
    ∃ A, Txt x t A cd cs.length (fun j => cs.getD j 0) U := by
  obtain ⟨A, K1, K2, K3, K4, K5, K6⟩ := K
  have hcod := hc.cod (by omega) K3 K5
  obtain ⟨D, fV, fC, hB, F1, F2, g1, g2, -, -⟩ := strObj wi al E V C
  exact ⟨A, ⟨_, hB.2.2.1, D, hB.1, rfl, by cases q : D.vm <;> first | rfl | exact absurd q (hB.2.1.2 _)⟩, Has.of hB F1 g1, Has.of hB F2 g2, ⟨K1.1, State.isArrayOf_alike al K1.2.1, K1.2.2, by rcases hcod with ⟨-, q, -⟩ | ⟨-, q, -⟩ <;> omega⟩, hcod, fun j hj => by
    have e : cs.getD j 0 = cs[j] := by simp [List.getD_eq_getElem?_getD, hj]
    show ¬ cs.getD j 0 < 0 ∧ ¬ 65535 < cs.getD j 0
    rw [e]; exact hb _ (List.getElem_mem _)⟩
theorem same_list (cs ds : List Int32) : SameT cs.length (fun j => cs.getD j 0) ds.length (fun j => ds.getD j 0) ↔ cs = ds := by
  constructor
  · rintro ⟨e, q⟩
    refine List.ext_getElem e fun j h1 h2 => ?_
    have := q j h1
    simpa [List.getD_eq_getElem?_getD, h1, h2] using this
  · rintro rfl
    exact ⟨rfl, fun _ _ => rfl⟩
/-- **equals(Object) OF TWO SUCH STRINGS**: 1 just where the chars are the same -/
theorem eqW {p : Program} {l : Launch} {e : Env} {R : Room} {s : State} {args : Array Value} {below : List Frame} {len W : Nat} {Z : State} {a0 : Array Value} {h : Heap} (hZ : Z.Warmed39 s.vm) (hw : ∀ d ∈ wordsEq, d.before a0 Z = true) {kI : Nat} (wi : (Jvm.Cond.instantiable ST kI).before a0 Z = true)
    {x t : Addr} {kb : ClassId} {cs : List Int32} {cd N2 : Int32} {vs : List Value} (E : RoadKit.Exa Z h x ST) (V : RoadKit.Fld Z h x ST "value" "[B" (.ref t)) (C : RoadKit.Fld Z h x ST "coder" "B" (.int cd)) (K : RoadKit.Arv Z h t kb .byte N2 vs (.int 0)) (hc : CodA cs cd N2 vs) (hb : ∀ c ∈ cs, ¬ c < 0 ∧ ¬ (65535 : Int32) < c) (l2 : cs.length ≤ 4000)
    {y t' : Addr} {kb' : ClassId} {ds : List Int32} {cd' N2' : Int32} {vs' : List Value} (E' : RoadKit.Exa Z h y ST) (V' : RoadKit.Fld Z h y ST "value" "[B" (.ref t')) (C' : RoadKit.Fld Z h y ST "coder" "B" (.int cd')) (K' : RoadKit.Arv Z h t' kb' .byte N2' vs' (.int 0)) (hc' : CodA ds cd' N2' vs') (hb' : ∀ c ∈ ds, ¬ c < 0 ∧ ¬ (65535 : Int32) < c) (l2' : ds.length ≤ 4000)
    {z : Int32} (S : RoadKit.Sta Z h ST "COMPACT_STRINGS" "Z" (.int z)) (hz : ¬ z = 0) (hfr : 2 ≤ R.frames) (hlo : W + 28 ≤ R.locals) :
    Back l R p e below s args (⟨"java/lang/String", "equals", "(Ljava/lang/Object;)Z"⟩ : MethodName) len W (fun P a => a = #[.ref x, .ref y] ∧ P.U.heap = h ∧ P.cells + 0 ≤ R.cells ∧ P.slots + 0 ≤ R.slots)
      (fun P _ v B => ∃ L, (((v = some (.int 1) ∧ cs = ds) ∨ (v = some (.int 0) ∧ ¬ cs = ds)) ∧ L = [] ∧ B.U.heap = h) ∧ B.locs = P.locs ++ L ∧ B.cells = P.cells + 0 ∧ B.slots = P.slots + 0) := by
  intro m meth c P g ig mk a X hg hsize hdg hW hn hp'
  obtain ⟨rfl, rfl, r1, r2⟩ := hp'
  have al : Z.vm.Alike P.U.vm := hZ.alike.trans X.warmed.alike
  obtain ⟨A, hx⟩ := txt_of wi al E V C K hc hb l2
  obtain ⟨A', hy⟩ := txt_of wi al E' V' C' K' hc' hb' l2'
  obtain ⟨v, B, X', ⟨⟨w, hv, hh, hq⟩, hl, hk, hs⟩, st⟩ := SEq.pays x t A cd cs.length (fun j => cs.getD j 0) y t' A' cd' ds.length (fun j => ds.getD j 0) z (tabEq_of (movedEq hZ hw)) hfr hlo m meth c P g ig mk _ X hg hsize hdg hW hn ⟨r1, r2, rfl, hx, hy, sta_is al S, hz⟩
  refine ⟨v, B, X', ⟨[], ⟨?_, rfl, hh⟩, hl, hk, hs⟩, st⟩
  rcases hq with ⟨rfl, q⟩ | ⟨rfl, q⟩
  · exact Or.inl ⟨hv, (same_list cs ds).mp q⟩
  · exact Or.inr ⟨hv, fun e => q ((same_list cs ds).mpr e)⟩
end StrChars.Road
end Jvm.Pilot.@@N@@

namespace Jvm.Pilot.@@N@@
open Jvm Jvm.ClassFile Sem Op Lib Jvm.Free Jvm.Stand Jvm.LawKit Jvm.RoadKit Bundle Jvm.OwnKit
section StrKit
variable {p : Program} {l : Launch} {e : Env} {R : Room} {s : State} {m : MethodId} {args : Array Value} {below : List Frame} {meth : Method} {c : Code} {Z : State} {a0 : Array Value} {EL : List (String × Nat)} {cw : Prop} {own : String} {n0 : Nat} {bytes : ByteArray} {maxL : Nat} {ret : Option FieldType} {nm : String} {T : State} {h : Heap} {C S : Nat} {sf : List Addr} {P : State → Outcome → Prop}
theorem G.newStr (H : Hs p l e R s m args below meth c Z a0 EL cw own n0 bytes maxL ret nm T h C S sf) (hws : ∀ d ∈ StrChars.Road.words, d.before a0 Z = true) {kI : Nat} (wi : (Jvm.Cond.instantiable "java/lang/String" kI).before a0 Z = true) {index : Nat} (w1 : (Jvm.Cond.methodLink own index (⟨"java/lang/String", "<init>", "([C)V"⟩ : MethodName)).before a0 Z = true) (w2 : (Jvm.Cond.instanceMethod (⟨"java/lang/String", "<init>", "([C)V"⟩ : MethodName)).before a0 Z = true)
    {x b : Addr} {kC : ClassId} {cs : List Int32} {d v0 c0 : Value} {z N : Int32} {n : Nat} (g : n0 ≤ x) (E : Exa Z h x "java/lang/String") (V : Fld Z h x "java/lang/String" "value" "[B" v0) (Cd : Fld Z h x "java/lang/String" "coder" "B" c0) (K : Arv Z h b kC .char N (cs.map Value.int) d) (Sc : Sta Z Z.heap "java/lang/String" "COMPACT_STRINGS" "Z" (.int z)) (hz : ¬ z = 0)
    (hn : cs.length = n) (hN : N = Int32.ofNat n) (l0 : 0 < n) (l2 : n ≤ 4000) (hp : ∀ c ∈ cs, ¬ c < 0 ∧ ¬ (255 : Int32) < c) (hsf : Sf Z EL h sf x) {rest : List Value} {W : Nat} {pc pc' : Nat} {L : Array Slot} (hL : L.size = maxL) (hW : (rest.map fun v => v.category).sum = W) (hd : decode bytes pc = .ok (.invokespecial index, 3)) (hp' : pc + 3 = pc') (hfr : 4 ≤ R.frames) (hlo : W + 65 ≤ R.locals) (hc : C + 1 ≤ R.cells) (hsl : S + n ≤ R.slots)
    (k : ∀ T' h' t kb, h.size ≤ t → Hs p l e R s m args below meth c Z a0 EL cw own n0 bytes maxL ret nm T' h' (C + 1) (S + n) (t :: sf) → Keep h h' [x] → Str Z h' x t kb cs → Go p e below P (T'.setTop (mkF m pc' L rest))) : Go p e below P (T.setTop (mkF m pc L (.ref b :: .ref x :: rest))) := by
  subst hp'
  obtain ⟨hM, vm0, k0, locs, X, h1, h2, h3, h4, h5, h6, h7, h8, h9, hO⟩ := id H
  have wc : (Jvm.Cond.code StrChars.New1.yN StrChars.New1.yB 2 none).before a0 Z = true := hws _ (List.mem_of_getElem? (i := 0) rfl)
  obtain ⟨v, vm₁, B, hw, X', ⟨L', ⟨q1, q2, q3, q4, q5, t, kb, q6, q7, q8, q9, q10⟩, r2, r3, r4⟩, st'⟩ := X.specialBack H.exec (y := (⟨"java/lang/String", "<init>", "([C)V"⟩ : MethodName)) rfl h5 (mvT (s := s.setVm vm0) h4 w1) (mvT (s := s.setVm vm0) h4 w2) (mvT (s := s.setVm vm0) h4 wc) (by decide)
    (StrChars.Road.backV (W := W) (s := s.setVm vm0) h4 hws wi g H.le E V Cd K (Sta.ext hO.2 Sc) hz hn hN l0 l2 hp rfl hfr hlo) (g := mkF m pc L (.ref b :: .ref x :: rest)) rfl (by rw [hM.2.2.2.1]; exact hL) (Steps.refl _) (a := x) (argsL := [.ref b]) (rest := rest) (lenOf (show parseMethodDescriptor "([C)V" = some ⟨[.array .char], none⟩ by decide +kernel) rfl) rfl (by show 2 * 0 + _ ≤ _; omega) (H.dec hd) (fun _ _ => ⟨rfl, h1, hc, hsl⟩)
  subst q1
  have sx : ∀ y ∈ [x], Safe Z EL vm0 h y := fun y hy => by rw [List.mem_singleton.mp hy]; exact hsf.safe h4 h8
  have hC := CHr.keep q3 sx h7.1
  refine Go.tr st' (k B.U B.U.heap t kb q7 ⟨hM, vm0, k0, B.locs, by rw [← r3, ← r4]; exact X', rfl, h2, Nat.le_trans h3 q3.1, h4, h5, by rw [r2]; exact Fr.app h6 q2, h7.trans hC, fun y hy => ?_, h9, hO.keep q3 (fun y hy => by rw [List.mem_singleton.mp hy]; exact g)⟩ q3 ⟨q4, q5, q9, ?_, hp, by rw [hn]; exact l2⟩)
  · rcases List.mem_cons.mp hy with rfl | hy
    · exact ⟨q10.lt, Safe.keep q3 sx h7.1 (Safe.new q7)⟩
    · exact ⟨Nat.lt_of_lt_of_le (h8 y hy).1 q3.1, Safe.keep q3 sx h7.1 (h8 y hy).2⟩
  · rw [hn, ← hN]; rw [List.map_map] at q10; exact q10
end StrKit
end Jvm.Pilot.@@N@@
namespace Jvm.Pilot.@@N@@
open Jvm Jvm.ClassFile Sem Op Lib Jvm.Free Jvm.Stand Jvm.LawKit Jvm.RoadKit Bundle Jvm.OwnKit
section StrKit2
variable {p : Program} {l : Launch} {e : Env} {R : Room} {s : State} {m : MethodId} {args : Array Value} {below : List Frame} {meth : Method} {c : Code} {Z : State} {a0 : Array Value} {EL : List (String × Nat)} {cw : Prop} {own : String} {n0 : Nat} {bytes : ByteArray} {maxL : Nat} {ret : Option FieldType} {nm : String} {T : State} {h : Heap} {C S : Nat} {sf : List Addr} {P : State → Outcome → Prop}
theorem str_cod {a t : Addr} {kb : ClassId} {cs : List Int32} (F : Str Z h a t kb cs) : StrChars.Road.CodA cs 0 (Int32.ofNat cs.length) (cs.map fun c => Value.int c.toInt8.toInt32) := Or.inl ⟨rfl, rfl, rfl, fun c hc => (F.2.2.2.2.1 c hc).2⟩
theorem str_u16 {a t : Addr} {kb : ClassId} {cs : List Int32} (F : Str Z h a t kb cs) : ∀ c ∈ cs, ¬ c < 0 ∧ ¬ (65535 : Int32) < c := fun c hc => own_u16 (F.2.2.2.2.1 c hc)
theorem G.strEq (H : Hs p l e R s m args below meth c Z a0 EL cw own n0 bytes maxL ret nm T h C S sf) (hws : ∀ d ∈ StrChars.Road.wordsEq, d.before a0 Z = true) {kI : Nat} (wi : (Jvm.Cond.instantiable "java/lang/String" kI).before a0 Z = true) {index : Nat} (w1 : (Jvm.Cond.methodLink own index (⟨"java/lang/String", "equals", "(Ljava/lang/Object;)Z"⟩ : MethodName)).before a0 Z = true) (w2 : (Jvm.Cond.declares (⟨"java/lang/String", "equals", "(Ljava/lang/Object;)Z"⟩ : MethodName)).before a0 Z = true) (w3 : (Jvm.Cond.selects "java/lang/String" (⟨"java/lang/String", "equals", "(Ljava/lang/Object;)Z"⟩ : MethodName) (⟨"java/lang/String", "equals", "(Ljava/lang/Object;)Z"⟩ : MethodName)).before a0 Z = true) (w4 : (Jvm.Cond.instanceMethod (⟨"java/lang/String", "equals", "(Ljava/lang/Object;)Z"⟩ : MethodName)).before a0 Z = true)
    {x t y t' : Addr} {kb kb' : ClassId} {cs ds : List Int32} (F : Str Z h x t kb cs) (F' : Str Z h y t' kb' ds) {z : Int32} (Sc : Sta Z Z.heap "java/lang/String" "COMPACT_STRINGS" "Z" (.int z)) (hz : ¬ z = 0) {rest : List Value} {W : Nat} {pc pc' : Nat} {L : Array Slot} (hL : L.size = maxL) (hW : (rest.map fun v => v.category).sum = W) (hd : decode bytes pc = .ok (.invokevirtual index, 3)) (hp : pc + 3 = pc') (hfr : 2 ≤ R.frames) (hlo : W + 28 ≤ R.locals) (hc : C ≤ R.cells) (hsl : S ≤ R.slots)
    (k1 : ∀ T', Hs p l e R s m args below meth c Z a0 EL cw own n0 bytes maxL ret nm T' h C S sf → cs = ds → Go p e below P (T'.setTop (mkF m pc' L (.int 1 :: rest)))) (k0 : ∀ T', Hs p l e R s m args below meth c Z a0 EL cw own n0 bytes maxL ret nm T' h C S sf → ¬ cs = ds → Go p e below P (T'.setTop (mkF m pc' L (.int 0 :: rest)))) : Go p e below P (T.setTop (mkF m pc L (.ref y :: .ref x :: rest))) := by
  refine G.pureV H (Qv := fun v => (v = some (.int 1) ∧ cs = ds) ∨ (v = some (.int 0) ∧ ¬ cs = ds)) (W := W) (fun s' hZ' => StrChars.Road.eqW (s := s') hZ' hws wi F.1 F.2.2.1 F.2.1 F.2.2.2.1 (str_cod F) (str_u16 F) F.2.2.2.2.2 F'.1 F'.2.2.1 F'.2.1 F'.2.2.2.1 (str_cod F') (str_u16 F') F'.2.2.2.2.2 (Sta.ext H.old.2 Sc) hz hfr hlo) w1 w2 w3 w4 (by decide) F.1 (argsL := [.ref y]) (rest := rest) hL rfl (lenOf (show parseMethodDescriptor "(Ljava/lang/Object;)Z" = some ⟨[.object "java/lang/Object"], some .boolean⟩ by decide +kernel) rfl) rfl hW hd hp hc hsl ?_
  intro T' v H' hq
  rcases hq with ⟨rfl, q⟩ | ⟨rfl, q⟩
  · exact k1 T' H' q
  · exact k0 T' H' q
end StrKit2
end Jvm.Pilot.@@N@@
namespace Jvm.Pilot.@@N@@
open Jvm Jvm.ClassFile Sem Op Lib Jvm.Free Jvm.Stand Jvm.LawKit Jvm.RoadKit Bundle Jvm.OwnKit Jvm.Pilot.@@N@@.Jvm.D
abbrev ELs : List (String × Nat) := [("bindery/server/stomp/HeaderEscapes", 7), ("bindery/server/stomp/HeaderEscapes", 15), ("bindery/server/stomp/HeaderEscapesApplyPinLaw", 14), ("java/lang/String", 7)]
def Env1 (Z : State) (a0 : Array Value) (n0 : Nat) (uu0 : Int32) (uu1 : Value) : Prop := (∀ d ∈ tables_1, d.before a0 Z = true) ∧ EW Z a0 ELs ∧ Sta Z Z.heap "java/lang/String" "COMPACT_STRINGS" "Z" (.int uu0) ∧ ¬ uu0 = 0 ∧ Sta Z Z.heap "jdk/internal/util/Preconditions" "SIOOBE_FORMATTER" "Ljava/util/function/BiFunction;" uu1 ∧ uu1.isRef = true ∧ True
theorem EWl (V : Env1 Z a0 n0 uu0 uu1) : EW Z a0 ELs := V.2.1
theorem hv0 (V : Env1 Z a0 n0 uu0 uu1) : Sta Z Z.heap "java/lang/String" "COMPACT_STRINGS" "Z" (.int uu0) := V.2.2.1
theorem hv1 (V : Env1 Z a0 n0 uu0 uu1) : ¬ uu0 = 0 := V.2.2.2.1
theorem hv2 (V : Env1 Z a0 n0 uu0 uu1) : Sta Z Z.heap "jdk/internal/util/Preconditions" "SIOOBE_FORMATTER" "Ljava/util/function/BiFunction;" uu1 := V.2.2.2.2.1
theorem hv3 (V : Env1 Z a0 n0 uu0 uu1) : uu1.isRef = true := V.2.2.2.2.2.1
theorem wd0 (V : Env1 Z a0 n0 uu0 uu1) : (Jvm.Cond.constant "bindery/server/stomp/HeaderEscapesApplyPinLaw" (7 : Nat) (2147483647 : Int32)).before a0 Z = true := V.1 _ (List.mem_of_getElem? (i := 0) rfl)
theorem wd1 (V : Env1 Z a0 n0 uu0 uu1) : (Jvm.Cond.arrayClass Jvm.ClassFile.FieldType.char).before a0 Z = true := V.1 _ (List.mem_of_getElem? (i := 1) rfl)
theorem wd2 (V : Env1 Z a0 n0 uu0 uu1) : (Jvm.Cond.methodLink "bindery/server/stomp/HeaderEscapesApplyPinLaw" (8 : Nat) ({ cls := "bindery/server/stomp/HeaderEscapesApplyPinLaw", name := "cut", desc := "([CI)Ljava/lang/String;" } : Jvm.MethodName)).before a0 Z = true := V.1 _ (List.mem_of_getElem? (i := 2) rfl)
theorem wd3 (V : Env1 Z a0 n0 uu0 uu1) : (Jvm.Cond.static ({ cls := "bindery/server/stomp/HeaderEscapesApplyPinLaw", name := "cut", desc := "([CI)Ljava/lang/String;" } : Jvm.MethodName)).before a0 Z = true := V.1 _ (List.mem_of_getElem? (i := 3) rfl)
theorem wd4 (V : Env1 Z a0 n0 uu0 uu1) : (Jvm.Cond.initialized "bindery/server/stomp/HeaderEscapesApplyPinLaw").before a0 Z = true := V.1 _ (List.mem_of_getElem? (i := 4) rfl)
theorem wd5 (V : Env1 Z a0 n0 uu0 uu1) : (Jvm.Cond.code ({ cls := "bindery/server/stomp/HeaderEscapesApplyPinLaw", name := "cut", desc := "([CI)Ljava/lang/String;" } : Jvm.MethodName) method_3_code (2 : Nat) (Option.some (Jvm.ClassFile.FieldType.object "java/lang/String"))).before a0 Z = true := V.1 _ (List.mem_of_getElem? (i := 5) rfl)
theorem wd6 (V : Env1 Z a0 n0 uu0 uu1) : (Jvm.Cond.classLink "bindery/server/stomp/HeaderEscapesApplyPinLaw" (17 : Nat) "java/lang/String").before a0 Z = true := V.1 _ (List.mem_of_getElem? (i := 6) rfl)
theorem wd7 (V : Env1 Z a0 n0 uu0 uu1) : (Jvm.Cond.instantiable "java/lang/String" (4 : Nat)).before a0 Z = true := V.1 _ (List.mem_of_getElem? (i := 7) rfl)
theorem wd8 (V : Env1 Z a0 n0 uu0 uu1) : (Jvm.Cond.initialized "java/lang/String").before a0 Z = true := V.1 _ (List.mem_of_getElem? (i := 8) rfl)
theorem wd9 (V : Env1 Z a0 n0 uu0 uu1) : (Jvm.Cond.methodLink "bindery/server/stomp/HeaderEscapesApplyPinLaw" (28 : Nat) ({ cls := "java/lang/String", name := "<init>", desc := "([C)V" } : Jvm.MethodName)).before a0 Z = true := V.1 _ (List.mem_of_getElem? (i := 9) rfl)
theorem wd10 (V : Env1 Z a0 n0 uu0 uu1) : (Jvm.Cond.instanceMethod ({ cls := "java/lang/String", name := "<init>", desc := "([C)V" } : Jvm.MethodName)).before a0 Z = true := V.1 _ (List.mem_of_getElem? (i := 10) rfl)
theorem wd11 (V : Env1 Z a0 n0 uu0 uu1) : (Jvm.Cond.code ({ cls := "java/lang/String", name := "<init>", desc := "([C)V" } : Jvm.MethodName) jdk_42_method_3_code (2 : Nat) (Option.none : Option Jvm.ClassFile.FieldType)).before a0 Z = true := V.1 _ (List.mem_of_getElem? (i := 11) rfl)
theorem wd12 (V : Env1 Z a0 n0 uu0 uu1) : (Jvm.Cond.methodLink "java/lang/String" (27 : Nat) ({ cls := "java/lang/String", name := "<init>", desc := "([CIILjava/lang/Void;)V" } : Jvm.MethodName)).before a0 Z = true := V.1 _ (List.mem_of_getElem? (i := 12) rfl)
theorem wd13 (V : Env1 Z a0 n0 uu0 uu1) : (Jvm.Cond.instanceMethod ({ cls := "java/lang/String", name := "<init>", desc := "([CIILjava/lang/Void;)V" } : Jvm.MethodName)).before a0 Z = true := V.1 _ (List.mem_of_getElem? (i := 13) rfl)
theorem wd15 (V : Env1 Z a0 n0 uu0 uu1) : (Jvm.Cond.code ({ cls := "java/lang/String", name := "<init>", desc := "([CIILjava/lang/Void;)V" } : Jvm.MethodName) jdk_42_method_149_code (6 : Nat) (Option.none : Option Jvm.ClassFile.FieldType)).before a0 Z = true := V.1 _ (List.mem_of_getElem? (i := 15) rfl)
theorem wd16 (V : Env1 Z a0 n0 uu0 uu1) : (Jvm.Cond.methodLink "java/lang/String" (1 : Nat) ({ cls := "java/lang/Object", name := "<init>", desc := "()V" } : Jvm.MethodName)).before a0 Z = true := V.1 _ (List.mem_of_getElem? (i := 16) rfl)
theorem wd17 (V : Env1 Z a0 n0 uu0 uu1) : (Jvm.Cond.instanceMethod ({ cls := "java/lang/Object", name := "<init>", desc := "()V" } : Jvm.MethodName)).before a0 Z = true := V.1 _ (List.mem_of_getElem? (i := 17) rfl)
theorem wd18 (V : Env1 Z a0 n0 uu0 uu1) : (Jvm.Cond.code ({ cls := "java/lang/Object", name := "<init>", desc := "()V" } : Jvm.MethodName) object_method_1_code (1 : Nat) (Option.none : Option Jvm.ClassFile.FieldType)).before a0 Z = true := V.1 _ (List.mem_of_getElem? (i := 18) rfl)
theorem wd19 (V : Env1 Z a0 n0 uu0 uu1) : (Jvm.Cond.stringLink "java/lang/String" (7 : Nat) "").before a0 Z = true := V.1 _ (List.mem_of_getElem? (i := 19) rfl)
theorem wd21 (V : Env1 Z a0 n0 uu0 uu1) : (Jvm.Cond.laysFinal "java/lang/String" "java/lang/String" "value" "[B").before a0 Z = true := V.1 _ (List.mem_of_getElem? (i := 21) rfl)
theorem wd22 (V : Env1 Z a0 n0 uu0 uu1) : (Jvm.Cond.laysFinal "java/lang/String" "java/lang/String" "coder" "B").before a0 Z = true := V.1 _ (List.mem_of_getElem? (i := 22) rfl)
theorem wd25 (V : Env1 Z a0 n0 uu0 uu1) : (Jvm.Cond.fieldLink "java/lang/String" (9 : Nat) "java/lang/String" "value" "[B").before a0 Z = true := V.1 _ (List.mem_of_getElem? (i := 25) rfl)
theorem wd26 (V : Env1 Z a0 n0 uu0 uu1) : (Jvm.Cond.fieldLink "java/lang/String" (15 : Nat) "java/lang/String" "coder" "B").before a0 Z = true := V.1 _ (List.mem_of_getElem? (i := 26) rfl)
theorem wd27 (V : Env1 Z a0 n0 uu0 uu1) : (Jvm.Cond.methodLink "bindery/server/stomp/HeaderEscapesApplyPinLaw" (22 : Nat) ({ cls := "bindery/server/stomp/HeaderEscapes", name := "apply", desc := "(Ljava/lang/String;)Z" } : Jvm.MethodName)).before a0 Z = true := V.1 _ (List.mem_of_getElem? (i := 27) rfl)
theorem wd28 (V : Env1 Z a0 n0 uu0 uu1) : (Jvm.Cond.static ({ cls := "bindery/server/stomp/HeaderEscapes", name := "apply", desc := "(Ljava/lang/String;)Z" } : Jvm.MethodName)).before a0 Z = true := V.1 _ (List.mem_of_getElem? (i := 28) rfl)
theorem wd29 (V : Env1 Z a0 n0 uu0 uu1) : (Jvm.Cond.initialized "bindery/server/stomp/HeaderEscapes").before a0 Z = true := V.1 _ (List.mem_of_getElem? (i := 29) rfl)
theorem wd30 (V : Env1 Z a0 n0 uu0 uu1) : (Jvm.Cond.code ({ cls := "bindery/server/stomp/HeaderEscapes", name := "apply", desc := "(Ljava/lang/String;)Z" } : Jvm.MethodName) prog_84_method_2_code (1 : Nat) (Option.some Jvm.ClassFile.FieldType.boolean)).before a0 Z = true := V.1 _ (List.mem_of_getElem? (i := 30) rfl)
theorem wd31 (V : Env1 Z a0 n0 uu0 uu1) : (Jvm.Cond.stringLink "bindery/server/stomp/HeaderEscapes" (7 : Nat) "CONNECT").before a0 Z = true := V.1 _ (List.mem_of_getElem? (i := 31) rfl)
theorem wd32 (V : Env1 Z a0 n0 uu0 uu1) : (Jvm.Cond.methodLink "bindery/server/stomp/HeaderEscapes" (9 : Nat) ({ cls := "java/lang/String", name := "equals", desc := "(Ljava/lang/Object;)Z" } : Jvm.MethodName)).before a0 Z = true := V.1 _ (List.mem_of_getElem? (i := 32) rfl)
theorem wd33 (V : Env1 Z a0 n0 uu0 uu1) : (Jvm.Cond.declares ({ cls := "java/lang/String", name := "equals", desc := "(Ljava/lang/Object;)Z" } : Jvm.MethodName)).before a0 Z = true := V.1 _ (List.mem_of_getElem? (i := 33) rfl)
theorem wd34 (V : Env1 Z a0 n0 uu0 uu1) : (Jvm.Cond.instanceMethod ({ cls := "java/lang/String", name := "equals", desc := "(Ljava/lang/Object;)Z" } : Jvm.MethodName)).before a0 Z = true := V.1 _ (List.mem_of_getElem? (i := 34) rfl)
theorem wd35 (V : Env1 Z a0 n0 uu0 uu1) : (Jvm.Cond.selects "java/lang/String" ({ cls := "java/lang/String", name := "equals", desc := "(Ljava/lang/Object;)Z" } : Jvm.MethodName) ({ cls := "java/lang/String", name := "equals", desc := "(Ljava/lang/Object;)Z" } : Jvm.MethodName)).before a0 Z = true := V.1 _ (List.mem_of_getElem? (i := 35) rfl)
theorem wd38 (V : Env1 Z a0 n0 uu0 uu1) : (Jvm.Cond.fieldLink "java/lang/String" (38 : Nat) "java/lang/String" "COMPACT_STRINGS" "Z").before a0 Z = true := V.1 _ (List.mem_of_getElem? (i := 38) rfl)
theorem wd41 (V : Env1 Z a0 n0 uu0 uu1) : (Jvm.Cond.initialized "java/lang/StringLatin1").before a0 Z = true := V.1 _ (List.mem_of_getElem? (i := 41) rfl)
theorem wd43 (V : Env1 Z a0 n0 uu0 uu1) : (Jvm.Cond.stringLink "bindery/server/stomp/HeaderEscapes" (15 : Nat) "CONNECTED").before a0 Z = true := V.1 _ (List.mem_of_getElem? (i := 43) rfl)
theorem wd54 (V : Env1 Z a0 n0 uu0 uu1) : (Jvm.Cond.stringLink "bindery/server/stomp/HeaderEscapesApplyPinLaw" (14 : Nat) "CONNECTED").before a0 Z = true := V.1 _ (List.mem_of_getElem? (i := 54) rfl)
theorem wd55 (V : Env1 Z a0 n0 uu0 uu1) : (Jvm.Cond.methodLink "bindery/server/stomp/HeaderEscapesApplyPinLaw" (16 : Nat) ({ cls := "java/lang/String", name := "charAt", desc := "(I)C" } : Jvm.MethodName)).before a0 Z = true := V.1 _ (List.mem_of_getElem? (i := 55) rfl)
theorem wd56 (V : Env1 Z a0 n0 uu0 uu1) : (Jvm.Cond.declares ({ cls := "java/lang/String", name := "charAt", desc := "(I)C" } : Jvm.MethodName)).before a0 Z = true := V.1 _ (List.mem_of_getElem? (i := 56) rfl)
theorem wd57 (V : Env1 Z a0 n0 uu0 uu1) : (Jvm.Cond.instanceMethod ({ cls := "java/lang/String", name := "charAt", desc := "(I)C" } : Jvm.MethodName)).before a0 Z = true := V.1 _ (List.mem_of_getElem? (i := 57) rfl)
theorem wd58 (V : Env1 Z a0 n0 uu0 uu1) : (Jvm.Cond.selects "java/lang/String" ({ cls := "java/lang/String", name := "charAt", desc := "(I)C" } : Jvm.MethodName) ({ cls := "java/lang/String", name := "charAt", desc := "(I)C" } : Jvm.MethodName)).before a0 Z = true := V.1 _ (List.mem_of_getElem? (i := 58) rfl)
theorem wd59 (V : Env1 Z a0 n0 uu0 uu1) : (Jvm.Cond.code ({ cls := "java/lang/String", name := "charAt", desc := "(I)C" } : Jvm.MethodName) jdk_42_method_56_code (2 : Nat) (Option.some Jvm.ClassFile.FieldType.char)).before a0 Z = true := V.1 _ (List.mem_of_getElem? (i := 59) rfl)
theorem wd60 (V : Env1 Z a0 n0 uu0 uu1) : (Jvm.Cond.methodLink "java/lang/String" (492 : Nat) ({ cls := "java/lang/String", name := "isLatin1", desc := "()Z" } : Jvm.MethodName)).before a0 Z = true := V.1 _ (List.mem_of_getElem? (i := 60) rfl)
theorem wd61 (V : Env1 Z a0 n0 uu0 uu1) : (Jvm.Cond.declares ({ cls := "java/lang/String", name := "isLatin1", desc := "()Z" } : Jvm.MethodName)).before a0 Z = true := V.1 _ (List.mem_of_getElem? (i := 61) rfl)
theorem wd62 (V : Env1 Z a0 n0 uu0 uu1) : (Jvm.Cond.instanceMethod ({ cls := "java/lang/String", name := "isLatin1", desc := "()Z" } : Jvm.MethodName)).before a0 Z = true := V.1 _ (List.mem_of_getElem? (i := 62) rfl)
theorem wd63 (V : Env1 Z a0 n0 uu0 uu1) : (Jvm.Cond.selects "java/lang/String" ({ cls := "java/lang/String", name := "isLatin1", desc := "()Z" } : Jvm.MethodName) ({ cls := "java/lang/String", name := "isLatin1", desc := "()Z" } : Jvm.MethodName)).before a0 Z = true := V.1 _ (List.mem_of_getElem? (i := 63) rfl)
theorem wd64 (V : Env1 Z a0 n0 uu0 uu1) : (Jvm.Cond.code ({ cls := "java/lang/String", name := "isLatin1", desc := "()Z" } : Jvm.MethodName) jdk_42_method_154_code (1 : Nat) (Option.some Jvm.ClassFile.FieldType.boolean)).before a0 Z = true := V.1 _ (List.mem_of_getElem? (i := 64) rfl)
theorem wd65 (V : Env1 Z a0 n0 uu0 uu1) : (Jvm.Cond.methodLink "java/lang/String" (495 : Nat) ({ cls := "java/lang/StringLatin1", name := "charAt", desc := "([BI)C" } : Jvm.MethodName)).before a0 Z = true := V.1 _ (List.mem_of_getElem? (i := 65) rfl)
theorem wd66 (V : Env1 Z a0 n0 uu0 uu1) : (Jvm.Cond.static ({ cls := "java/lang/StringLatin1", name := "charAt", desc := "([BI)C" } : Jvm.MethodName)).before a0 Z = true := V.1 _ (List.mem_of_getElem? (i := 66) rfl)
theorem wd67 (V : Env1 Z a0 n0 uu0 uu1) : (Jvm.Cond.code ({ cls := "java/lang/StringLatin1", name := "charAt", desc := "([BI)C" } : Jvm.MethodName) jdk_43_method_2_code (2 : Nat) (Option.some Jvm.ClassFile.FieldType.char)).before a0 Z = true := V.1 _ (List.mem_of_getElem? (i := 67) rfl)
theorem wd68 (V : Env1 Z a0 n0 uu0 uu1) : (Jvm.Cond.methodLink "java/lang/StringLatin1" (9 : Nat) ({ cls := "java/lang/String", name := "checkIndex", desc := "(II)V" } : Jvm.MethodName)).before a0 Z = true := V.1 _ (List.mem_of_getElem? (i := 68) rfl)
theorem wd69 (V : Env1 Z a0 n0 uu0 uu1) : (Jvm.Cond.static ({ cls := "java/lang/String", name := "checkIndex", desc := "(II)V" } : Jvm.MethodName)).before a0 Z = true := V.1 _ (List.mem_of_getElem? (i := 69) rfl)
theorem wd70 (V : Env1 Z a0 n0 uu0 uu1) : (Jvm.Cond.code ({ cls := "java/lang/String", name := "checkIndex", desc := "(II)V" } : Jvm.MethodName) jdk_42_method_155_code (2 : Nat) (Option.none : Option Jvm.ClassFile.FieldType)).before a0 Z = true := V.1 _ (List.mem_of_getElem? (i := 70) rfl)
theorem wd71 (V : Env1 Z a0 n0 uu0 uu1) : (Jvm.Cond.fieldLink "java/lang/String" (1053 : Nat) "jdk/internal/util/Preconditions" "SIOOBE_FORMATTER" "Ljava/util/function/BiFunction;").before a0 Z = true := V.1 _ (List.mem_of_getElem? (i := 71) rfl)
theorem wd72 (V : Env1 Z a0 n0 uu0 uu1) : (Jvm.Cond.initialized "jdk/internal/util/Preconditions").before a0 Z = true := V.1 _ (List.mem_of_getElem? (i := 72) rfl)
theorem wd73 (V : Env1 Z a0 n0 uu0 uu1) : (Jvm.Cond.methodLink "java/lang/String" (1059 : Nat) ({ cls := "jdk/internal/util/Preconditions", name := "checkIndex", desc := "(IILjava/util/function/BiFunction;)I" } : Jvm.MethodName)).before a0 Z = true := V.1 _ (List.mem_of_getElem? (i := 73) rfl)
theorem wd74 (V : Env1 Z a0 n0 uu0 uu1) : (Jvm.Cond.static ({ cls := "jdk/internal/util/Preconditions", name := "checkIndex", desc := "(IILjava/util/function/BiFunction;)I" } : Jvm.MethodName)).before a0 Z = true := V.1 _ (List.mem_of_getElem? (i := 74) rfl)
theorem wd75 (V : Env1 Z a0 n0 uu0 uu1) : (Jvm.Cond.code ({ cls := "jdk/internal/util/Preconditions", name := "checkIndex", desc := "(IILjava/util/function/BiFunction;)I" } : Jvm.MethodName) jdk_41_method_11_code (3 : Nat) (Option.some Jvm.ClassFile.FieldType.int)).before a0 Z = true := V.1 _ (List.mem_of_getElem? (i := 75) rfl)
set_option maxRecDepth 65536 in
theorem wS (V : Env1 Z a0 n0 uu0 uu1) : ∀ a ∈ Bundle.stringAtoms, a.before a0 Z = true := fun d hd => V.1 d ((by decide +kernel : ∀ d ∈ Bundle.stringAtoms, d ∈ tables_1) d hd)
theorem pd_0 : parseMethodDescriptor "([CIILjava/lang/Void;)V" = some ⟨[(.array .char), .int, .int, (.object "java/lang/Void")], none⟩ := by decide +kernel
theorem pd_1 : parseMethodDescriptor "([C)V" = some ⟨[(.array .char)], none⟩ := by decide +kernel
theorem pd_2 : parseMethodDescriptor "([CI)Ljava/lang/String;" = some ⟨[(.array .char), .int], (some (.object "java/lang/String"))⟩ := by decide +kernel
theorem pd_3 : parseMethodDescriptor "(Ljava/lang/String;)Z" = some ⟨[(.object "java/lang/String")], (some .boolean)⟩ := by decide +kernel
theorem pd_4 : parseMethodDescriptor "()Z" = some ⟨[], (some .boolean)⟩ := by decide +kernel
theorem pd_5 : parseMethodDescriptor "(IILjava/util/function/BiFunction;)I" = some ⟨[.int, .int, (.object "java/util/function/BiFunction")], (some .int)⟩ := by decide +kernel
theorem pd_6 : parseMethodDescriptor "(II)V" = some ⟨[.int, .int], none⟩ := by decide +kernel
theorem pd_7 : parseMethodDescriptor "([BI)C" = some ⟨[(.array .byte), .int], (some .char)⟩ := by decide +kernel
theorem pd_8 : parseMethodDescriptor "(I)C" = some ⟨[.int], (some .char)⟩ := by decide +kernel
set_option maxRecDepth 65536 in
theorem strw (V : Env1 Z a0 n0 uu0 uu1) : ∀ d ∈ StrChars.Road.words, d.before a0 Z = true := fun d hd => V.1 d ((by decide +kernel : ∀ d ∈ StrChars.Road.words, d ∈ tables_1) d hd)
set_option maxRecDepth 65536 in
theorem strwEq (V : Env1 Z a0 n0 uu0 uu1) : ∀ d ∈ StrChars.Road.wordsEq, d.before a0 Z = true := fun d hd => V.1 d ((by decide +kernel : ∀ d ∈ StrChars.Road.wordsEq, d ∈ tables_1) d hd)
theorem D7_0 : decode method_3_code 0 = .ok (.iload_n 1, 1) := by decide +kernel
theorem D7_1 : decode method_3_code 1 = .ok (.ifCond .ne 14, 3) := by decide +kernel
theorem D7_4 : decode method_3_code 4 = .ok (.new 17, 3) := by decide +kernel
theorem D7_7 : decode method_3_code 7 = .ok (.dup, 1) := by decide +kernel
theorem D7_8 : decode method_3_code 8 = .ok (.iconst 0, 1) := by decide +kernel
theorem D7_9 : decode method_3_code 9 = .ok (.newarray .char, 2) := by decide +kernel
theorem D7_11 : decode method_3_code 11 = .ok (.invokespecial 28, 3) := by decide +kernel
theorem D4_0 : decode jdk_42_method_3_code 0 = .ok (.aload_n 0, 1) := by decide +kernel
theorem D4_1 : decode jdk_42_method_3_code 1 = .ok (.aload_n 1, 1) := by decide +kernel
theorem D4_2 : decode jdk_42_method_3_code 2 = .ok (.iconst 0, 1) := by decide +kernel
theorem D4_3 : decode jdk_42_method_3_code 3 = .ok (.aload_n 1, 1) := by decide +kernel
theorem D4_4 : decode jdk_42_method_3_code 4 = .ok (.arraylength, 1) := by decide +kernel
theorem D4_5 : decode jdk_42_method_3_code 5 = .ok (.aconst_null, 1) := by decide +kernel
theorem D4_6 : decode jdk_42_method_3_code 6 = .ok (.invokespecial 27, 3) := by decide +kernel
theorem D1_0 : decode jdk_42_method_149_code 0 = .ok (.aload_n 0, 1) := by decide +kernel
theorem D1_1 : decode jdk_42_method_149_code 1 = .ok (.invokespecial 1, 3) := by decide +kernel
theorem D1_4 : decode jdk_42_method_149_code 4 = .ok (.iload_n 3, 1) := by decide +kernel
theorem D1_5 : decode jdk_42_method_149_code 5 = .ok (.ifCond .ne 22, 3) := by decide +kernel
theorem D1_8 : decode jdk_42_method_149_code 8 = .ok (.aload_n 0, 1) := by decide +kernel
theorem D1_9 : decode jdk_42_method_149_code 9 = .ok (.ldc 7, 2) := by decide +kernel
theorem D1_11 : decode jdk_42_method_149_code 11 = .ok (.getfield 9, 3) := by decide +kernel
theorem D1_14 : decode jdk_42_method_149_code 14 = .ok (.putfield 9, 3) := by decide +kernel
theorem D1_17 : decode jdk_42_method_149_code 17 = .ok (.aload_n 0, 1) := by decide +kernel
theorem D1_18 : decode jdk_42_method_149_code 18 = .ok (.ldc 7, 2) := by decide +kernel
theorem D1_20 : decode jdk_42_method_149_code 20 = .ok (.getfield 15, 3) := by decide +kernel
theorem D1_23 : decode jdk_42_method_149_code 23 = .ok (.putfield 15, 3) := by decide +kernel
theorem D1_26 : decode jdk_42_method_149_code 26 = .ok (.return_, 1) := by decide +kernel
theorem D4_9 : decode jdk_42_method_3_code 9 = .ok (.return_, 1) := by decide +kernel
theorem D7_14 : decode method_3_code 14 = .ok (.areturn, 1) := by decide +kernel
theorem D8_0 : decode prog_84_method_2_code 0 = .ok (.aload_n 0, 1) := by decide +kernel
theorem D8_1 : decode prog_84_method_2_code 1 = .ok (.ldc 7, 2) := by decide +kernel
theorem D8_3 : decode prog_84_method_2_code 3 = .ok (.invokevirtual 9, 3) := by decide +kernel
theorem D8_6 : decode prog_84_method_2_code 6 = .ok (.ifCond .ne 16, 3) := by decide +kernel
theorem D8_9 : decode prog_84_method_2_code 9 = .ok (.aload_n 0, 1) := by decide +kernel
theorem D8_10 : decode prog_84_method_2_code 10 = .ok (.ldc 15, 2) := by decide +kernel
theorem D8_12 : decode prog_84_method_2_code 12 = .ok (.invokevirtual 9, 3) := by decide +kernel
theorem D8_15 : decode prog_84_method_2_code 15 = .ok (.ifCond .ne 7, 3) := by decide +kernel
theorem D8_18 : decode prog_84_method_2_code 18 = .ok (.iconst 1, 1) := by decide +kernel
theorem D8_19 : decode prog_84_method_2_code 19 = .ok (.goto 4, 3) := by decide +kernel
theorem D8_23 : decode prog_84_method_2_code 23 = .ok (.ireturn, 1) := by decide +kernel
theorem D7_15 : decode method_3_code 15 = .ok (.iload_n 1, 1) := by decide +kernel
theorem D7_16 : decode method_3_code 16 = .ok (.iconst 1, 1) := by decide +kernel
theorem D7_17 : decode method_3_code 17 = .ok (.if_icmp .ne 20, 3) := by decide +kernel
theorem D7_20 : decode method_3_code 20 = .ok (.new 17, 3) := by decide +kernel
theorem D7_23 : decode method_3_code 23 = .ok (.dup, 1) := by decide +kernel
theorem D7_24 : decode method_3_code 24 = .ok (.iconst 1, 1) := by decide +kernel
theorem D7_25 : decode method_3_code 25 = .ok (.newarray .char, 2) := by decide +kernel
theorem D7_27 : decode method_3_code 27 = .ok (.dup, 1) := by decide +kernel
theorem D7_28 : decode method_3_code 28 = .ok (.iconst 0, 1) := by decide +kernel
theorem D7_29 : decode method_3_code 29 = .ok (.aload_n 0, 1) := by decide +kernel
theorem D7_30 : decode method_3_code 30 = .ok (.iconst 0, 1) := by decide +kernel
theorem D7_31 : decode method_3_code 31 = .ok (.caload, 1) := by decide +kernel
theorem D7_32 : decode method_3_code 32 = .ok (.castore, 1) := by decide +kernel
theorem D7_33 : decode method_3_code 33 = .ok (.invokespecial 28, 3) := by decide +kernel
theorem D7_36 : decode method_3_code 36 = .ok (.areturn, 1) := by decide +kernel
theorem D7_37 : decode method_3_code 37 = .ok (.iload_n 1, 1) := by decide +kernel
theorem D7_38 : decode method_3_code 38 = .ok (.iconst 2, 1) := by decide +kernel
theorem D7_39 : decode method_3_code 39 = .ok (.if_icmp .ne 26, 3) := by decide +kernel
theorem D7_42 : decode method_3_code 42 = .ok (.new 17, 3) := by decide +kernel
theorem D7_45 : decode method_3_code 45 = .ok (.dup, 1) := by decide +kernel
theorem D7_46 : decode method_3_code 46 = .ok (.iconst 2, 1) := by decide +kernel
theorem D7_47 : decode method_3_code 47 = .ok (.newarray .char, 2) := by decide +kernel
theorem D7_49 : decode method_3_code 49 = .ok (.dup, 1) := by decide +kernel
theorem D7_50 : decode method_3_code 50 = .ok (.iconst 0, 1) := by decide +kernel
theorem D7_51 : decode method_3_code 51 = .ok (.aload_n 0, 1) := by decide +kernel
theorem D7_52 : decode method_3_code 52 = .ok (.iconst 0, 1) := by decide +kernel
theorem D7_53 : decode method_3_code 53 = .ok (.caload, 1) := by decide +kernel
theorem D7_54 : decode method_3_code 54 = .ok (.castore, 1) := by decide +kernel
theorem D7_55 : decode method_3_code 55 = .ok (.dup, 1) := by decide +kernel
theorem D7_56 : decode method_3_code 56 = .ok (.iconst 1, 1) := by decide +kernel
theorem D7_57 : decode method_3_code 57 = .ok (.aload_n 0, 1) := by decide +kernel
theorem D7_58 : decode method_3_code 58 = .ok (.iconst 1, 1) := by decide +kernel
theorem D7_59 : decode method_3_code 59 = .ok (.caload, 1) := by decide +kernel
theorem D7_60 : decode method_3_code 60 = .ok (.castore, 1) := by decide +kernel
theorem D7_61 : decode method_3_code 61 = .ok (.invokespecial 28, 3) := by decide +kernel
theorem D7_64 : decode method_3_code 64 = .ok (.areturn, 1) := by decide +kernel
theorem D7_65 : decode method_3_code 65 = .ok (.iload_n 1, 1) := by decide +kernel
theorem D7_66 : decode method_3_code 66 = .ok (.iconst 3, 1) := by decide +kernel
theorem D7_67 : decode method_3_code 67 = .ok (.if_icmp .ne 32, 3) := by decide +kernel
theorem D7_70 : decode method_3_code 70 = .ok (.new 17, 3) := by decide +kernel
theorem D7_73 : decode method_3_code 73 = .ok (.dup, 1) := by decide +kernel
theorem D7_74 : decode method_3_code 74 = .ok (.iconst 3, 1) := by decide +kernel
theorem D7_75 : decode method_3_code 75 = .ok (.newarray .char, 2) := by decide +kernel
theorem D7_77 : decode method_3_code 77 = .ok (.dup, 1) := by decide +kernel
theorem D7_78 : decode method_3_code 78 = .ok (.iconst 0, 1) := by decide +kernel
theorem D7_79 : decode method_3_code 79 = .ok (.aload_n 0, 1) := by decide +kernel
theorem D7_80 : decode method_3_code 80 = .ok (.iconst 0, 1) := by decide +kernel
theorem D7_81 : decode method_3_code 81 = .ok (.caload, 1) := by decide +kernel
theorem D7_82 : decode method_3_code 82 = .ok (.castore, 1) := by decide +kernel
theorem D7_83 : decode method_3_code 83 = .ok (.dup, 1) := by decide +kernel
theorem D7_84 : decode method_3_code 84 = .ok (.iconst 1, 1) := by decide +kernel
theorem D7_85 : decode method_3_code 85 = .ok (.aload_n 0, 1) := by decide +kernel
theorem D7_86 : decode method_3_code 86 = .ok (.iconst 1, 1) := by decide +kernel
theorem D7_87 : decode method_3_code 87 = .ok (.caload, 1) := by decide +kernel
theorem D7_88 : decode method_3_code 88 = .ok (.castore, 1) := by decide +kernel
theorem D7_89 : decode method_3_code 89 = .ok (.dup, 1) := by decide +kernel
theorem D7_90 : decode method_3_code 90 = .ok (.iconst 2, 1) := by decide +kernel
theorem D7_91 : decode method_3_code 91 = .ok (.aload_n 0, 1) := by decide +kernel
theorem D7_92 : decode method_3_code 92 = .ok (.iconst 2, 1) := by decide +kernel
theorem D7_93 : decode method_3_code 93 = .ok (.caload, 1) := by decide +kernel
theorem D7_94 : decode method_3_code 94 = .ok (.castore, 1) := by decide +kernel
theorem D7_95 : decode method_3_code 95 = .ok (.invokespecial 28, 3) := by decide +kernel
theorem D7_98 : decode method_3_code 98 = .ok (.areturn, 1) := by decide +kernel
theorem D7_99 : decode method_3_code 99 = .ok (.iload_n 1, 1) := by decide +kernel
theorem D7_100 : decode method_3_code 100 = .ok (.iconst 4, 1) := by decide +kernel
theorem D7_101 : decode method_3_code 101 = .ok (.if_icmp .ne 38, 3) := by decide +kernel
theorem D7_104 : decode method_3_code 104 = .ok (.new 17, 3) := by decide +kernel
theorem D7_107 : decode method_3_code 107 = .ok (.dup, 1) := by decide +kernel
theorem D7_108 : decode method_3_code 108 = .ok (.iconst 4, 1) := by decide +kernel
theorem D7_109 : decode method_3_code 109 = .ok (.newarray .char, 2) := by decide +kernel
theorem D7_111 : decode method_3_code 111 = .ok (.dup, 1) := by decide +kernel
theorem D7_112 : decode method_3_code 112 = .ok (.iconst 0, 1) := by decide +kernel
theorem D7_113 : decode method_3_code 113 = .ok (.aload_n 0, 1) := by decide +kernel
theorem D7_114 : decode method_3_code 114 = .ok (.iconst 0, 1) := by decide +kernel
theorem D7_115 : decode method_3_code 115 = .ok (.caload, 1) := by decide +kernel
theorem D7_116 : decode method_3_code 116 = .ok (.castore, 1) := by decide +kernel
theorem D7_117 : decode method_3_code 117 = .ok (.dup, 1) := by decide +kernel
theorem D7_118 : decode method_3_code 118 = .ok (.iconst 1, 1) := by decide +kernel
theorem D7_119 : decode method_3_code 119 = .ok (.aload_n 0, 1) := by decide +kernel
theorem D7_120 : decode method_3_code 120 = .ok (.iconst 1, 1) := by decide +kernel
theorem D7_121 : decode method_3_code 121 = .ok (.caload, 1) := by decide +kernel
theorem D7_122 : decode method_3_code 122 = .ok (.castore, 1) := by decide +kernel
theorem D7_123 : decode method_3_code 123 = .ok (.dup, 1) := by decide +kernel
theorem D7_124 : decode method_3_code 124 = .ok (.iconst 2, 1) := by decide +kernel
theorem D7_125 : decode method_3_code 125 = .ok (.aload_n 0, 1) := by decide +kernel
theorem D7_126 : decode method_3_code 126 = .ok (.iconst 2, 1) := by decide +kernel
theorem D7_127 : decode method_3_code 127 = .ok (.caload, 1) := by decide +kernel
theorem D7_128 : decode method_3_code 128 = .ok (.castore, 1) := by decide +kernel
theorem D7_129 : decode method_3_code 129 = .ok (.dup, 1) := by decide +kernel
theorem D7_130 : decode method_3_code 130 = .ok (.iconst 3, 1) := by decide +kernel
theorem D7_131 : decode method_3_code 131 = .ok (.aload_n 0, 1) := by decide +kernel
theorem D7_132 : decode method_3_code 132 = .ok (.iconst 3, 1) := by decide +kernel
theorem D7_133 : decode method_3_code 133 = .ok (.caload, 1) := by decide +kernel
theorem D7_134 : decode method_3_code 134 = .ok (.castore, 1) := by decide +kernel
theorem D7_135 : decode method_3_code 135 = .ok (.invokespecial 28, 3) := by decide +kernel
theorem D7_138 : decode method_3_code 138 = .ok (.areturn, 1) := by decide +kernel
theorem D7_139 : decode method_3_code 139 = .ok (.iload_n 1, 1) := by decide +kernel
theorem D7_140 : decode method_3_code 140 = .ok (.iconst 5, 1) := by decide +kernel
theorem D7_141 : decode method_3_code 141 = .ok (.if_icmp .ne 44, 3) := by decide +kernel
theorem D7_144 : decode method_3_code 144 = .ok (.new 17, 3) := by decide +kernel
theorem D7_147 : decode method_3_code 147 = .ok (.dup, 1) := by decide +kernel
theorem D7_148 : decode method_3_code 148 = .ok (.iconst 5, 1) := by decide +kernel
theorem D7_149 : decode method_3_code 149 = .ok (.newarray .char, 2) := by decide +kernel
theorem D7_151 : decode method_3_code 151 = .ok (.dup, 1) := by decide +kernel
theorem D7_152 : decode method_3_code 152 = .ok (.iconst 0, 1) := by decide +kernel
theorem D7_153 : decode method_3_code 153 = .ok (.aload_n 0, 1) := by decide +kernel
theorem D7_154 : decode method_3_code 154 = .ok (.iconst 0, 1) := by decide +kernel
theorem D7_155 : decode method_3_code 155 = .ok (.caload, 1) := by decide +kernel
theorem D7_156 : decode method_3_code 156 = .ok (.castore, 1) := by decide +kernel
theorem D7_157 : decode method_3_code 157 = .ok (.dup, 1) := by decide +kernel
theorem D7_158 : decode method_3_code 158 = .ok (.iconst 1, 1) := by decide +kernel
theorem D7_159 : decode method_3_code 159 = .ok (.aload_n 0, 1) := by decide +kernel
theorem D7_160 : decode method_3_code 160 = .ok (.iconst 1, 1) := by decide +kernel
theorem D7_161 : decode method_3_code 161 = .ok (.caload, 1) := by decide +kernel
theorem D7_162 : decode method_3_code 162 = .ok (.castore, 1) := by decide +kernel
theorem D7_163 : decode method_3_code 163 = .ok (.dup, 1) := by decide +kernel
theorem D7_164 : decode method_3_code 164 = .ok (.iconst 2, 1) := by decide +kernel
theorem D7_165 : decode method_3_code 165 = .ok (.aload_n 0, 1) := by decide +kernel
theorem D7_166 : decode method_3_code 166 = .ok (.iconst 2, 1) := by decide +kernel
theorem D7_167 : decode method_3_code 167 = .ok (.caload, 1) := by decide +kernel
theorem D7_168 : decode method_3_code 168 = .ok (.castore, 1) := by decide +kernel
theorem D7_169 : decode method_3_code 169 = .ok (.dup, 1) := by decide +kernel
theorem D7_170 : decode method_3_code 170 = .ok (.iconst 3, 1) := by decide +kernel
theorem D7_171 : decode method_3_code 171 = .ok (.aload_n 0, 1) := by decide +kernel
theorem D7_172 : decode method_3_code 172 = .ok (.iconst 3, 1) := by decide +kernel
theorem D7_173 : decode method_3_code 173 = .ok (.caload, 1) := by decide +kernel
theorem D7_174 : decode method_3_code 174 = .ok (.castore, 1) := by decide +kernel
theorem D7_175 : decode method_3_code 175 = .ok (.dup, 1) := by decide +kernel
theorem D7_176 : decode method_3_code 176 = .ok (.iconst 4, 1) := by decide +kernel
theorem D7_177 : decode method_3_code 177 = .ok (.aload_n 0, 1) := by decide +kernel
theorem D7_178 : decode method_3_code 178 = .ok (.iconst 4, 1) := by decide +kernel
theorem D7_179 : decode method_3_code 179 = .ok (.caload, 1) := by decide +kernel
theorem D7_180 : decode method_3_code 180 = .ok (.castore, 1) := by decide +kernel
theorem D7_181 : decode method_3_code 181 = .ok (.invokespecial 28, 3) := by decide +kernel
theorem D7_184 : decode method_3_code 184 = .ok (.areturn, 1) := by decide +kernel
theorem D7_185 : decode method_3_code 185 = .ok (.iload_n 1, 1) := by decide +kernel
theorem D7_186 : decode method_3_code 186 = .ok (.bipush 6, 2) := by decide +kernel
theorem D7_188 : decode method_3_code 188 = .ok (.if_icmp .ne 51, 3) := by decide +kernel
theorem D7_191 : decode method_3_code 191 = .ok (.new 17, 3) := by decide +kernel
theorem D7_194 : decode method_3_code 194 = .ok (.dup, 1) := by decide +kernel
theorem D7_195 : decode method_3_code 195 = .ok (.bipush 6, 2) := by decide +kernel
theorem D7_197 : decode method_3_code 197 = .ok (.newarray .char, 2) := by decide +kernel
theorem D7_199 : decode method_3_code 199 = .ok (.dup, 1) := by decide +kernel
theorem D7_200 : decode method_3_code 200 = .ok (.iconst 0, 1) := by decide +kernel
theorem D7_201 : decode method_3_code 201 = .ok (.aload_n 0, 1) := by decide +kernel
theorem D7_202 : decode method_3_code 202 = .ok (.iconst 0, 1) := by decide +kernel
theorem D7_203 : decode method_3_code 203 = .ok (.caload, 1) := by decide +kernel
theorem D7_204 : decode method_3_code 204 = .ok (.castore, 1) := by decide +kernel
theorem D7_205 : decode method_3_code 205 = .ok (.dup, 1) := by decide +kernel
theorem D7_206 : decode method_3_code 206 = .ok (.iconst 1, 1) := by decide +kernel
theorem D7_207 : decode method_3_code 207 = .ok (.aload_n 0, 1) := by decide +kernel
theorem D7_208 : decode method_3_code 208 = .ok (.iconst 1, 1) := by decide +kernel
theorem D7_209 : decode method_3_code 209 = .ok (.caload, 1) := by decide +kernel
theorem D7_210 : decode method_3_code 210 = .ok (.castore, 1) := by decide +kernel
theorem D7_211 : decode method_3_code 211 = .ok (.dup, 1) := by decide +kernel
theorem D7_212 : decode method_3_code 212 = .ok (.iconst 2, 1) := by decide +kernel
theorem D7_213 : decode method_3_code 213 = .ok (.aload_n 0, 1) := by decide +kernel
theorem D7_214 : decode method_3_code 214 = .ok (.iconst 2, 1) := by decide +kernel
theorem D7_215 : decode method_3_code 215 = .ok (.caload, 1) := by decide +kernel
theorem D7_216 : decode method_3_code 216 = .ok (.castore, 1) := by decide +kernel
theorem D7_217 : decode method_3_code 217 = .ok (.dup, 1) := by decide +kernel
theorem D7_218 : decode method_3_code 218 = .ok (.iconst 3, 1) := by decide +kernel
theorem D7_219 : decode method_3_code 219 = .ok (.aload_n 0, 1) := by decide +kernel
theorem D7_220 : decode method_3_code 220 = .ok (.iconst 3, 1) := by decide +kernel
theorem D7_221 : decode method_3_code 221 = .ok (.caload, 1) := by decide +kernel
theorem D7_222 : decode method_3_code 222 = .ok (.castore, 1) := by decide +kernel
theorem D7_223 : decode method_3_code 223 = .ok (.dup, 1) := by decide +kernel
theorem D7_224 : decode method_3_code 224 = .ok (.iconst 4, 1) := by decide +kernel
theorem D7_225 : decode method_3_code 225 = .ok (.aload_n 0, 1) := by decide +kernel
theorem D7_226 : decode method_3_code 226 = .ok (.iconst 4, 1) := by decide +kernel
theorem D7_227 : decode method_3_code 227 = .ok (.caload, 1) := by decide +kernel
theorem D7_228 : decode method_3_code 228 = .ok (.castore, 1) := by decide +kernel
theorem D7_229 : decode method_3_code 229 = .ok (.dup, 1) := by decide +kernel
theorem D7_230 : decode method_3_code 230 = .ok (.iconst 5, 1) := by decide +kernel
theorem D7_231 : decode method_3_code 231 = .ok (.aload_n 0, 1) := by decide +kernel
theorem D7_232 : decode method_3_code 232 = .ok (.iconst 5, 1) := by decide +kernel
theorem D7_233 : decode method_3_code 233 = .ok (.caload, 1) := by decide +kernel
theorem D7_234 : decode method_3_code 234 = .ok (.castore, 1) := by decide +kernel
theorem D7_235 : decode method_3_code 235 = .ok (.invokespecial 28, 3) := by decide +kernel
theorem D7_238 : decode method_3_code 238 = .ok (.areturn, 1) := by decide +kernel
theorem D7_239 : decode method_3_code 239 = .ok (.iload_n 1, 1) := by decide +kernel
theorem D7_240 : decode method_3_code 240 = .ok (.bipush 7, 2) := by decide +kernel
theorem D7_242 : decode method_3_code 242 = .ok (.if_icmp .ne 59, 3) := by decide +kernel
theorem D7_245 : decode method_3_code 245 = .ok (.new 17, 3) := by decide +kernel
theorem D7_248 : decode method_3_code 248 = .ok (.dup, 1) := by decide +kernel
theorem D7_249 : decode method_3_code 249 = .ok (.bipush 7, 2) := by decide +kernel
theorem D7_251 : decode method_3_code 251 = .ok (.newarray .char, 2) := by decide +kernel
theorem D7_253 : decode method_3_code 253 = .ok (.dup, 1) := by decide +kernel
theorem D7_254 : decode method_3_code 254 = .ok (.iconst 0, 1) := by decide +kernel
theorem D7_255 : decode method_3_code 255 = .ok (.aload_n 0, 1) := by decide +kernel
theorem D7_256 : decode method_3_code 256 = .ok (.iconst 0, 1) := by decide +kernel
theorem D7_257 : decode method_3_code 257 = .ok (.caload, 1) := by decide +kernel
theorem D7_258 : decode method_3_code 258 = .ok (.castore, 1) := by decide +kernel
theorem D7_259 : decode method_3_code 259 = .ok (.dup, 1) := by decide +kernel
theorem D7_260 : decode method_3_code 260 = .ok (.iconst 1, 1) := by decide +kernel
theorem D7_261 : decode method_3_code 261 = .ok (.aload_n 0, 1) := by decide +kernel
theorem D7_262 : decode method_3_code 262 = .ok (.iconst 1, 1) := by decide +kernel
theorem D7_263 : decode method_3_code 263 = .ok (.caload, 1) := by decide +kernel
theorem D7_264 : decode method_3_code 264 = .ok (.castore, 1) := by decide +kernel
theorem D7_265 : decode method_3_code 265 = .ok (.dup, 1) := by decide +kernel
theorem D7_266 : decode method_3_code 266 = .ok (.iconst 2, 1) := by decide +kernel
theorem D7_267 : decode method_3_code 267 = .ok (.aload_n 0, 1) := by decide +kernel
theorem D7_268 : decode method_3_code 268 = .ok (.iconst 2, 1) := by decide +kernel
theorem D7_269 : decode method_3_code 269 = .ok (.caload, 1) := by decide +kernel
theorem D7_270 : decode method_3_code 270 = .ok (.castore, 1) := by decide +kernel
theorem D7_271 : decode method_3_code 271 = .ok (.dup, 1) := by decide +kernel
theorem D7_272 : decode method_3_code 272 = .ok (.iconst 3, 1) := by decide +kernel
theorem D7_273 : decode method_3_code 273 = .ok (.aload_n 0, 1) := by decide +kernel
theorem D7_274 : decode method_3_code 274 = .ok (.iconst 3, 1) := by decide +kernel
theorem D7_275 : decode method_3_code 275 = .ok (.caload, 1) := by decide +kernel
theorem D7_276 : decode method_3_code 276 = .ok (.castore, 1) := by decide +kernel
theorem D7_277 : decode method_3_code 277 = .ok (.dup, 1) := by decide +kernel
theorem D7_278 : decode method_3_code 278 = .ok (.iconst 4, 1) := by decide +kernel
theorem D7_279 : decode method_3_code 279 = .ok (.aload_n 0, 1) := by decide +kernel
theorem D7_280 : decode method_3_code 280 = .ok (.iconst 4, 1) := by decide +kernel
theorem D7_281 : decode method_3_code 281 = .ok (.caload, 1) := by decide +kernel
theorem D7_282 : decode method_3_code 282 = .ok (.castore, 1) := by decide +kernel
theorem D7_283 : decode method_3_code 283 = .ok (.dup, 1) := by decide +kernel
theorem D7_284 : decode method_3_code 284 = .ok (.iconst 5, 1) := by decide +kernel
theorem D7_285 : decode method_3_code 285 = .ok (.aload_n 0, 1) := by decide +kernel
theorem D7_286 : decode method_3_code 286 = .ok (.iconst 5, 1) := by decide +kernel
theorem D7_287 : decode method_3_code 287 = .ok (.caload, 1) := by decide +kernel
theorem D7_288 : decode method_3_code 288 = .ok (.castore, 1) := by decide +kernel
theorem D7_289 : decode method_3_code 289 = .ok (.dup, 1) := by decide +kernel
theorem D7_290 : decode method_3_code 290 = .ok (.bipush 6, 2) := by decide +kernel
theorem D7_292 : decode method_3_code 292 = .ok (.aload_n 0, 1) := by decide +kernel
theorem D7_293 : decode method_3_code 293 = .ok (.bipush 6, 2) := by decide +kernel
theorem D7_295 : decode method_3_code 295 = .ok (.caload, 1) := by decide +kernel
theorem D7_296 : decode method_3_code 296 = .ok (.castore, 1) := by decide +kernel
theorem D7_297 : decode method_3_code 297 = .ok (.invokespecial 28, 3) := by decide +kernel
theorem D7_300 : decode method_3_code 300 = .ok (.areturn, 1) := by decide +kernel
theorem D5_0 : decode jdk_42_method_56_code 0 = .ok (.aload_n 0, 1) := by decide +kernel
theorem D5_1 : decode jdk_42_method_56_code 1 = .ok (.invokevirtual 492, 3) := by decide +kernel
theorem D2_0 : decode jdk_42_method_154_code 0 = .ok (.getstatic 38, 3) := by decide +kernel
theorem D2_3 : decode jdk_42_method_154_code 3 = .ok (.ifCond .eq 14, 3) := by decide +kernel
theorem D2_6 : decode jdk_42_method_154_code 6 = .ok (.aload_n 0, 1) := by decide +kernel
theorem D2_7 : decode jdk_42_method_154_code 7 = .ok (.getfield 15, 3) := by decide +kernel
theorem D2_10 : decode jdk_42_method_154_code 10 = .ok (.ifCond .ne 7, 3) := by decide +kernel
theorem D2_13 : decode jdk_42_method_154_code 13 = .ok (.iconst 1, 1) := by decide +kernel
theorem D2_14 : decode jdk_42_method_154_code 14 = .ok (.goto 4, 3) := by decide +kernel
theorem D2_18 : decode jdk_42_method_154_code 18 = .ok (.ireturn, 1) := by decide +kernel
theorem D5_4 : decode jdk_42_method_56_code 4 = .ok (.ifCond .eq 12, 3) := by decide +kernel
theorem D5_7 : decode jdk_42_method_56_code 7 = .ok (.aload_n 0, 1) := by decide +kernel
theorem D5_8 : decode jdk_42_method_56_code 8 = .ok (.getfield 9, 3) := by decide +kernel
theorem D5_11 : decode jdk_42_method_56_code 11 = .ok (.iload_n 1, 1) := by decide +kernel
theorem D5_12 : decode jdk_42_method_56_code 12 = .ok (.invokestatic 495, 3) := by decide +kernel
theorem D6_0 : decode jdk_43_method_2_code 0 = .ok (.iload_n 1, 1) := by decide +kernel
theorem D6_1 : decode jdk_43_method_2_code 1 = .ok (.aload_n 0, 1) := by decide +kernel
theorem D6_2 : decode jdk_43_method_2_code 2 = .ok (.arraylength, 1) := by decide +kernel
theorem D6_3 : decode jdk_43_method_2_code 3 = .ok (.invokestatic 9, 3) := by decide +kernel
theorem D3_0 : decode jdk_42_method_155_code 0 = .ok (.iload_n 0, 1) := by decide +kernel
theorem D3_1 : decode jdk_42_method_155_code 1 = .ok (.iload_n 1, 1) := by decide +kernel
theorem D3_2 : decode jdk_42_method_155_code 2 = .ok (.getstatic 1053, 3) := by decide +kernel
theorem D3_5 : decode jdk_42_method_155_code 5 = .ok (.invokestatic 1059, 3) := by decide +kernel
theorem D0_0 : decode jdk_41_method_11_code 0 = .ok (.iload_n 0, 1) := by decide +kernel
theorem D0_1 : decode jdk_41_method_11_code 1 = .ok (.ifCond .lt 8, 3) := by decide +kernel
theorem D0_4 : decode jdk_41_method_11_code 4 = .ok (.iload_n 0, 1) := by decide +kernel
theorem D0_5 : decode jdk_41_method_11_code 5 = .ok (.iload_n 1, 1) := by decide +kernel
theorem D0_6 : decode jdk_41_method_11_code 6 = .ok (.if_icmp .lt 10, 3) := by decide +kernel
theorem D0_16 : decode jdk_41_method_11_code 16 = .ok (.iload_n 0, 1) := by decide +kernel
theorem D0_17 : decode jdk_41_method_11_code 17 = .ok (.ireturn, 1) := by decide +kernel
theorem D3_8 : decode jdk_42_method_155_code 8 = .ok (.pop, 1) := by decide +kernel
theorem D3_9 : decode jdk_42_method_155_code 9 = .ok (.return_, 1) := by decide +kernel
theorem D6_6 : decode jdk_43_method_2_code 6 = .ok (.aload_n 0, 1) := by decide +kernel
theorem D6_7 : decode jdk_43_method_2_code 7 = .ok (.iload_n 1, 1) := by decide +kernel
theorem D6_8 : decode jdk_43_method_2_code 8 = .ok (.baload, 1) := by decide +kernel
theorem D6_9 : decode jdk_43_method_2_code 9 = .ok (.sipush 255, 3) := by decide +kernel
theorem D6_12 : decode jdk_43_method_2_code 12 = .ok (.iand, 1) := by decide +kernel
theorem D6_13 : decode jdk_43_method_2_code 13 = .ok (.i2c, 1) := by decide +kernel
theorem D6_14 : decode jdk_43_method_2_code 14 = .ok (.ireturn, 1) := by decide +kernel
theorem D5_15 : decode jdk_42_method_56_code 15 = .ok (.ireturn, 1) := by decide +kernel
theorem D8_22 : decode prog_84_method_2_code 22 = .ok (.iconst 0, 1) := by decide +kernel
theorem D7_301 : decode method_3_code 301 = .ok (.iload_n 1, 1) := by decide +kernel
theorem D7_302 : decode method_3_code 302 = .ok (.bipush 8, 2) := by decide +kernel
theorem D7_304 : decode method_3_code 304 = .ok (.if_icmp .ne 67, 3) := by decide +kernel
theorem D7_307 : decode method_3_code 307 = .ok (.new 17, 3) := by decide +kernel
theorem D7_310 : decode method_3_code 310 = .ok (.dup, 1) := by decide +kernel
theorem D7_311 : decode method_3_code 311 = .ok (.bipush 8, 2) := by decide +kernel
theorem D7_313 : decode method_3_code 313 = .ok (.newarray .char, 2) := by decide +kernel
theorem D7_315 : decode method_3_code 315 = .ok (.dup, 1) := by decide +kernel
theorem D7_316 : decode method_3_code 316 = .ok (.iconst 0, 1) := by decide +kernel
theorem D7_317 : decode method_3_code 317 = .ok (.aload_n 0, 1) := by decide +kernel
theorem D7_318 : decode method_3_code 318 = .ok (.iconst 0, 1) := by decide +kernel
theorem D7_319 : decode method_3_code 319 = .ok (.caload, 1) := by decide +kernel
theorem D7_320 : decode method_3_code 320 = .ok (.castore, 1) := by decide +kernel
theorem D7_321 : decode method_3_code 321 = .ok (.dup, 1) := by decide +kernel
theorem D7_322 : decode method_3_code 322 = .ok (.iconst 1, 1) := by decide +kernel
theorem D7_323 : decode method_3_code 323 = .ok (.aload_n 0, 1) := by decide +kernel
theorem D7_324 : decode method_3_code 324 = .ok (.iconst 1, 1) := by decide +kernel
theorem D7_325 : decode method_3_code 325 = .ok (.caload, 1) := by decide +kernel
theorem D7_326 : decode method_3_code 326 = .ok (.castore, 1) := by decide +kernel
theorem D7_327 : decode method_3_code 327 = .ok (.dup, 1) := by decide +kernel
theorem D7_328 : decode method_3_code 328 = .ok (.iconst 2, 1) := by decide +kernel
theorem D7_329 : decode method_3_code 329 = .ok (.aload_n 0, 1) := by decide +kernel
theorem D7_330 : decode method_3_code 330 = .ok (.iconst 2, 1) := by decide +kernel
theorem D7_331 : decode method_3_code 331 = .ok (.caload, 1) := by decide +kernel
theorem D7_332 : decode method_3_code 332 = .ok (.castore, 1) := by decide +kernel
theorem D7_333 : decode method_3_code 333 = .ok (.dup, 1) := by decide +kernel
theorem D7_334 : decode method_3_code 334 = .ok (.iconst 3, 1) := by decide +kernel
theorem D7_335 : decode method_3_code 335 = .ok (.aload_n 0, 1) := by decide +kernel
theorem D7_336 : decode method_3_code 336 = .ok (.iconst 3, 1) := by decide +kernel
theorem D7_337 : decode method_3_code 337 = .ok (.caload, 1) := by decide +kernel
theorem D7_338 : decode method_3_code 338 = .ok (.castore, 1) := by decide +kernel
theorem D7_339 : decode method_3_code 339 = .ok (.dup, 1) := by decide +kernel
theorem D7_340 : decode method_3_code 340 = .ok (.iconst 4, 1) := by decide +kernel
theorem D7_341 : decode method_3_code 341 = .ok (.aload_n 0, 1) := by decide +kernel
theorem D7_342 : decode method_3_code 342 = .ok (.iconst 4, 1) := by decide +kernel
theorem D7_343 : decode method_3_code 343 = .ok (.caload, 1) := by decide +kernel
theorem D7_344 : decode method_3_code 344 = .ok (.castore, 1) := by decide +kernel
theorem D7_345 : decode method_3_code 345 = .ok (.dup, 1) := by decide +kernel
theorem D7_346 : decode method_3_code 346 = .ok (.iconst 5, 1) := by decide +kernel
theorem D7_347 : decode method_3_code 347 = .ok (.aload_n 0, 1) := by decide +kernel
theorem D7_348 : decode method_3_code 348 = .ok (.iconst 5, 1) := by decide +kernel
theorem D7_349 : decode method_3_code 349 = .ok (.caload, 1) := by decide +kernel
theorem D7_350 : decode method_3_code 350 = .ok (.castore, 1) := by decide +kernel
theorem D7_351 : decode method_3_code 351 = .ok (.dup, 1) := by decide +kernel
theorem D7_352 : decode method_3_code 352 = .ok (.bipush 6, 2) := by decide +kernel
theorem D7_354 : decode method_3_code 354 = .ok (.aload_n 0, 1) := by decide +kernel
theorem D7_355 : decode method_3_code 355 = .ok (.bipush 6, 2) := by decide +kernel
theorem D7_357 : decode method_3_code 357 = .ok (.caload, 1) := by decide +kernel
theorem D7_358 : decode method_3_code 358 = .ok (.castore, 1) := by decide +kernel
theorem D7_359 : decode method_3_code 359 = .ok (.dup, 1) := by decide +kernel
theorem D7_360 : decode method_3_code 360 = .ok (.bipush 7, 2) := by decide +kernel
theorem D7_362 : decode method_3_code 362 = .ok (.aload_n 0, 1) := by decide +kernel
theorem D7_363 : decode method_3_code 363 = .ok (.bipush 7, 2) := by decide +kernel
theorem D7_365 : decode method_3_code 365 = .ok (.caload, 1) := by decide +kernel
theorem D7_366 : decode method_3_code 366 = .ok (.castore, 1) := by decide +kernel
theorem D7_367 : decode method_3_code 367 = .ok (.invokespecial 28, 3) := by decide +kernel
theorem D7_370 : decode method_3_code 370 = .ok (.areturn, 1) := by decide +kernel
theorem D7_371 : decode method_3_code 371 = .ok (.iload_n 1, 1) := by decide +kernel
theorem D7_372 : decode method_3_code 372 = .ok (.bipush 9, 2) := by decide +kernel
theorem D7_374 : decode method_3_code 374 = .ok (.if_icmp .ne 75, 3) := by decide +kernel
theorem D7_377 : decode method_3_code 377 = .ok (.new 17, 3) := by decide +kernel
theorem D7_380 : decode method_3_code 380 = .ok (.dup, 1) := by decide +kernel
theorem D7_381 : decode method_3_code 381 = .ok (.bipush 9, 2) := by decide +kernel
theorem D7_383 : decode method_3_code 383 = .ok (.newarray .char, 2) := by decide +kernel
theorem D7_385 : decode method_3_code 385 = .ok (.dup, 1) := by decide +kernel
theorem D7_386 : decode method_3_code 386 = .ok (.iconst 0, 1) := by decide +kernel
theorem D7_387 : decode method_3_code 387 = .ok (.aload_n 0, 1) := by decide +kernel
theorem D7_388 : decode method_3_code 388 = .ok (.iconst 0, 1) := by decide +kernel
theorem D7_389 : decode method_3_code 389 = .ok (.caload, 1) := by decide +kernel
theorem D7_390 : decode method_3_code 390 = .ok (.castore, 1) := by decide +kernel
theorem D7_391 : decode method_3_code 391 = .ok (.dup, 1) := by decide +kernel
theorem D7_392 : decode method_3_code 392 = .ok (.iconst 1, 1) := by decide +kernel
theorem D7_393 : decode method_3_code 393 = .ok (.aload_n 0, 1) := by decide +kernel
theorem D7_394 : decode method_3_code 394 = .ok (.iconst 1, 1) := by decide +kernel
theorem D7_395 : decode method_3_code 395 = .ok (.caload, 1) := by decide +kernel
theorem D7_396 : decode method_3_code 396 = .ok (.castore, 1) := by decide +kernel
theorem D7_397 : decode method_3_code 397 = .ok (.dup, 1) := by decide +kernel
theorem D7_398 : decode method_3_code 398 = .ok (.iconst 2, 1) := by decide +kernel
theorem D7_399 : decode method_3_code 399 = .ok (.aload_n 0, 1) := by decide +kernel
theorem D7_400 : decode method_3_code 400 = .ok (.iconst 2, 1) := by decide +kernel
theorem D7_401 : decode method_3_code 401 = .ok (.caload, 1) := by decide +kernel
theorem D7_402 : decode method_3_code 402 = .ok (.castore, 1) := by decide +kernel
theorem D7_403 : decode method_3_code 403 = .ok (.dup, 1) := by decide +kernel
theorem D7_404 : decode method_3_code 404 = .ok (.iconst 3, 1) := by decide +kernel
theorem D7_405 : decode method_3_code 405 = .ok (.aload_n 0, 1) := by decide +kernel
theorem D7_406 : decode method_3_code 406 = .ok (.iconst 3, 1) := by decide +kernel
theorem D7_407 : decode method_3_code 407 = .ok (.caload, 1) := by decide +kernel
theorem D7_408 : decode method_3_code 408 = .ok (.castore, 1) := by decide +kernel
theorem D7_409 : decode method_3_code 409 = .ok (.dup, 1) := by decide +kernel
theorem D7_410 : decode method_3_code 410 = .ok (.iconst 4, 1) := by decide +kernel
theorem D7_411 : decode method_3_code 411 = .ok (.aload_n 0, 1) := by decide +kernel
theorem D7_412 : decode method_3_code 412 = .ok (.iconst 4, 1) := by decide +kernel
theorem D7_413 : decode method_3_code 413 = .ok (.caload, 1) := by decide +kernel
theorem D7_414 : decode method_3_code 414 = .ok (.castore, 1) := by decide +kernel
theorem D7_415 : decode method_3_code 415 = .ok (.dup, 1) := by decide +kernel
theorem D7_416 : decode method_3_code 416 = .ok (.iconst 5, 1) := by decide +kernel
theorem D7_417 : decode method_3_code 417 = .ok (.aload_n 0, 1) := by decide +kernel
theorem D7_418 : decode method_3_code 418 = .ok (.iconst 5, 1) := by decide +kernel
theorem D7_419 : decode method_3_code 419 = .ok (.caload, 1) := by decide +kernel
theorem D7_420 : decode method_3_code 420 = .ok (.castore, 1) := by decide +kernel
theorem D7_421 : decode method_3_code 421 = .ok (.dup, 1) := by decide +kernel
theorem D7_422 : decode method_3_code 422 = .ok (.bipush 6, 2) := by decide +kernel
theorem D7_424 : decode method_3_code 424 = .ok (.aload_n 0, 1) := by decide +kernel
theorem D7_425 : decode method_3_code 425 = .ok (.bipush 6, 2) := by decide +kernel
theorem D7_427 : decode method_3_code 427 = .ok (.caload, 1) := by decide +kernel
theorem D7_428 : decode method_3_code 428 = .ok (.castore, 1) := by decide +kernel
theorem D7_429 : decode method_3_code 429 = .ok (.dup, 1) := by decide +kernel
theorem D7_430 : decode method_3_code 430 = .ok (.bipush 7, 2) := by decide +kernel
theorem D7_432 : decode method_3_code 432 = .ok (.aload_n 0, 1) := by decide +kernel
theorem D7_433 : decode method_3_code 433 = .ok (.bipush 7, 2) := by decide +kernel
theorem D7_435 : decode method_3_code 435 = .ok (.caload, 1) := by decide +kernel
theorem D7_436 : decode method_3_code 436 = .ok (.castore, 1) := by decide +kernel
theorem D7_437 : decode method_3_code 437 = .ok (.dup, 1) := by decide +kernel
theorem D7_438 : decode method_3_code 438 = .ok (.bipush 8, 2) := by decide +kernel
theorem D7_440 : decode method_3_code 440 = .ok (.aload_n 0, 1) := by decide +kernel
theorem D7_441 : decode method_3_code 441 = .ok (.bipush 8, 2) := by decide +kernel
theorem D7_443 : decode method_3_code 443 = .ok (.caload, 1) := by decide +kernel
theorem D7_444 : decode method_3_code 444 = .ok (.castore, 1) := by decide +kernel
theorem D7_445 : decode method_3_code 445 = .ok (.invokespecial 28, 3) := by decide +kernel
theorem D7_448 : decode method_3_code 448 = .ok (.areturn, 1) := by decide +kernel
theorem D7_449 : decode method_3_code 449 = .ok (.new 17, 3) := by decide +kernel
theorem D7_452 : decode method_3_code 452 = .ok (.dup, 1) := by decide +kernel
theorem D7_453 : decode method_3_code 453 = .ok (.bipush 10, 2) := by decide +kernel
theorem D7_455 : decode method_3_code 455 = .ok (.newarray .char, 2) := by decide +kernel
theorem D7_457 : decode method_3_code 457 = .ok (.dup, 1) := by decide +kernel
theorem D7_458 : decode method_3_code 458 = .ok (.iconst 0, 1) := by decide +kernel
theorem D7_459 : decode method_3_code 459 = .ok (.aload_n 0, 1) := by decide +kernel
theorem D7_460 : decode method_3_code 460 = .ok (.iconst 0, 1) := by decide +kernel
theorem D7_461 : decode method_3_code 461 = .ok (.caload, 1) := by decide +kernel
theorem D7_462 : decode method_3_code 462 = .ok (.castore, 1) := by decide +kernel
theorem D7_463 : decode method_3_code 463 = .ok (.dup, 1) := by decide +kernel
theorem D7_464 : decode method_3_code 464 = .ok (.iconst 1, 1) := by decide +kernel
theorem D7_465 : decode method_3_code 465 = .ok (.aload_n 0, 1) := by decide +kernel
theorem D7_466 : decode method_3_code 466 = .ok (.iconst 1, 1) := by decide +kernel
theorem D7_467 : decode method_3_code 467 = .ok (.caload, 1) := by decide +kernel
theorem D7_468 : decode method_3_code 468 = .ok (.castore, 1) := by decide +kernel
theorem D7_469 : decode method_3_code 469 = .ok (.dup, 1) := by decide +kernel
theorem D7_470 : decode method_3_code 470 = .ok (.iconst 2, 1) := by decide +kernel
theorem D7_471 : decode method_3_code 471 = .ok (.aload_n 0, 1) := by decide +kernel
theorem D7_472 : decode method_3_code 472 = .ok (.iconst 2, 1) := by decide +kernel
theorem D7_473 : decode method_3_code 473 = .ok (.caload, 1) := by decide +kernel
theorem D7_474 : decode method_3_code 474 = .ok (.castore, 1) := by decide +kernel
theorem D7_475 : decode method_3_code 475 = .ok (.dup, 1) := by decide +kernel
theorem D7_476 : decode method_3_code 476 = .ok (.iconst 3, 1) := by decide +kernel
theorem D7_477 : decode method_3_code 477 = .ok (.aload_n 0, 1) := by decide +kernel
theorem D7_478 : decode method_3_code 478 = .ok (.iconst 3, 1) := by decide +kernel
theorem D7_479 : decode method_3_code 479 = .ok (.caload, 1) := by decide +kernel
theorem D7_480 : decode method_3_code 480 = .ok (.castore, 1) := by decide +kernel
theorem D7_481 : decode method_3_code 481 = .ok (.dup, 1) := by decide +kernel
theorem D7_482 : decode method_3_code 482 = .ok (.iconst 4, 1) := by decide +kernel
theorem D7_483 : decode method_3_code 483 = .ok (.aload_n 0, 1) := by decide +kernel
theorem D7_484 : decode method_3_code 484 = .ok (.iconst 4, 1) := by decide +kernel
theorem D7_485 : decode method_3_code 485 = .ok (.caload, 1) := by decide +kernel
theorem D7_486 : decode method_3_code 486 = .ok (.castore, 1) := by decide +kernel
theorem D7_487 : decode method_3_code 487 = .ok (.dup, 1) := by decide +kernel
theorem D7_488 : decode method_3_code 488 = .ok (.iconst 5, 1) := by decide +kernel
theorem D7_489 : decode method_3_code 489 = .ok (.aload_n 0, 1) := by decide +kernel
theorem D7_490 : decode method_3_code 490 = .ok (.iconst 5, 1) := by decide +kernel
theorem D7_491 : decode method_3_code 491 = .ok (.caload, 1) := by decide +kernel
theorem D7_492 : decode method_3_code 492 = .ok (.castore, 1) := by decide +kernel
theorem D7_493 : decode method_3_code 493 = .ok (.dup, 1) := by decide +kernel
theorem D7_494 : decode method_3_code 494 = .ok (.bipush 6, 2) := by decide +kernel
theorem D7_496 : decode method_3_code 496 = .ok (.aload_n 0, 1) := by decide +kernel
theorem D7_497 : decode method_3_code 497 = .ok (.bipush 6, 2) := by decide +kernel
theorem D7_499 : decode method_3_code 499 = .ok (.caload, 1) := by decide +kernel
theorem D7_500 : decode method_3_code 500 = .ok (.castore, 1) := by decide +kernel
theorem D7_501 : decode method_3_code 501 = .ok (.dup, 1) := by decide +kernel
theorem D7_502 : decode method_3_code 502 = .ok (.bipush 7, 2) := by decide +kernel
theorem D7_504 : decode method_3_code 504 = .ok (.aload_n 0, 1) := by decide +kernel
theorem D7_505 : decode method_3_code 505 = .ok (.bipush 7, 2) := by decide +kernel
theorem D7_507 : decode method_3_code 507 = .ok (.caload, 1) := by decide +kernel
theorem D7_508 : decode method_3_code 508 = .ok (.castore, 1) := by decide +kernel
theorem D7_509 : decode method_3_code 509 = .ok (.dup, 1) := by decide +kernel
theorem D7_510 : decode method_3_code 510 = .ok (.bipush 8, 2) := by decide +kernel
theorem D7_512 : decode method_3_code 512 = .ok (.aload_n 0, 1) := by decide +kernel
theorem D7_513 : decode method_3_code 513 = .ok (.bipush 8, 2) := by decide +kernel
theorem D7_515 : decode method_3_code 515 = .ok (.caload, 1) := by decide +kernel
theorem D7_516 : decode method_3_code 516 = .ok (.castore, 1) := by decide +kernel
theorem D7_517 : decode method_3_code 517 = .ok (.dup, 1) := by decide +kernel
theorem D7_518 : decode method_3_code 518 = .ok (.bipush 9, 2) := by decide +kernel
theorem D7_520 : decode method_3_code 520 = .ok (.aload_n 0, 1) := by decide +kernel
theorem D7_521 : decode method_3_code 521 = .ok (.bipush 9, 2) := by decide +kernel
theorem D7_523 : decode method_3_code 523 = .ok (.caload, 1) := by decide +kernel
theorem D7_524 : decode method_3_code 524 = .ok (.castore, 1) := by decide +kernel
theorem D7_525 : decode method_3_code 525 = .ok (.invokespecial 28, 3) := by decide +kernel
theorem D7_528 : decode method_3_code 528 = .ok (.areturn, 1) := by decide +kernel
theorem own_r10 (x : Int32) : (x &&& 2147483647) % 10 = 0 ∨ (x &&& 2147483647) % 10 = 1 ∨ (x &&& 2147483647) % 10 = 2 ∨ (x &&& 2147483647) % 10 = 3 ∨ (x &&& 2147483647) % 10 = 4 ∨ (x &&& 2147483647) % 10 = 5 ∨ (x &&& 2147483647) % 10 = 6 ∨ (x &&& 2147483647) % 10 = 7 ∨ (x &&& 2147483647) % 10 = 8 ∨ (x &&& 2147483647) % 10 = 9 := by
  obtain ⟨h1, h2⟩ := own_rem (x := x) (k := 10) (by decide)
  have e : (10 : Int32).toInt = 10 := rfl
  rw [e] at h2
  generalize (x &&& 2147483647) % 10 = k at h1 h2
  have key : ∀ j : Int32, k.toInt = j.toInt → k = j := fun j h => Int32.toInt_inj.mp h
  have hs : k.toInt = 0 ∨ k.toInt = 1 ∨ k.toInt = 2 ∨ k.toInt = 3 ∨ k.toInt = 4 ∨ k.toInt = 5 ∨ k.toInt = 6 ∨ k.toInt = 7 ∨ k.toInt = 8 ∨ k.toInt = 9 := by omega
  rcases hs with h | h | h | h | h | h | h | h | h | h
  · exact (Or.inl (key 0 h))
  · exact (Or.inr (Or.inl (key 1 h)))
  · exact (Or.inr (Or.inr (Or.inl (key 2 h))))
  · exact (Or.inr (Or.inr (Or.inr (Or.inl (key 3 h)))))
  · exact (Or.inr (Or.inr (Or.inr (Or.inr (Or.inl (key 4 h))))))
  · exact (Or.inr (Or.inr (Or.inr (Or.inr (Or.inr (Or.inl (key 5 h)))))))
  · exact (Or.inr (Or.inr (Or.inr (Or.inr (Or.inr (Or.inr (Or.inl (key 6 h))))))))
  · exact (Or.inr (Or.inr (Or.inr (Or.inr (Or.inr (Or.inr (Or.inr (Or.inl (key 7 h)))))))))
  · exact (Or.inr (Or.inr (Or.inr (Or.inr (Or.inr (Or.inr (Or.inr (Or.inr (Or.inl (key 8 h))))))))))
  · exact (Or.inr (Or.inr (Or.inr (Or.inr (Or.inr (Or.inr (Or.inr (Or.inr (Or.inr (key 9 h))))))))))
theorem own_r11 (x : Int32) : (x &&& 2147483647) % 11 = 0 ∨ (x &&& 2147483647) % 11 = 1 ∨ (x &&& 2147483647) % 11 = 2 ∨ (x &&& 2147483647) % 11 = 3 ∨ (x &&& 2147483647) % 11 = 4 ∨ (x &&& 2147483647) % 11 = 5 ∨ (x &&& 2147483647) % 11 = 6 ∨ (x &&& 2147483647) % 11 = 7 ∨ (x &&& 2147483647) % 11 = 8 ∨ (x &&& 2147483647) % 11 = 9 ∨ (x &&& 2147483647) % 11 = 10 := by
  obtain ⟨h1, h2⟩ := own_rem (x := x) (k := 11) (by decide)
  have e : (11 : Int32).toInt = 11 := rfl
  rw [e] at h2
  generalize (x &&& 2147483647) % 11 = k at h1 h2
  have key : ∀ j : Int32, k.toInt = j.toInt → k = j := fun j h => Int32.toInt_inj.mp h
  have hs : k.toInt = 0 ∨ k.toInt = 1 ∨ k.toInt = 2 ∨ k.toInt = 3 ∨ k.toInt = 4 ∨ k.toInt = 5 ∨ k.toInt = 6 ∨ k.toInt = 7 ∨ k.toInt = 8 ∨ k.toInt = 9 ∨ k.toInt = 10 := by omega
  rcases hs with h | h | h | h | h | h | h | h | h | h | h
  · exact (Or.inl (key 0 h))
  · exact (Or.inr (Or.inl (key 1 h)))
  · exact (Or.inr (Or.inr (Or.inl (key 2 h))))
  · exact (Or.inr (Or.inr (Or.inr (Or.inl (key 3 h)))))
  · exact (Or.inr (Or.inr (Or.inr (Or.inr (Or.inl (key 4 h))))))
  · exact (Or.inr (Or.inr (Or.inr (Or.inr (Or.inr (Or.inl (key 5 h)))))))
  · exact (Or.inr (Or.inr (Or.inr (Or.inr (Or.inr (Or.inr (Or.inl (key 6 h))))))))
  · exact (Or.inr (Or.inr (Or.inr (Or.inr (Or.inr (Or.inr (Or.inr (Or.inl (key 7 h)))))))))
  · exact (Or.inr (Or.inr (Or.inr (Or.inr (Or.inr (Or.inr (Or.inr (Or.inr (Or.inl (key 8 h))))))))))
  · exact (Or.inr (Or.inr (Or.inr (Or.inr (Or.inr (Or.inr (Or.inr (Or.inr (Or.inr (Or.inl (key 9 h)))))))))))
  · exact (Or.inr (Or.inr (Or.inr (Or.inr (Or.inr (Or.inr (Or.inr (Or.inr (Or.inr (Or.inr (key 10 h)))))))))))
set_option maxRecDepth 65536 in
set_option maxHeartbeats 40000000 in
theorem m1_init (V : Env1 Z a0 n0 uu0 uu1) (p0 : Addr) (p1 : Addr) (h0 : Heap) (hO : Old Z n0 h0) (f0 : Exa Z h0 p0 "java/lang/String") (f1 : Fld Z h0 p0 "java/lang/String" "value" "[B" .null) (g2 : n0 ≤ p0) (f3 : Fld Z h0 p0 "java/lang/String" "coder" "B" (.int 0)) :
    Met Z a0 ELs True n0 l (⟨"java/lang/String", "<init>", "([CIILjava/lang/Void;)V"⟩ : MethodName) jdk_42_method_149_code 6 (Option.none : Option FieldType) ({ frames := 1, cells := 4, slots := 8, locals := 12 } : Room) #[(.ref p0), (.ref p1), (.int 0), (.int 0), .null] h0 [p0] (fun v h so => (∃ b6 : Addr, ∃ k7 : ClassId, v = none ∧ so = [] ∧ Keep h0 h [p0] ∧ (∀ (O n d : String) (w : Value), Fld Z h0 p0 O n d w → RoadKit.slotOf Z O n d ≠ RoadKit.slotOf Z "java/lang/String" "value" "[B" → RoadKit.slotOf Z O n d ≠ RoadKit.slotOf Z "java/lang/String" "coder" "B" → Fld Z h p0 O n d w) ∧ Exa Z h p0 "java/lang/String" ∧ Fld Z h p0 "java/lang/String" "value" "[B" (.ref b6) ∧ Fld Z h p0 "java/lang/String" "coder" "B" (.int 0) ∧ Arv Z h b6 k7 .byte 0 [] (.int 0))) := by
  refine Met.of (EWl V) (by first | decide +kernel | rfl) hO (L0 := #[.val (.ref p0), .val (.ref p1), .val (.int 0), .val (.int 0), .val .null, .unset]) rfl ?_
  intro p e s m below meth c T H
  show Go p e below _ (T.setTop (mkF m 0 #[.val (.ref p0), .val (.ref p1), .val (.int 0), .val (.int 0), .val .null, .unset] []))
  refine G.aloadN H D1_0 (pc' := 1) rfl rfl rfl ?_
  refine G.initO H (wd16 V) (wd17 V) (wd18 V) rfl D1_1 (pc' := 4) rfl (by decide) (W := 0) rfl (by decide) ?_
  intro T1 H2
  refine G.iloadN H2 D1_4 (pc' := 5) rfl rfl ?_
  refine G.ifNo H2 D1_5 (pc' := 8) rfl (by decide) ?_
  refine G.aloadN H2 D1_8 (pc' := 9) rfl rfl rfl ?_
  refine G.ldcS H2 trivial (wS V) (wd19 V) (by decide) (vs := []) (z := 0) (by decide) (by decide) rfl (n := 0) (by decide) (by decide) (by decide) (by decide) D1_9 (pc' := 11) rfl ?_
  intro T3 h3_ a4 b6 k7 H3 E5 X8 F9 F10 A11 Q12
  have S13 : Str Z h3_ a4 b6 k7 [] := ⟨X8, F9, F10, A11, by decide, by decide⟩
  refine G.getF H3 (wd25 V) Via.refl F10 D1_11 (pc' := 14) rfl ?_
  intro T14 H15
  have F16 := (Exa.ext E5 f0)
  have F17 := (Fld.ext E5 f1)
  refine G.putF H15 (wd25 V) Via.refl F17 F16 (Or.inr ⟨(wd21 V), rfl, rfl⟩) (wd7 V) (ty := (.array .byte)) (by decide) rfl rfl g2 (Sf.mem (mG (i := 0) rfl)) D1_14 (pc' := 17) rfl ?_
  intro T18 h18_ H18 W19
  have F20 : Fld Z h18_ p0 "java/lang/String" "value" "[B" (.ref b6) := Fld.same W19 F17
  refine G.aloadN H18 D1_17 (pc' := 18) rfl rfl rfl ?_
  refine G.ldcS H18 trivial (wS V) (wd19 V) (by decide) (vs := []) (z := 0) (by decide) (by decide) rfl (n := 0) (by decide) (by decide) (by decide) (by decide) D1_18 (pc' := 20) rfl ?_
  intro T21 h21_ a22 b24 k25 H21 E23 X26 F27 F28 A29 Q30
  have S31 : Str Z h21_ a22 b24 k25 [] := ⟨X26, F27, F28, A29, by decide, by decide⟩
  refine G.getF H21 (wd26 V) Via.refl F27 D1_20 (pc' := 23) rfl ?_
  intro T32 H33
  have K34 : Keep h3_ h21_ [p0] := (Keep.ext (Keep.wr (Keep.refl h3_ [p0]) W19 (Or.inl (mG (i := 0) rfl))) E23)
  have F35 := (Exa.keep F16 K34)
  have F36 := (Fld.ext E23 (Fld.other W19 (Fld.ext E5 f3) (Or.inr (slot_ne (Or.inr (wd22 V)) (Or.inr (wd21 V)) (by decide) (t := .byte) (t' := (.array .byte)) (by decide) (by decide)))))
  refine G.putF H33 (wd26 V) Via.refl F36 F35 (Or.inr ⟨(wd22 V), rfl, rfl⟩) (wd7 V) (ty := .byte) (by decide) rfl rfl g2 (Sf.mem (mG (i := 0) rfl)) D1_23 (pc' := 26) rfl ?_
  intro T37 h37_ H37 W38
  have F39 : Fld Z h37_ p0 "java/lang/String" "coder" "B" (.int 0) := Fld.same W38 F36
  have F40 := (Exa.wr W38 F35)
  have F41 := (Fld.other W38 (Fld.ext E23 F20) (Or.inr (slot_ne (Or.inr (wd21 V)) (Or.inr (wd22 V)) (by decide) (t := (.array .byte)) (t' := .byte) (by decide) (by decide))))
  have K42 : Keep h3_ h37_ [p0] := (Keep.wr (Keep.ext (Keep.wr (Keep.refl h3_ [p0]) W19 (Or.inl (mG (i := 0) rfl))) E23) W38 (Or.inl (mG (i := 0) rfl)))
  have F43 := (Arv.keep A11 K42 (ninS (Ne.symm (Q12 _ (mG (i := 0) rfl)).2) nin0))
  have K44 : Keep h0 h37_ [p0] := (Keep.wr (Keep.ext (Keep.wr (Keep.ext (Keep.refl h0 [p0]) E5) W19 (Or.inl (mG (i := 0) rfl))) E23) W38 (Or.inl (mG (i := 0) rfl)))
  exact G.retV H37 rfl D1_26 (so := []) all0 (by decide) (by decide) ⟨b6, k7, rfl, rfl, K44, (fun O n d w F hn0 hn1 => (Fld.other W38 (Fld.ext E23 (Fld.other W19 (Fld.ext E5 F) (Or.inr hn0))) (Or.inr hn1))), F40, F41, F39, F43⟩
set_option maxRecDepth 65536 in
set_option maxHeartbeats 40000000 in
theorem m2_init (V : Env1 Z a0 n0 uu0 uu1) (p0 : Addr) (p1 : Addr) (c0 : ClassId) (h0 : Heap) (hO : Old Z n0 h0) (f0 : Arv Z h0 p1 c0 .char 0 [] (.int 0)) (f1 : Exa Z h0 p0 "java/lang/String") (f2 : Fld Z h0 p0 "java/lang/String" "value" "[B" .null) (g3 : n0 ≤ p0) (f4 : Fld Z h0 p0 "java/lang/String" "coder" "B" (.int 0)) :
    Met Z a0 ELs True n0 l (⟨"java/lang/String", "<init>", "([C)V"⟩ : MethodName) jdk_42_method_3_code 2 (Option.none : Option FieldType) ({ frames := 2, cells := 4, slots := 8, locals := 29 } : Room) #[(.ref p0), (.ref p1)] h0 [p0] (fun v h so => (∃ a5 : Addr, ∃ k6 : ClassId, v = none ∧ so = [] ∧ Keep h0 h [p0] ∧ (∀ (O n d : String) (w : Value), Fld Z h0 p0 O n d w → RoadKit.slotOf Z O n d ≠ RoadKit.slotOf Z "java/lang/String" "value" "[B" → RoadKit.slotOf Z O n d ≠ RoadKit.slotOf Z "java/lang/String" "coder" "B" → Fld Z h p0 O n d w) ∧ Exa Z h p0 "java/lang/String" ∧ Fld Z h p0 "java/lang/String" "value" "[B" (.ref a5) ∧ Fld Z h p0 "java/lang/String" "coder" "B" (.int 0) ∧ Arv Z h a5 k6 .byte 0 [] (.int 0))) := by
  refine Met.of (EWl V) (by first | decide +kernel | rfl) hO (L0 := #[.val (.ref p0), .val (.ref p1)]) rfl ?_
  intro p e s m below meth c T H
  show Go p e below _ (T.setTop (mkF m 0 #[.val (.ref p0), .val (.ref p1)] []))
  refine G.aloadN H D4_0 (pc' := 1) rfl rfl rfl ?_
  refine G.aloadN H D4_1 (pc' := 2) rfl rfl rfl ?_
  refine G.iconst H D4_2 (pc' := 3) rfl (v := 0) rfl ?_
  refine G.aloadN H D4_3 (pc' := 4) rfl rfl rfl ?_
  refine G.arrlen H f0 D4_4 (pc' := 5) rfl ?_
  refine G.aconstNull H D4_5 (pc' := 6) rfl ?_
  refine G.callI H (m1_init V p0 p1 h0 H.old f1 f2 g3 f4) rfl (wd12 V) (wd13 V) (wd8 V) (wd15 V) (by decide) (a := p0) (argsL := [(.ref p1), (.int 0), (.int 0), .null]) (rest := []) (W := 0) rfl rfl (lenOf (pd_0) rfl) rfl rfl D4_6 (pc' := 9) rfl (by decide) (by decide) (by decide) (by decide) (allS (mG (i := 0) rfl) all0) ?_
  intro T1 h1_ v2 s3 H1 Q4
  obtain ⟨a5, k6, rfl, rfl, K7, U8, F9, F10, F11, F12⟩ := Q4
  show Go p e below _ (T1.setTop (mkF m 9 #[.val (.ref p0), .val (.ref p1)] []))
  have K13 : Keep h0 h1_ [p0] := (Keep.trans (Keep.refl h0 [p0]) K7 (allS (Or.inl (mG (i := 0) rfl)) all0))
  exact G.retV H1 rfl D4_9 (so := []) all0 (by decide) (by decide) ⟨a5, k6, rfl, rfl, K13, (fun O n d w F hn0 hn1 => (U8 O n d w F hn0 hn1)), F9, F10, F11, F12⟩
set_option maxRecDepth 65536 in
set_option maxHeartbeats 40000000 in
theorem m3_cut (V : Env1 Z a0 n0 uu0 uu1) (p0 : Addr) (h0 : Heap) (hO : Old Z n0 h0)  :
    Met Z a0 ELs True n0 l (⟨"bindery/server/stomp/HeaderEscapesApplyPinLaw", "cut", "([CI)Ljava/lang/String;"⟩ : MethodName) method_3_code 2 (Option.some (FieldType.object "java/lang/String")) ({ frames := 3, cells := 6, slots := 12, locals := 43 } : Room) #[(.ref p0), (.int 0)] h0 [] (fun v h so => (∃ a2 a21 : Addr, ∃ k22 : ClassId, v = some (.ref a2) ∧ so = [a2] ∧ Keep h0 h [] ∧ h0.size ≤ a2 ∧ Exa Z h a2 "java/lang/String" ∧ Fld Z h a2 "java/lang/String" "value" "[B" (.ref a21) ∧ Fld Z h a2 "java/lang/String" "coder" "B" (.int 0) ∧ Arv Z h a21 k22 .byte 0 [] (.int 0))) := by
  refine Met.of (EWl V) (by first | decide +kernel | rfl) hO (L0 := #[.val (.ref p0), .val (.int 0)]) rfl ?_
  intro p e s m below meth c T H
  show Go p e below _ (T.setTop (mkF m 0 #[.val (.ref p0), .val (.int 0)] []))
  refine G.iloadN H D7_0 (pc' := 1) rfl rfl ?_
  refine G.ifNo H D7_1 (pc' := 4) rfl (by decide) ?_
  refine G.new H (wd6 V) (wd7 V) (wd8 V) D7_4 (pc' := 7) rfl (by decide) (by decide) ?_
  intro T1 h1_ a2 ga2 H1 E3 A4 D5
  have na2 := H.nle ga2
  refine G.dup H1 D7_7 (pc' := 8) rfl rfl ?_
  refine G.iconst H1 D7_8 (pc' := 9) rfl (v := 0) rfl ?_
  refine G.newP H1 (aty := .char) (wd1 V) D7_9 (pc' := 11) rfl (by decide) (cap := 0) (by decide) (by decide) (by decide) (by decide) (vs := []) rfl (ad := "[C") rfl ?_
  intro T6 h6_ a7 k10 ga7 H6 E8 A9 X11
  have na7 := H1.nle ga7
  replace A9 : Arv Z h6_ a7 k10 .char 0 [] (.int 0) := A9
  have F12 := (Exa.ext E8 A4)
  have F13 : Fld Z h1_ a2 "java/lang/String" "value" "[B" .null := D5 (Or.inr (wd21 V)) (ty := (.array .byte)) (by decide)
  have F14 := (Fld.ext E8 F13)
  have F15 : Fld Z h1_ a2 "java/lang/String" "coder" "B" (.int 0) := D5 (Or.inr (wd22 V)) (ty := .byte) (by decide)
  have F16 := (Fld.ext E8 F15)
  refine G.callI H6 (m2_init V a2 a7 k10 h6_ H6.old A9 F12 F14 na2 F16) rfl (wd9 V) (wd10 V) (wd8 V) (wd11 V) (by decide) (a := a2) (argsL := [(.ref a7)]) (rest := [(.ref a2)]) (W := 1) rfl rfl (lenOf (pd_1) rfl) rfl rfl D7_11 (pc' := 14) rfl (by decide) (by decide) (by decide) (by decide) (allS (mG (i := 1) rfl) all0) ?_
  intro T17 h17_ v18 s19 H17 Q20
  obtain ⟨a21, k22, rfl, rfl, K23, U24, F25, F26, F27, F28⟩ := Q20
  show Go p e below _ (T17.setTop (mkF m 14 #[.val (.ref p0), .val (.int 0)] [(.ref a2)]))
  have K29 : Keep h0 h17_ [] := (Keep.trans (Keep.ext (Keep.ext (Keep.refl h0 []) E3) E8) K23 (allS (Or.inr (Nat.le_of_eq ga2.symm)) all0))
  exact G.retA H17 (t := (.object "java/lang/String")) rfl rfl rfl D7_14 (so := [a2]) (allS (mG (i := 1) rfl) all0) (by decide) (by decide) ⟨a2, a21, k22, rfl, rfl, K29, (Nat.le_of_eq ga2.symm), F25, F26, F27, F28⟩
set_option maxRecDepth 65536 in
set_option maxHeartbeats 40000000 in
theorem m4_apply (V : Env1 Z a0 n0 uu0 uu1) (p0 : Addr) (p1 : Addr) (c0 : ClassId) (h0 : Heap) (hO : Old Z n0 h0) (f0 : Str Z h0 p0 p1 c0 []) :
    Met Z a0 ELs True n0 l (⟨"bindery/server/stomp/HeaderEscapes", "apply", "(Ljava/lang/String;)Z"⟩ : MethodName) prog_84_method_2_code 1 (Option.some FieldType.boolean) ({ frames := 2, cells := 4, slots := 72, locals := 28 } : Room) #[(.ref p0)] h0 [p0] (fun v h so => (v = some (.int 1) ∧ so = [] ∧ Keep h0 h [])) := by
  refine Met.of (EWl V) (by first | decide +kernel | rfl) hO (L0 := #[.val (.ref p0)]) rfl ?_
  intro p e s m below meth c T H
  show Go p e below _ (T.setTop (mkF m 0 #[.val (.ref p0)] []))
  refine G.aloadN H D8_0 (pc' := 1) rfl rfl rfl ?_
  refine G.ldcS H trivial (wS V) (wd31 V) (by decide) (vs := [(.int 67), (.int 79), (.int 78), (.int 78), (.int 69), (.int 67), (.int 84)]) (z := 7) (by decide) (by decide) rfl (n := 28) (by decide) (by decide) (by decide) (by decide) D8_1 (pc' := 3) rfl ?_
  intro T1 h1_ a2 b4 k5 H1 E3 X6 F7 F8 A9 Q10
  have S11 : Str Z h1_ a2 b4 k5 [67, 79, 78, 78, 69, 67, 84] := ⟨X6, F7, F8, A9, by decide, by decide⟩
  have F12 := (Str.ext E3 f0)
  refine G.strEq H1 (strwEq V) (wd7 V) (wd32 V) (wd33 V) (wd35 V) (wd34 V) F12 S11 (hv0 V) (hv1 V) (rest := []) (W := 0) rfl rfl D8_3 (pc' := 6) rfl (by decide) (by decide) (by decide) (by decide) ?_ ?_
  ·
    intro T13 H14 c15
    exact absurd c15 (by intro qq; simp at qq)
  ·
    intro T16 H17 c18
    refine G.ifNo H17 D8_6 (pc' := 9) rfl (by decide) ?_
    refine G.aloadN H17 D8_9 (pc' := 10) rfl rfl rfl ?_
    refine G.ldcS H17 trivial (wS V) (wd43 V) (by decide) (vs := [(.int 67), (.int 79), (.int 78), (.int 78), (.int 69), (.int 67), (.int 84), (.int 69), (.int 68)]) (z := 9) (by decide) (by decide) rfl (n := 36) (by decide) (by decide) (by decide) (by decide) D8_10 (pc' := 12) rfl ?_
    intro T19 h19_ a20 b22 k23 H19 E21 X24 F25 F26 A27 Q28
    have S29 : Str Z h19_ a20 b22 k23 [67, 79, 78, 78, 69, 67, 84, 69, 68] := ⟨X24, F25, F26, A27, by decide, by decide⟩
    have F30 := (Str.ext E21 F12)
    refine G.strEq H19 (strwEq V) (wd7 V) (wd32 V) (wd33 V) (wd35 V) (wd34 V) F30 S29 (hv0 V) (hv1 V) (rest := []) (W := 0) rfl rfl D8_12 (pc' := 15) rfl (by decide) (by decide) (by decide) (by decide) ?_ ?_
    ·
      intro T31 H32 c33
      exact absurd c33 (by intro qq; simp at qq)
    ·
      intro T34 H35 c36
      refine G.ifNo H35 D8_15 (pc' := 18) rfl (by decide) ?_
      refine G.iconst H35 D8_18 (pc' := 19) rfl (v := 1) rfl ?_
      refine G.goto H35 D8_19 (by decide) (pc' := 23) rfl ?_
      have K37 : Keep h0 h19_ [] := (Keep.ext (Keep.ext (Keep.refl h0 []) E3) E21)
      exact G.retN H35 (t := .boolean) rfl (by decide) D8_23 (so := []) all0 (by decide) (by decide) ⟨rfl, rfl, K37⟩
set_option maxRecDepth 65536 in
set_option maxHeartbeats 40000000 in
theorem m5_cut (V : Env1 Z a0 n0 uu0 uu1) (p0 : Addr) (c0 : ClassId) (x0 : Int32) (x1 : Int32) (x2 : Int32) (x3 : Int32) (x4 : Int32) (x5 : Int32) (x6 : Int32) (x7 : Int32) (x8 : Int32) (x9 : Int32) (h0 : Heap) (hO : Old Z n0 h0) (f0 : Arv Z h0 p0 c0 .char 10 [(.int x0), (.int x1), (.int x2), (.int x3), (.int x4), (.int x5), (.int x6), (.int x7), (.int x8), (.int x9)] (.int 0)) (r1 : ¬ x0 < 0 ∧ ¬ 65535 < x0) (r2 : ¬ x0 < 0 ∧ ¬ 255 < x0) :
    Met Z a0 ELs True n0 l (⟨"bindery/server/stomp/HeaderEscapesApplyPinLaw", "cut", "([CI)Ljava/lang/String;"⟩ : MethodName) method_3_code 2 (Option.some (FieldType.object "java/lang/String")) ({ frames := 4, cells := 3, slots := 6, locals := 66 } : Room) #[(.ref p0), (.int 1)] h0 [] (fun v h so => (∃ a2 t24 : Addr, ∃ k25 : ClassId, v = some (.ref a2) ∧ so = [a2, t24] ∧ Keep h0 h [] ∧ h0.size ≤ a2 ∧ a2 < t24 ∧ Str Z h a2 t24 k25 [x0])) := by
  refine Met.of (EWl V) (by first | decide +kernel | rfl) hO (L0 := #[.val (.ref p0), .val (.int 1)]) rfl ?_
  intro p e s m below meth c T H
  show Go p e below _ (T.setTop (mkF m 0 #[.val (.ref p0), .val (.int 1)] []))
  refine G.iloadN H D7_0 (pc' := 1) rfl rfl ?_
  refine G.ifYes H D7_1 (by decide) (by decide) (pc' := 15) rfl ?_
  refine G.iloadN H D7_15 (pc' := 16) rfl rfl ?_
  refine G.iconst H D7_16 (pc' := 17) rfl (v := 1) rfl ?_
  refine G.icmpNo H D7_17 (pc' := 20) rfl (by decide) ?_
  refine G.new H (wd6 V) (wd7 V) (wd8 V) D7_20 (pc' := 23) rfl (by decide) (by decide) ?_
  intro T1 h1_ a2 ga2 H1 E3 A4 D5
  have na2 := H.nle ga2
  refine G.dup H1 D7_23 (pc' := 24) rfl rfl ?_
  refine G.iconst H1 D7_24 (pc' := 25) rfl (v := 1) rfl ?_
  refine G.newP H1 (aty := .char) (wd1 V) D7_25 (pc' := 27) rfl (by decide) (cap := 1) (by decide) (by decide) (by decide) (by decide) (vs := [(.int 0)]) rfl (ad := "[C") rfl ?_
  intro T6 h6_ a7 k10 ga7 H6 E8 A9 X11
  have na7 := H1.nle ga7
  replace A9 : Arv Z h6_ a7 k10 .char 1 [(.int 0)] (.int 0) := A9
  refine G.dup H6 D7_27 (pc' := 28) rfl rfl ?_
  refine G.iconst H6 D7_28 (pc' := 29) rfl (v := 0) rfl ?_
  refine G.aloadN H6 D7_29 (pc' := 30) rfl rfl rfl ?_
  refine G.iconst H6 D7_30 (pc' := 31) rfl (v := 0) rfl ?_
  have K12 : Keep h0 h6_ [] := (Keep.ext (Keep.ext (Keep.refl h0 []) E3) E8)
  have F13 := (Arv.keep f0 K12 nin0)
  refine G.caloadG H6 F13 (j := 0) (v := (.int x0)) (by decide) rfl D7_31 (pc' := 32) rfl ?_
  refine G.stC H6 A9 (by decide) (i := 0) rfl lB na7 (y := x0) (own_narC r1) D7_32 (pc' := 33) rfl ?_
  intro T14 h14_ H14 W15 A16
  replace A16 : Arv Z h14_ a7 k10 .char 1 [(.int x0)] (.int 0) := A16
  have K17 : Keep h1_ h14_ [] := (Keep.wr (Keep.ext (Keep.refl h1_ []) E8) W15 (Or.inr (Nat.le_of_eq ga7.symm)))
  have F18 := (Exa.keep A4 K17)
  have F19 : Fld Z h1_ a2 "java/lang/String" "value" "[B" .null := D5 (Or.inr (wd21 V)) (ty := (.array .byte)) (by decide)
  have F20 := (Fld.keep F19 K17 nin0)
  have F21 : Fld Z h1_ a2 "java/lang/String" "coder" "B" (.int 0) := D5 (Or.inr (wd22 V)) (ty := .byte) (by decide)
  have F22 := (Fld.keep F21 K17 nin0)
  refine G.newStr H14 (strw V) (wd7 V) (wd9 V) (wd10 V) (cs := [x0]) (n := 1) na2 F18 F20 F22 A16 (hv0 V) (hv1 V) rfl rfl (by decide) (by decide) (cbS r2 cb0) (Sf.mem (mG (i := 1) rfl)) (rest := [(.ref a2)]) (W := 1) rfl rfl D7_33 (pc' := 36) rfl (by decide) (by decide) (by decide) (by decide) ?_
  intro T23 h23_ t24 k25 g28 H23 K26 S27
  have nt24 : n0 ≤ t24 := Nat.le_trans H14.le g28
  have K29 : Keep h0 h1_ [] := (Keep.ext (Keep.refl h0 []) E3)
  have K30 : Keep h0 h23_ [] := (Keep.trans (Keep.wr (Keep.ext (Keep.ext (Keep.refl h0 []) E3) E8) W15 (Or.inr (Nat.le_trans K29.1 (Nat.le_of_eq ga7.symm)))) K26 (allS (Or.inr (Nat.le_of_eq ga2.symm)) all0))
  exact G.retA H23 (t := (.object "java/lang/String")) rfl rfl rfl D7_36 (so := [a2, t24]) (allS (mG (i := 2) rfl) (allS (mG (i := 0) rfl) all0)) (by decide) (by decide) ⟨a2, t24, k25, rfl, rfl, K30, (Nat.le_of_eq ga2.symm), (Nat.lt_of_lt_of_le (Nat.lt_of_lt_of_le A4.lt K17.1) g28), S27⟩
set_option maxRecDepth 65536 in
set_option maxHeartbeats 40000000 in
theorem m6_apply (V : Env1 Z a0 n0 uu0 uu1) (p0 : Addr) (p1 : Addr) (c0 : ClassId) (x0 : Int32) (h0 : Heap) (hO : Old Z n0 h0) (f0 : Str Z h0 p0 p1 c0 [x0]) :
    Met Z a0 ELs True n0 l (⟨"bindery/server/stomp/HeaderEscapes", "apply", "(Ljava/lang/String;)Z"⟩ : MethodName) prog_84_method_2_code 1 (Option.some FieldType.boolean) ({ frames := 2, cells := 4, slots := 72, locals := 28 } : Room) #[(.ref p0)] h0 [p0, p1] (fun v h so => (v = some (.int 1) ∧ so = [] ∧ Keep h0 h [])) := by
  refine Met.of (EWl V) (by first | decide +kernel | rfl) hO (L0 := #[.val (.ref p0)]) rfl ?_
  intro p e s m below meth c T H
  show Go p e below _ (T.setTop (mkF m 0 #[.val (.ref p0)] []))
  refine G.aloadN H D8_0 (pc' := 1) rfl rfl rfl ?_
  refine G.ldcS H trivial (wS V) (wd31 V) (by decide) (vs := [(.int 67), (.int 79), (.int 78), (.int 78), (.int 69), (.int 67), (.int 84)]) (z := 7) (by decide) (by decide) rfl (n := 28) (by decide) (by decide) (by decide) (by decide) D8_1 (pc' := 3) rfl ?_
  intro T1 h1_ a2 b4 k5 H1 E3 X6 F7 F8 A9 Q10
  have S11 : Str Z h1_ a2 b4 k5 [67, 79, 78, 78, 69, 67, 84] := ⟨X6, F7, F8, A9, by decide, by decide⟩
  have F12 := (Str.ext E3 f0)
  refine G.strEq H1 (strwEq V) (wd7 V) (wd32 V) (wd33 V) (wd35 V) (wd34 V) F12 S11 (hv0 V) (hv1 V) (rest := []) (W := 0) rfl rfl D8_3 (pc' := 6) rfl (by decide) (by decide) (by decide) (by decide) ?_ ?_
  ·
    intro T13 H14 c15
    exact absurd c15 (by intro qq; simp at qq)
  ·
    intro T16 H17 c18
    refine G.ifNo H17 D8_6 (pc' := 9) rfl (by decide) ?_
    refine G.aloadN H17 D8_9 (pc' := 10) rfl rfl rfl ?_
    refine G.ldcS H17 trivial (wS V) (wd43 V) (by decide) (vs := [(.int 67), (.int 79), (.int 78), (.int 78), (.int 69), (.int 67), (.int 84), (.int 69), (.int 68)]) (z := 9) (by decide) (by decide) rfl (n := 36) (by decide) (by decide) (by decide) (by decide) D8_10 (pc' := 12) rfl ?_
    intro T19 h19_ a20 b22 k23 H19 E21 X24 F25 F26 A27 Q28
    have S29 : Str Z h19_ a20 b22 k23 [67, 79, 78, 78, 69, 67, 84, 69, 68] := ⟨X24, F25, F26, A27, by decide, by decide⟩
    have F30 := (Str.ext E21 F12)
    refine G.strEq H19 (strwEq V) (wd7 V) (wd32 V) (wd33 V) (wd35 V) (wd34 V) F30 S29 (hv0 V) (hv1 V) (rest := []) (W := 0) rfl rfl D8_12 (pc' := 15) rfl (by decide) (by decide) (by decide) (by decide) ?_ ?_
    ·
      intro T31 H32 c33
      exact absurd c33 (by intro qq; simp at qq)
    ·
      intro T34 H35 c36
      refine G.ifNo H35 D8_15 (pc' := 18) rfl (by decide) ?_
      refine G.iconst H35 D8_18 (pc' := 19) rfl (v := 1) rfl ?_
      refine G.goto H35 D8_19 (by decide) (pc' := 23) rfl ?_
      have K37 : Keep h0 h19_ [] := (Keep.ext (Keep.ext (Keep.refl h0 []) E3) E21)
      exact G.retN H35 (t := .boolean) rfl (by decide) D8_23 (so := []) all0 (by decide) (by decide) ⟨rfl, rfl, K37⟩
set_option maxRecDepth 65536 in
set_option maxHeartbeats 40000000 in
theorem m7_cut (V : Env1 Z a0 n0 uu0 uu1) (p0 : Addr) (c0 : ClassId) (x0 : Int32) (x1 : Int32) (x2 : Int32) (x3 : Int32) (x4 : Int32) (x5 : Int32) (x6 : Int32) (x7 : Int32) (x8 : Int32) (x9 : Int32) (h0 : Heap) (hO : Old Z n0 h0) (f0 : Arv Z h0 p0 c0 .char 10 [(.int x0), (.int x1), (.int x2), (.int x3), (.int x4), (.int x5), (.int x6), (.int x7), (.int x8), (.int x9)] (.int 0)) (r1 : ¬ x0 < 0 ∧ ¬ 65535 < x0) (r2 : ¬ x1 < 0 ∧ ¬ 65535 < x1) (r3 : ¬ x1 < 0 ∧ ¬ 255 < x1) (r4 : ¬ x0 < 0 ∧ ¬ 255 < x0) :
    Met Z a0 ELs True n0 l (⟨"bindery/server/stomp/HeaderEscapesApplyPinLaw", "cut", "([CI)Ljava/lang/String;"⟩ : MethodName) method_3_code 2 (Option.some (FieldType.object "java/lang/String")) ({ frames := 4, cells := 3, slots := 8, locals := 66 } : Room) #[(.ref p0), (.int 2)] h0 [] (fun v h so => (∃ a2 t30 : Addr, ∃ k31 : ClassId, v = some (.ref a2) ∧ so = [a2, t30] ∧ Keep h0 h [] ∧ h0.size ≤ a2 ∧ a2 < t30 ∧ Str Z h a2 t30 k31 [x0, x1])) := by
  refine Met.of (EWl V) (by first | decide +kernel | rfl) hO (L0 := #[.val (.ref p0), .val (.int 2)]) rfl ?_
  intro p e s m below meth c T H
  show Go p e below _ (T.setTop (mkF m 0 #[.val (.ref p0), .val (.int 2)] []))
  refine G.iloadN H D7_0 (pc' := 1) rfl rfl ?_
  refine G.ifYes H D7_1 (by decide) (by decide) (pc' := 15) rfl ?_
  refine G.iloadN H D7_15 (pc' := 16) rfl rfl ?_
  refine G.iconst H D7_16 (pc' := 17) rfl (v := 1) rfl ?_
  refine G.icmpYes H D7_17 (by decide) (by decide) (pc' := 37) rfl ?_
  refine G.iloadN H D7_37 (pc' := 38) rfl rfl ?_
  refine G.iconst H D7_38 (pc' := 39) rfl (v := 2) rfl ?_
  refine G.icmpNo H D7_39 (pc' := 42) rfl (by decide) ?_
  refine G.new H (wd6 V) (wd7 V) (wd8 V) D7_42 (pc' := 45) rfl (by decide) (by decide) ?_
  intro T1 h1_ a2 ga2 H1 E3 A4 D5
  have na2 := H.nle ga2
  refine G.dup H1 D7_45 (pc' := 46) rfl rfl ?_
  refine G.iconst H1 D7_46 (pc' := 47) rfl (v := 2) rfl ?_
  refine G.newP H1 (aty := .char) (wd1 V) D7_47 (pc' := 49) rfl (by decide) (cap := 2) (by decide) (by decide) (by decide) (by decide) (vs := [(.int 0), (.int 0)]) rfl (ad := "[C") rfl ?_
  intro T6 h6_ a7 k10 ga7 H6 E8 A9 X11
  have na7 := H1.nle ga7
  replace A9 : Arv Z h6_ a7 k10 .char 2 [(.int 0), (.int 0)] (.int 0) := A9
  refine G.dup H6 D7_49 (pc' := 50) rfl rfl ?_
  refine G.iconst H6 D7_50 (pc' := 51) rfl (v := 0) rfl ?_
  refine G.aloadN H6 D7_51 (pc' := 52) rfl rfl rfl ?_
  refine G.iconst H6 D7_52 (pc' := 53) rfl (v := 0) rfl ?_
  have K12 : Keep h0 h6_ [] := (Keep.ext (Keep.ext (Keep.refl h0 []) E3) E8)
  have F13 := (Arv.keep f0 K12 nin0)
  refine G.caloadG H6 F13 (j := 0) (v := (.int x0)) (by decide) rfl D7_53 (pc' := 54) rfl ?_
  refine G.stC H6 A9 (by decide) (i := 0) rfl lB na7 (y := x0) (own_narC r1) D7_54 (pc' := 55) rfl ?_
  intro T14 h14_ H14 W15 A16
  replace A16 : Arv Z h14_ a7 k10 .char 2 [(.int x0), (.int 0)] (.int 0) := A16
  refine G.dup H14 D7_55 (pc' := 56) rfl rfl ?_
  refine G.iconst H14 D7_56 (pc' := 57) rfl (v := 1) rfl ?_
  refine G.aloadN H14 D7_57 (pc' := 58) rfl rfl rfl ?_
  refine G.iconst H14 D7_58 (pc' := 59) rfl (v := 1) rfl ?_
  have K17 : Keep h0 h1_ [] := (Keep.ext (Keep.refl h0 []) E3)
  have N18 : p0 ≠ a7 := (Nat.ne_of_lt (Nat.lt_of_lt_of_le (Nat.lt_of_lt_of_le f0.lt K17.1) (Nat.le_of_eq ga7.symm)))
  have F19 := (Arv.other F13 W15 N18)
  refine G.caloadG H14 F19 (j := 1) (v := (.int x1)) (by decide) rfl D7_59 (pc' := 60) rfl ?_
  refine G.stC H14 A16 (by decide) (i := 1) rfl lB na7 (y := x1) (own_narC r2) D7_60 (pc' := 61) rfl ?_
  intro T20 h20_ H20 W21 A22
  replace A22 : Arv Z h20_ a7 k10 .char 2 [(.int x0), (.int x1)] (.int 0) := A22
  have K23 : Keep h1_ h20_ [] := (Keep.wr (Keep.wr (Keep.ext (Keep.refl h1_ []) E8) W15 (Or.inr (Nat.le_of_eq ga7.symm))) W21 (Or.inr (Nat.le_of_eq ga7.symm)))
  have F24 := (Exa.keep A4 K23)
  have F25 : Fld Z h1_ a2 "java/lang/String" "value" "[B" .null := D5 (Or.inr (wd21 V)) (ty := (.array .byte)) (by decide)
  have F26 := (Fld.keep F25 K23 nin0)
  have F27 : Fld Z h1_ a2 "java/lang/String" "coder" "B" (.int 0) := D5 (Or.inr (wd22 V)) (ty := .byte) (by decide)
  have F28 := (Fld.keep F27 K23 nin0)
  refine G.newStr H20 (strw V) (wd7 V) (wd9 V) (wd10 V) (cs := [x0, x1]) (n := 2) na2 F24 F26 F28 A22 (hv0 V) (hv1 V) rfl rfl (by decide) (by decide) (cbS r4 (cbS r3 cb0)) (Sf.mem (mG (i := 1) rfl)) (rest := [(.ref a2)]) (W := 1) rfl rfl D7_61 (pc' := 64) rfl (by decide) (by decide) (by decide) (by decide) ?_
  intro T29 h29_ t30 k31 g34 H29 K32 S33
  have nt30 : n0 ≤ t30 := Nat.le_trans H20.le g34
  have K35 : Keep h0 h29_ [] := (Keep.trans (Keep.wr (Keep.wr (Keep.ext (Keep.ext (Keep.refl h0 []) E3) E8) W15 (Or.inr (Nat.le_trans K17.1 (Nat.le_of_eq ga7.symm)))) W21 (Or.inr (Nat.le_trans K17.1 (Nat.le_of_eq ga7.symm)))) K32 (allS (Or.inr (Nat.le_of_eq ga2.symm)) all0))
  exact G.retA H29 (t := (.object "java/lang/String")) rfl rfl rfl D7_64 (so := [a2, t30]) (allS (mG (i := 2) rfl) (allS (mG (i := 0) rfl) all0)) (by decide) (by decide) ⟨a2, t30, k31, rfl, rfl, K35, (Nat.le_of_eq ga2.symm), (Nat.lt_of_lt_of_le (Nat.lt_of_lt_of_le A4.lt K23.1) g34), S33⟩
set_option maxRecDepth 65536 in
set_option maxHeartbeats 40000000 in
theorem m8_apply (V : Env1 Z a0 n0 uu0 uu1) (p0 : Addr) (p1 : Addr) (c0 : ClassId) (x0 : Int32) (x1 : Int32) (h0 : Heap) (hO : Old Z n0 h0) (f0 : Str Z h0 p0 p1 c0 [x0, x1]) :
    Met Z a0 ELs True n0 l (⟨"bindery/server/stomp/HeaderEscapes", "apply", "(Ljava/lang/String;)Z"⟩ : MethodName) prog_84_method_2_code 1 (Option.some FieldType.boolean) ({ frames := 2, cells := 4, slots := 72, locals := 28 } : Room) #[(.ref p0)] h0 [p0, p1] (fun v h so => (v = some (.int 1) ∧ so = [] ∧ Keep h0 h [])) := by
  refine Met.of (EWl V) (by first | decide +kernel | rfl) hO (L0 := #[.val (.ref p0)]) rfl ?_
  intro p e s m below meth c T H
  show Go p e below _ (T.setTop (mkF m 0 #[.val (.ref p0)] []))
  refine G.aloadN H D8_0 (pc' := 1) rfl rfl rfl ?_
  refine G.ldcS H trivial (wS V) (wd31 V) (by decide) (vs := [(.int 67), (.int 79), (.int 78), (.int 78), (.int 69), (.int 67), (.int 84)]) (z := 7) (by decide) (by decide) rfl (n := 28) (by decide) (by decide) (by decide) (by decide) D8_1 (pc' := 3) rfl ?_
  intro T1 h1_ a2 b4 k5 H1 E3 X6 F7 F8 A9 Q10
  have S11 : Str Z h1_ a2 b4 k5 [67, 79, 78, 78, 69, 67, 84] := ⟨X6, F7, F8, A9, by decide, by decide⟩
  have F12 := (Str.ext E3 f0)
  refine G.strEq H1 (strwEq V) (wd7 V) (wd32 V) (wd33 V) (wd35 V) (wd34 V) F12 S11 (hv0 V) (hv1 V) (rest := []) (W := 0) rfl rfl D8_3 (pc' := 6) rfl (by decide) (by decide) (by decide) (by decide) ?_ ?_
  ·
    intro T13 H14 c15
    exact absurd c15 (by intro qq; simp at qq)
  ·
    intro T16 H17 c18
    refine G.ifNo H17 D8_6 (pc' := 9) rfl (by decide) ?_
    refine G.aloadN H17 D8_9 (pc' := 10) rfl rfl rfl ?_
    refine G.ldcS H17 trivial (wS V) (wd43 V) (by decide) (vs := [(.int 67), (.int 79), (.int 78), (.int 78), (.int 69), (.int 67), (.int 84), (.int 69), (.int 68)]) (z := 9) (by decide) (by decide) rfl (n := 36) (by decide) (by decide) (by decide) (by decide) D8_10 (pc' := 12) rfl ?_
    intro T19 h19_ a20 b22 k23 H19 E21 X24 F25 F26 A27 Q28
    have S29 : Str Z h19_ a20 b22 k23 [67, 79, 78, 78, 69, 67, 84, 69, 68] := ⟨X24, F25, F26, A27, by decide, by decide⟩
    have F30 := (Str.ext E21 F12)
    refine G.strEq H19 (strwEq V) (wd7 V) (wd32 V) (wd33 V) (wd35 V) (wd34 V) F30 S29 (hv0 V) (hv1 V) (rest := []) (W := 0) rfl rfl D8_12 (pc' := 15) rfl (by decide) (by decide) (by decide) (by decide) ?_ ?_
    ·
      intro T31 H32 c33
      exact absurd c33 (by intro qq; simp at qq)
    ·
      intro T34 H35 c36
      refine G.ifNo H35 D8_15 (pc' := 18) rfl (by decide) ?_
      refine G.iconst H35 D8_18 (pc' := 19) rfl (v := 1) rfl ?_
      refine G.goto H35 D8_19 (by decide) (pc' := 23) rfl ?_
      have K37 : Keep h0 h19_ [] := (Keep.ext (Keep.ext (Keep.refl h0 []) E3) E21)
      exact G.retN H35 (t := .boolean) rfl (by decide) D8_23 (so := []) all0 (by decide) (by decide) ⟨rfl, rfl, K37⟩
set_option maxRecDepth 65536 in
set_option maxHeartbeats 40000000 in
theorem m9_cut (V : Env1 Z a0 n0 uu0 uu1) (p0 : Addr) (c0 : ClassId) (x0 : Int32) (x1 : Int32) (x2 : Int32) (x3 : Int32) (x4 : Int32) (x5 : Int32) (x6 : Int32) (x7 : Int32) (x8 : Int32) (x9 : Int32) (h0 : Heap) (hO : Old Z n0 h0) (f0 : Arv Z h0 p0 c0 .char 10 [(.int x0), (.int x1), (.int x2), (.int x3), (.int x4), (.int x5), (.int x6), (.int x7), (.int x8), (.int x9)] (.int 0)) (r1 : ¬ x0 < 0 ∧ ¬ 65535 < x0) (r2 : ¬ x1 < 0 ∧ ¬ 65535 < x1) (r3 : ¬ x2 < 0 ∧ ¬ 65535 < x2) (r4 : ¬ x2 < 0 ∧ ¬ 255 < x2) (r5 : ¬ x1 < 0 ∧ ¬ 255 < x1) (r6 : ¬ x0 < 0 ∧ ¬ 255 < x0) :
    Met Z a0 ELs True n0 l (⟨"bindery/server/stomp/HeaderEscapesApplyPinLaw", "cut", "([CI)Ljava/lang/String;"⟩ : MethodName) method_3_code 2 (Option.some (FieldType.object "java/lang/String")) ({ frames := 4, cells := 3, slots := 10, locals := 66 } : Room) #[(.ref p0), (.int 3)] h0 [] (fun v h so => (∃ a2 t34 : Addr, ∃ k35 : ClassId, v = some (.ref a2) ∧ so = [a2, t34] ∧ Keep h0 h [] ∧ h0.size ≤ a2 ∧ a2 < t34 ∧ Str Z h a2 t34 k35 [x0, x1, x2])) := by
  refine Met.of (EWl V) (by first | decide +kernel | rfl) hO (L0 := #[.val (.ref p0), .val (.int 3)]) rfl ?_
  intro p e s m below meth c T H
  show Go p e below _ (T.setTop (mkF m 0 #[.val (.ref p0), .val (.int 3)] []))
  refine G.iloadN H D7_0 (pc' := 1) rfl rfl ?_
  refine G.ifYes H D7_1 (by decide) (by decide) (pc' := 15) rfl ?_
  refine G.iloadN H D7_15 (pc' := 16) rfl rfl ?_
  refine G.iconst H D7_16 (pc' := 17) rfl (v := 1) rfl ?_
  refine G.icmpYes H D7_17 (by decide) (by decide) (pc' := 37) rfl ?_
  refine G.iloadN H D7_37 (pc' := 38) rfl rfl ?_
  refine G.iconst H D7_38 (pc' := 39) rfl (v := 2) rfl ?_
  refine G.icmpYes H D7_39 (by decide) (by decide) (pc' := 65) rfl ?_
  refine G.iloadN H D7_65 (pc' := 66) rfl rfl ?_
  refine G.iconst H D7_66 (pc' := 67) rfl (v := 3) rfl ?_
  refine G.icmpNo H D7_67 (pc' := 70) rfl (by decide) ?_
  refine G.new H (wd6 V) (wd7 V) (wd8 V) D7_70 (pc' := 73) rfl (by decide) (by decide) ?_
  intro T1 h1_ a2 ga2 H1 E3 A4 D5
  have na2 := H.nle ga2
  refine G.dup H1 D7_73 (pc' := 74) rfl rfl ?_
  refine G.iconst H1 D7_74 (pc' := 75) rfl (v := 3) rfl ?_
  refine G.newP H1 (aty := .char) (wd1 V) D7_75 (pc' := 77) rfl (by decide) (cap := 3) (by decide) (by decide) (by decide) (by decide) (vs := [(.int 0), (.int 0), (.int 0)]) rfl (ad := "[C") rfl ?_
  intro T6 h6_ a7 k10 ga7 H6 E8 A9 X11
  have na7 := H1.nle ga7
  replace A9 : Arv Z h6_ a7 k10 .char 3 [(.int 0), (.int 0), (.int 0)] (.int 0) := A9
  refine G.dup H6 D7_77 (pc' := 78) rfl rfl ?_
  refine G.iconst H6 D7_78 (pc' := 79) rfl (v := 0) rfl ?_
  refine G.aloadN H6 D7_79 (pc' := 80) rfl rfl rfl ?_
  refine G.iconst H6 D7_80 (pc' := 81) rfl (v := 0) rfl ?_
  have K12 : Keep h0 h6_ [] := (Keep.ext (Keep.ext (Keep.refl h0 []) E3) E8)
  have F13 := (Arv.keep f0 K12 nin0)
  refine G.caloadG H6 F13 (j := 0) (v := (.int x0)) (by decide) rfl D7_81 (pc' := 82) rfl ?_
  refine G.stC H6 A9 (by decide) (i := 0) rfl lB na7 (y := x0) (own_narC r1) D7_82 (pc' := 83) rfl ?_
  intro T14 h14_ H14 W15 A16
  replace A16 : Arv Z h14_ a7 k10 .char 3 [(.int x0), (.int 0), (.int 0)] (.int 0) := A16
  refine G.dup H14 D7_83 (pc' := 84) rfl rfl ?_
  refine G.iconst H14 D7_84 (pc' := 85) rfl (v := 1) rfl ?_
  refine G.aloadN H14 D7_85 (pc' := 86) rfl rfl rfl ?_
  refine G.iconst H14 D7_86 (pc' := 87) rfl (v := 1) rfl ?_
  have K17 : Keep h0 h1_ [] := (Keep.ext (Keep.refl h0 []) E3)
  have N18 : p0 ≠ a7 := (Nat.ne_of_lt (Nat.lt_of_lt_of_le (Nat.lt_of_lt_of_le f0.lt K17.1) (Nat.le_of_eq ga7.symm)))
  have F19 := (Arv.other F13 W15 N18)
  refine G.caloadG H14 F19 (j := 1) (v := (.int x1)) (by decide) rfl D7_87 (pc' := 88) rfl ?_
  refine G.stC H14 A16 (by decide) (i := 1) rfl lB na7 (y := x1) (own_narC r2) D7_88 (pc' := 89) rfl ?_
  intro T20 h20_ H20 W21 A22
  replace A22 : Arv Z h20_ a7 k10 .char 3 [(.int x0), (.int x1), (.int 0)] (.int 0) := A22
  refine G.dup H20 D7_89 (pc' := 90) rfl rfl ?_
  refine G.iconst H20 D7_90 (pc' := 91) rfl (v := 2) rfl ?_
  refine G.aloadN H20 D7_91 (pc' := 92) rfl rfl rfl ?_
  refine G.iconst H20 D7_92 (pc' := 93) rfl (v := 2) rfl ?_
  have F23 := (Arv.other F19 W21 N18)
  refine G.caloadG H20 F23 (j := 2) (v := (.int x2)) (by decide) rfl D7_93 (pc' := 94) rfl ?_
  refine G.stC H20 A22 (by decide) (i := 2) rfl lB na7 (y := x2) (own_narC r3) D7_94 (pc' := 95) rfl ?_
  intro T24 h24_ H24 W25 A26
  replace A26 : Arv Z h24_ a7 k10 .char 3 [(.int x0), (.int x1), (.int x2)] (.int 0) := A26
  have K27 : Keep h1_ h24_ [] := (Keep.wr (Keep.wr (Keep.wr (Keep.ext (Keep.refl h1_ []) E8) W15 (Or.inr (Nat.le_of_eq ga7.symm))) W21 (Or.inr (Nat.le_of_eq ga7.symm))) W25 (Or.inr (Nat.le_of_eq ga7.symm)))
  have F28 := (Exa.keep A4 K27)
  have F29 : Fld Z h1_ a2 "java/lang/String" "value" "[B" .null := D5 (Or.inr (wd21 V)) (ty := (.array .byte)) (by decide)
  have F30 := (Fld.keep F29 K27 nin0)
  have F31 : Fld Z h1_ a2 "java/lang/String" "coder" "B" (.int 0) := D5 (Or.inr (wd22 V)) (ty := .byte) (by decide)
  have F32 := (Fld.keep F31 K27 nin0)
  refine G.newStr H24 (strw V) (wd7 V) (wd9 V) (wd10 V) (cs := [x0, x1, x2]) (n := 3) na2 F28 F30 F32 A26 (hv0 V) (hv1 V) rfl rfl (by decide) (by decide) (cbS r6 (cbS r5 (cbS r4 cb0))) (Sf.mem (mG (i := 1) rfl)) (rest := [(.ref a2)]) (W := 1) rfl rfl D7_95 (pc' := 98) rfl (by decide) (by decide) (by decide) (by decide) ?_
  intro T33 h33_ t34 k35 g38 H33 K36 S37
  have nt34 : n0 ≤ t34 := Nat.le_trans H24.le g38
  have K39 : Keep h0 h33_ [] := (Keep.trans (Keep.wr (Keep.wr (Keep.wr (Keep.ext (Keep.ext (Keep.refl h0 []) E3) E8) W15 (Or.inr (Nat.le_trans K17.1 (Nat.le_of_eq ga7.symm)))) W21 (Or.inr (Nat.le_trans K17.1 (Nat.le_of_eq ga7.symm)))) W25 (Or.inr (Nat.le_trans K17.1 (Nat.le_of_eq ga7.symm)))) K36 (allS (Or.inr (Nat.le_of_eq ga2.symm)) all0))
  exact G.retA H33 (t := (.object "java/lang/String")) rfl rfl rfl D7_98 (so := [a2, t34]) (allS (mG (i := 2) rfl) (allS (mG (i := 0) rfl) all0)) (by decide) (by decide) ⟨a2, t34, k35, rfl, rfl, K39, (Nat.le_of_eq ga2.symm), (Nat.lt_of_lt_of_le (Nat.lt_of_lt_of_le A4.lt K27.1) g38), S37⟩
set_option maxRecDepth 65536 in
set_option maxHeartbeats 40000000 in
theorem m10_apply (V : Env1 Z a0 n0 uu0 uu1) (p0 : Addr) (p1 : Addr) (c0 : ClassId) (x0 : Int32) (x1 : Int32) (x2 : Int32) (h0 : Heap) (hO : Old Z n0 h0) (f0 : Str Z h0 p0 p1 c0 [x0, x1, x2]) :
    Met Z a0 ELs True n0 l (⟨"bindery/server/stomp/HeaderEscapes", "apply", "(Ljava/lang/String;)Z"⟩ : MethodName) prog_84_method_2_code 1 (Option.some FieldType.boolean) ({ frames := 2, cells := 4, slots := 72, locals := 28 } : Room) #[(.ref p0)] h0 [p0, p1] (fun v h so => (v = some (.int 1) ∧ so = [] ∧ Keep h0 h [])) := by
  refine Met.of (EWl V) (by first | decide +kernel | rfl) hO (L0 := #[.val (.ref p0)]) rfl ?_
  intro p e s m below meth c T H
  show Go p e below _ (T.setTop (mkF m 0 #[.val (.ref p0)] []))
  refine G.aloadN H D8_0 (pc' := 1) rfl rfl rfl ?_
  refine G.ldcS H trivial (wS V) (wd31 V) (by decide) (vs := [(.int 67), (.int 79), (.int 78), (.int 78), (.int 69), (.int 67), (.int 84)]) (z := 7) (by decide) (by decide) rfl (n := 28) (by decide) (by decide) (by decide) (by decide) D8_1 (pc' := 3) rfl ?_
  intro T1 h1_ a2 b4 k5 H1 E3 X6 F7 F8 A9 Q10
  have S11 : Str Z h1_ a2 b4 k5 [67, 79, 78, 78, 69, 67, 84] := ⟨X6, F7, F8, A9, by decide, by decide⟩
  have F12 := (Str.ext E3 f0)
  refine G.strEq H1 (strwEq V) (wd7 V) (wd32 V) (wd33 V) (wd35 V) (wd34 V) F12 S11 (hv0 V) (hv1 V) (rest := []) (W := 0) rfl rfl D8_3 (pc' := 6) rfl (by decide) (by decide) (by decide) (by decide) ?_ ?_
  ·
    intro T13 H14 c15
    exact absurd c15 (by intro qq; simp at qq)
  ·
    intro T16 H17 c18
    refine G.ifNo H17 D8_6 (pc' := 9) rfl (by decide) ?_
    refine G.aloadN H17 D8_9 (pc' := 10) rfl rfl rfl ?_
    refine G.ldcS H17 trivial (wS V) (wd43 V) (by decide) (vs := [(.int 67), (.int 79), (.int 78), (.int 78), (.int 69), (.int 67), (.int 84), (.int 69), (.int 68)]) (z := 9) (by decide) (by decide) rfl (n := 36) (by decide) (by decide) (by decide) (by decide) D8_10 (pc' := 12) rfl ?_
    intro T19 h19_ a20 b22 k23 H19 E21 X24 F25 F26 A27 Q28
    have S29 : Str Z h19_ a20 b22 k23 [67, 79, 78, 78, 69, 67, 84, 69, 68] := ⟨X24, F25, F26, A27, by decide, by decide⟩
    have F30 := (Str.ext E21 F12)
    refine G.strEq H19 (strwEq V) (wd7 V) (wd32 V) (wd33 V) (wd35 V) (wd34 V) F30 S29 (hv0 V) (hv1 V) (rest := []) (W := 0) rfl rfl D8_12 (pc' := 15) rfl (by decide) (by decide) (by decide) (by decide) ?_ ?_
    ·
      intro T31 H32 c33
      exact absurd c33 (by intro qq; simp at qq)
    ·
      intro T34 H35 c36
      refine G.ifNo H35 D8_15 (pc' := 18) rfl (by decide) ?_
      refine G.iconst H35 D8_18 (pc' := 19) rfl (v := 1) rfl ?_
      refine G.goto H35 D8_19 (by decide) (pc' := 23) rfl ?_
      have K37 : Keep h0 h19_ [] := (Keep.ext (Keep.ext (Keep.refl h0 []) E3) E21)
      exact G.retN H35 (t := .boolean) rfl (by decide) D8_23 (so := []) all0 (by decide) (by decide) ⟨rfl, rfl, K37⟩
set_option maxRecDepth 65536 in
set_option maxHeartbeats 40000000 in
theorem m11_cut (V : Env1 Z a0 n0 uu0 uu1) (p0 : Addr) (c0 : ClassId) (x0 : Int32) (x1 : Int32) (x2 : Int32) (x3 : Int32) (x4 : Int32) (x5 : Int32) (x6 : Int32) (x7 : Int32) (x8 : Int32) (x9 : Int32) (h0 : Heap) (hO : Old Z n0 h0) (f0 : Arv Z h0 p0 c0 .char 10 [(.int x0), (.int x1), (.int x2), (.int x3), (.int x4), (.int x5), (.int x6), (.int x7), (.int x8), (.int x9)] (.int 0)) (r1 : ¬ x0 < 0 ∧ ¬ 65535 < x0) (r2 : ¬ x1 < 0 ∧ ¬ 65535 < x1) (r3 : ¬ x2 < 0 ∧ ¬ 65535 < x2) (r4 : ¬ x3 < 0 ∧ ¬ 65535 < x3) (r5 : ¬ x3 < 0 ∧ ¬ 255 < x3) (r6 : ¬ x2 < 0 ∧ ¬ 255 < x2) (r7 : ¬ x1 < 0 ∧ ¬ 255 < x1) (r8 : ¬ x0 < 0 ∧ ¬ 255 < x0) :
    Met Z a0 ELs True n0 l (⟨"bindery/server/stomp/HeaderEscapesApplyPinLaw", "cut", "([CI)Ljava/lang/String;"⟩ : MethodName) method_3_code 2 (Option.some (FieldType.object "java/lang/String")) ({ frames := 4, cells := 3, slots := 12, locals := 66 } : Room) #[(.ref p0), (.int 4)] h0 [] (fun v h so => (∃ a2 t38 : Addr, ∃ k39 : ClassId, v = some (.ref a2) ∧ so = [a2, t38] ∧ Keep h0 h [] ∧ h0.size ≤ a2 ∧ a2 < t38 ∧ Str Z h a2 t38 k39 [x0, x1, x2, x3])) := by
  refine Met.of (EWl V) (by first | decide +kernel | rfl) hO (L0 := #[.val (.ref p0), .val (.int 4)]) rfl ?_
  intro p e s m below meth c T H
  show Go p e below _ (T.setTop (mkF m 0 #[.val (.ref p0), .val (.int 4)] []))
  refine G.iloadN H D7_0 (pc' := 1) rfl rfl ?_
  refine G.ifYes H D7_1 (by decide) (by decide) (pc' := 15) rfl ?_
  refine G.iloadN H D7_15 (pc' := 16) rfl rfl ?_
  refine G.iconst H D7_16 (pc' := 17) rfl (v := 1) rfl ?_
  refine G.icmpYes H D7_17 (by decide) (by decide) (pc' := 37) rfl ?_
  refine G.iloadN H D7_37 (pc' := 38) rfl rfl ?_
  refine G.iconst H D7_38 (pc' := 39) rfl (v := 2) rfl ?_
  refine G.icmpYes H D7_39 (by decide) (by decide) (pc' := 65) rfl ?_
  refine G.iloadN H D7_65 (pc' := 66) rfl rfl ?_
  refine G.iconst H D7_66 (pc' := 67) rfl (v := 3) rfl ?_
  refine G.icmpYes H D7_67 (by decide) (by decide) (pc' := 99) rfl ?_
  refine G.iloadN H D7_99 (pc' := 100) rfl rfl ?_
  refine G.iconst H D7_100 (pc' := 101) rfl (v := 4) rfl ?_
  refine G.icmpNo H D7_101 (pc' := 104) rfl (by decide) ?_
  refine G.new H (wd6 V) (wd7 V) (wd8 V) D7_104 (pc' := 107) rfl (by decide) (by decide) ?_
  intro T1 h1_ a2 ga2 H1 E3 A4 D5
  have na2 := H.nle ga2
  refine G.dup H1 D7_107 (pc' := 108) rfl rfl ?_
  refine G.iconst H1 D7_108 (pc' := 109) rfl (v := 4) rfl ?_
  refine G.newP H1 (aty := .char) (wd1 V) D7_109 (pc' := 111) rfl (by decide) (cap := 4) (by decide) (by decide) (by decide) (by decide) (vs := [(.int 0), (.int 0), (.int 0), (.int 0)]) rfl (ad := "[C") rfl ?_
  intro T6 h6_ a7 k10 ga7 H6 E8 A9 X11
  have na7 := H1.nle ga7
  replace A9 : Arv Z h6_ a7 k10 .char 4 [(.int 0), (.int 0), (.int 0), (.int 0)] (.int 0) := A9
  refine G.dup H6 D7_111 (pc' := 112) rfl rfl ?_
  refine G.iconst H6 D7_112 (pc' := 113) rfl (v := 0) rfl ?_
  refine G.aloadN H6 D7_113 (pc' := 114) rfl rfl rfl ?_
  refine G.iconst H6 D7_114 (pc' := 115) rfl (v := 0) rfl ?_
  have K12 : Keep h0 h6_ [] := (Keep.ext (Keep.ext (Keep.refl h0 []) E3) E8)
  have F13 := (Arv.keep f0 K12 nin0)
  refine G.caloadG H6 F13 (j := 0) (v := (.int x0)) (by decide) rfl D7_115 (pc' := 116) rfl ?_
  refine G.stC H6 A9 (by decide) (i := 0) rfl lB na7 (y := x0) (own_narC r1) D7_116 (pc' := 117) rfl ?_
  intro T14 h14_ H14 W15 A16
  replace A16 : Arv Z h14_ a7 k10 .char 4 [(.int x0), (.int 0), (.int 0), (.int 0)] (.int 0) := A16
  refine G.dup H14 D7_117 (pc' := 118) rfl rfl ?_
  refine G.iconst H14 D7_118 (pc' := 119) rfl (v := 1) rfl ?_
  refine G.aloadN H14 D7_119 (pc' := 120) rfl rfl rfl ?_
  refine G.iconst H14 D7_120 (pc' := 121) rfl (v := 1) rfl ?_
  have K17 : Keep h0 h1_ [] := (Keep.ext (Keep.refl h0 []) E3)
  have N18 : p0 ≠ a7 := (Nat.ne_of_lt (Nat.lt_of_lt_of_le (Nat.lt_of_lt_of_le f0.lt K17.1) (Nat.le_of_eq ga7.symm)))
  have F19 := (Arv.other F13 W15 N18)
  refine G.caloadG H14 F19 (j := 1) (v := (.int x1)) (by decide) rfl D7_121 (pc' := 122) rfl ?_
  refine G.stC H14 A16 (by decide) (i := 1) rfl lB na7 (y := x1) (own_narC r2) D7_122 (pc' := 123) rfl ?_
  intro T20 h20_ H20 W21 A22
  replace A22 : Arv Z h20_ a7 k10 .char 4 [(.int x0), (.int x1), (.int 0), (.int 0)] (.int 0) := A22
  refine G.dup H20 D7_123 (pc' := 124) rfl rfl ?_
  refine G.iconst H20 D7_124 (pc' := 125) rfl (v := 2) rfl ?_
  refine G.aloadN H20 D7_125 (pc' := 126) rfl rfl rfl ?_
  refine G.iconst H20 D7_126 (pc' := 127) rfl (v := 2) rfl ?_
  have F23 := (Arv.other F19 W21 N18)
  refine G.caloadG H20 F23 (j := 2) (v := (.int x2)) (by decide) rfl D7_127 (pc' := 128) rfl ?_
  refine G.stC H20 A22 (by decide) (i := 2) rfl lB na7 (y := x2) (own_narC r3) D7_128 (pc' := 129) rfl ?_
  intro T24 h24_ H24 W25 A26
  replace A26 : Arv Z h24_ a7 k10 .char 4 [(.int x0), (.int x1), (.int x2), (.int 0)] (.int 0) := A26
  refine G.dup H24 D7_129 (pc' := 130) rfl rfl ?_
  refine G.iconst H24 D7_130 (pc' := 131) rfl (v := 3) rfl ?_
  refine G.aloadN H24 D7_131 (pc' := 132) rfl rfl rfl ?_
  refine G.iconst H24 D7_132 (pc' := 133) rfl (v := 3) rfl ?_
  have F27 := (Arv.other F23 W25 N18)
  refine G.caloadG H24 F27 (j := 3) (v := (.int x3)) (by decide) rfl D7_133 (pc' := 134) rfl ?_
  refine G.stC H24 A26 (by decide) (i := 3) rfl lB na7 (y := x3) (own_narC r4) D7_134 (pc' := 135) rfl ?_
  intro T28 h28_ H28 W29 A30
  replace A30 : Arv Z h28_ a7 k10 .char 4 [(.int x0), (.int x1), (.int x2), (.int x3)] (.int 0) := A30
  have K31 : Keep h1_ h28_ [] := (Keep.wr (Keep.wr (Keep.wr (Keep.wr (Keep.ext (Keep.refl h1_ []) E8) W15 (Or.inr (Nat.le_of_eq ga7.symm))) W21 (Or.inr (Nat.le_of_eq ga7.symm))) W25 (Or.inr (Nat.le_of_eq ga7.symm))) W29 (Or.inr (Nat.le_of_eq ga7.symm)))
  have F32 := (Exa.keep A4 K31)
  have F33 : Fld Z h1_ a2 "java/lang/String" "value" "[B" .null := D5 (Or.inr (wd21 V)) (ty := (.array .byte)) (by decide)
  have F34 := (Fld.keep F33 K31 nin0)
  have F35 : Fld Z h1_ a2 "java/lang/String" "coder" "B" (.int 0) := D5 (Or.inr (wd22 V)) (ty := .byte) (by decide)
  have F36 := (Fld.keep F35 K31 nin0)
  refine G.newStr H28 (strw V) (wd7 V) (wd9 V) (wd10 V) (cs := [x0, x1, x2, x3]) (n := 4) na2 F32 F34 F36 A30 (hv0 V) (hv1 V) rfl rfl (by decide) (by decide) (cbS r8 (cbS r7 (cbS r6 (cbS r5 cb0)))) (Sf.mem (mG (i := 1) rfl)) (rest := [(.ref a2)]) (W := 1) rfl rfl D7_135 (pc' := 138) rfl (by decide) (by decide) (by decide) (by decide) ?_
  intro T37 h37_ t38 k39 g42 H37 K40 S41
  have nt38 : n0 ≤ t38 := Nat.le_trans H28.le g42
  have K43 : Keep h0 h37_ [] := (Keep.trans (Keep.wr (Keep.wr (Keep.wr (Keep.wr (Keep.ext (Keep.ext (Keep.refl h0 []) E3) E8) W15 (Or.inr (Nat.le_trans K17.1 (Nat.le_of_eq ga7.symm)))) W21 (Or.inr (Nat.le_trans K17.1 (Nat.le_of_eq ga7.symm)))) W25 (Or.inr (Nat.le_trans K17.1 (Nat.le_of_eq ga7.symm)))) W29 (Or.inr (Nat.le_trans K17.1 (Nat.le_of_eq ga7.symm)))) K40 (allS (Or.inr (Nat.le_of_eq ga2.symm)) all0))
  exact G.retA H37 (t := (.object "java/lang/String")) rfl rfl rfl D7_138 (so := [a2, t38]) (allS (mG (i := 2) rfl) (allS (mG (i := 0) rfl) all0)) (by decide) (by decide) ⟨a2, t38, k39, rfl, rfl, K43, (Nat.le_of_eq ga2.symm), (Nat.lt_of_lt_of_le (Nat.lt_of_lt_of_le A4.lt K31.1) g42), S41⟩
set_option maxRecDepth 65536 in
set_option maxHeartbeats 40000000 in
theorem m12_apply (V : Env1 Z a0 n0 uu0 uu1) (p0 : Addr) (p1 : Addr) (c0 : ClassId) (x0 : Int32) (x1 : Int32) (x2 : Int32) (x3 : Int32) (h0 : Heap) (hO : Old Z n0 h0) (f0 : Str Z h0 p0 p1 c0 [x0, x1, x2, x3]) :
    Met Z a0 ELs True n0 l (⟨"bindery/server/stomp/HeaderEscapes", "apply", "(Ljava/lang/String;)Z"⟩ : MethodName) prog_84_method_2_code 1 (Option.some FieldType.boolean) ({ frames := 2, cells := 4, slots := 72, locals := 28 } : Room) #[(.ref p0)] h0 [p0, p1] (fun v h so => (v = some (.int 1) ∧ so = [] ∧ Keep h0 h [])) := by
  refine Met.of (EWl V) (by first | decide +kernel | rfl) hO (L0 := #[.val (.ref p0)]) rfl ?_
  intro p e s m below meth c T H
  show Go p e below _ (T.setTop (mkF m 0 #[.val (.ref p0)] []))
  refine G.aloadN H D8_0 (pc' := 1) rfl rfl rfl ?_
  refine G.ldcS H trivial (wS V) (wd31 V) (by decide) (vs := [(.int 67), (.int 79), (.int 78), (.int 78), (.int 69), (.int 67), (.int 84)]) (z := 7) (by decide) (by decide) rfl (n := 28) (by decide) (by decide) (by decide) (by decide) D8_1 (pc' := 3) rfl ?_
  intro T1 h1_ a2 b4 k5 H1 E3 X6 F7 F8 A9 Q10
  have S11 : Str Z h1_ a2 b4 k5 [67, 79, 78, 78, 69, 67, 84] := ⟨X6, F7, F8, A9, by decide, by decide⟩
  have F12 := (Str.ext E3 f0)
  refine G.strEq H1 (strwEq V) (wd7 V) (wd32 V) (wd33 V) (wd35 V) (wd34 V) F12 S11 (hv0 V) (hv1 V) (rest := []) (W := 0) rfl rfl D8_3 (pc' := 6) rfl (by decide) (by decide) (by decide) (by decide) ?_ ?_
  ·
    intro T13 H14 c15
    exact absurd c15 (by intro qq; simp at qq)
  ·
    intro T16 H17 c18
    refine G.ifNo H17 D8_6 (pc' := 9) rfl (by decide) ?_
    refine G.aloadN H17 D8_9 (pc' := 10) rfl rfl rfl ?_
    refine G.ldcS H17 trivial (wS V) (wd43 V) (by decide) (vs := [(.int 67), (.int 79), (.int 78), (.int 78), (.int 69), (.int 67), (.int 84), (.int 69), (.int 68)]) (z := 9) (by decide) (by decide) rfl (n := 36) (by decide) (by decide) (by decide) (by decide) D8_10 (pc' := 12) rfl ?_
    intro T19 h19_ a20 b22 k23 H19 E21 X24 F25 F26 A27 Q28
    have S29 : Str Z h19_ a20 b22 k23 [67, 79, 78, 78, 69, 67, 84, 69, 68] := ⟨X24, F25, F26, A27, by decide, by decide⟩
    have F30 := (Str.ext E21 F12)
    refine G.strEq H19 (strwEq V) (wd7 V) (wd32 V) (wd33 V) (wd35 V) (wd34 V) F30 S29 (hv0 V) (hv1 V) (rest := []) (W := 0) rfl rfl D8_12 (pc' := 15) rfl (by decide) (by decide) (by decide) (by decide) ?_ ?_
    ·
      intro T31 H32 c33
      exact absurd c33 (by intro qq; simp at qq)
    ·
      intro T34 H35 c36
      refine G.ifNo H35 D8_15 (pc' := 18) rfl (by decide) ?_
      refine G.iconst H35 D8_18 (pc' := 19) rfl (v := 1) rfl ?_
      refine G.goto H35 D8_19 (by decide) (pc' := 23) rfl ?_
      have K37 : Keep h0 h19_ [] := (Keep.ext (Keep.ext (Keep.refl h0 []) E3) E21)
      exact G.retN H35 (t := .boolean) rfl (by decide) D8_23 (so := []) all0 (by decide) (by decide) ⟨rfl, rfl, K37⟩
set_option maxRecDepth 65536 in
set_option maxHeartbeats 40000000 in
theorem m13_cut (V : Env1 Z a0 n0 uu0 uu1) (p0 : Addr) (c0 : ClassId) (x0 : Int32) (x1 : Int32) (x2 : Int32) (x3 : Int32) (x4 : Int32) (x5 : Int32) (x6 : Int32) (x7 : Int32) (x8 : Int32) (x9 : Int32) (h0 : Heap) (hO : Old Z n0 h0) (f0 : Arv Z h0 p0 c0 .char 10 [(.int x0), (.int x1), (.int x2), (.int x3), (.int x4), (.int x5), (.int x6), (.int x7), (.int x8), (.int x9)] (.int 0)) (r1 : ¬ x0 < 0 ∧ ¬ 65535 < x0) (r2 : ¬ x1 < 0 ∧ ¬ 65535 < x1) (r3 : ¬ x2 < 0 ∧ ¬ 65535 < x2) (r4 : ¬ x3 < 0 ∧ ¬ 65535 < x3) (r5 : ¬ x4 < 0 ∧ ¬ 65535 < x4) (r6 : ¬ x4 < 0 ∧ ¬ 255 < x4) (r7 : ¬ x3 < 0 ∧ ¬ 255 < x3) (r8 : ¬ x2 < 0 ∧ ¬ 255 < x2) (r9 : ¬ x1 < 0 ∧ ¬ 255 < x1) (r10 : ¬ x0 < 0 ∧ ¬ 255 < x0) :
    Met Z a0 ELs True n0 l (⟨"bindery/server/stomp/HeaderEscapesApplyPinLaw", "cut", "([CI)Ljava/lang/String;"⟩ : MethodName) method_3_code 2 (Option.some (FieldType.object "java/lang/String")) ({ frames := 4, cells := 3, slots := 14, locals := 66 } : Room) #[(.ref p0), (.int 5)] h0 [] (fun v h so => (∃ a2 t42 : Addr, ∃ k43 : ClassId, v = some (.ref a2) ∧ so = [a2, t42] ∧ Keep h0 h [] ∧ h0.size ≤ a2 ∧ a2 < t42 ∧ Str Z h a2 t42 k43 [x0, x1, x2, x3, x4])) := by
  refine Met.of (EWl V) (by first | decide +kernel | rfl) hO (L0 := #[.val (.ref p0), .val (.int 5)]) rfl ?_
  intro p e s m below meth c T H
  show Go p e below _ (T.setTop (mkF m 0 #[.val (.ref p0), .val (.int 5)] []))
  refine G.iloadN H D7_0 (pc' := 1) rfl rfl ?_
  refine G.ifYes H D7_1 (by decide) (by decide) (pc' := 15) rfl ?_
  refine G.iloadN H D7_15 (pc' := 16) rfl rfl ?_
  refine G.iconst H D7_16 (pc' := 17) rfl (v := 1) rfl ?_
  refine G.icmpYes H D7_17 (by decide) (by decide) (pc' := 37) rfl ?_
  refine G.iloadN H D7_37 (pc' := 38) rfl rfl ?_
  refine G.iconst H D7_38 (pc' := 39) rfl (v := 2) rfl ?_
  refine G.icmpYes H D7_39 (by decide) (by decide) (pc' := 65) rfl ?_
  refine G.iloadN H D7_65 (pc' := 66) rfl rfl ?_
  refine G.iconst H D7_66 (pc' := 67) rfl (v := 3) rfl ?_
  refine G.icmpYes H D7_67 (by decide) (by decide) (pc' := 99) rfl ?_
  refine G.iloadN H D7_99 (pc' := 100) rfl rfl ?_
  refine G.iconst H D7_100 (pc' := 101) rfl (v := 4) rfl ?_
  refine G.icmpYes H D7_101 (by decide) (by decide) (pc' := 139) rfl ?_
  refine G.iloadN H D7_139 (pc' := 140) rfl rfl ?_
  refine G.iconst H D7_140 (pc' := 141) rfl (v := 5) rfl ?_
  refine G.icmpNo H D7_141 (pc' := 144) rfl (by decide) ?_
  refine G.new H (wd6 V) (wd7 V) (wd8 V) D7_144 (pc' := 147) rfl (by decide) (by decide) ?_
  intro T1 h1_ a2 ga2 H1 E3 A4 D5
  have na2 := H.nle ga2
  refine G.dup H1 D7_147 (pc' := 148) rfl rfl ?_
  refine G.iconst H1 D7_148 (pc' := 149) rfl (v := 5) rfl ?_
  refine G.newP H1 (aty := .char) (wd1 V) D7_149 (pc' := 151) rfl (by decide) (cap := 5) (by decide) (by decide) (by decide) (by decide) (vs := [(.int 0), (.int 0), (.int 0), (.int 0), (.int 0)]) rfl (ad := "[C") rfl ?_
  intro T6 h6_ a7 k10 ga7 H6 E8 A9 X11
  have na7 := H1.nle ga7
  replace A9 : Arv Z h6_ a7 k10 .char 5 [(.int 0), (.int 0), (.int 0), (.int 0), (.int 0)] (.int 0) := A9
  refine G.dup H6 D7_151 (pc' := 152) rfl rfl ?_
  refine G.iconst H6 D7_152 (pc' := 153) rfl (v := 0) rfl ?_
  refine G.aloadN H6 D7_153 (pc' := 154) rfl rfl rfl ?_
  refine G.iconst H6 D7_154 (pc' := 155) rfl (v := 0) rfl ?_
  have K12 : Keep h0 h6_ [] := (Keep.ext (Keep.ext (Keep.refl h0 []) E3) E8)
  have F13 := (Arv.keep f0 K12 nin0)
  refine G.caloadG H6 F13 (j := 0) (v := (.int x0)) (by decide) rfl D7_155 (pc' := 156) rfl ?_
  refine G.stC H6 A9 (by decide) (i := 0) rfl lB na7 (y := x0) (own_narC r1) D7_156 (pc' := 157) rfl ?_
  intro T14 h14_ H14 W15 A16
  replace A16 : Arv Z h14_ a7 k10 .char 5 [(.int x0), (.int 0), (.int 0), (.int 0), (.int 0)] (.int 0) := A16
  refine G.dup H14 D7_157 (pc' := 158) rfl rfl ?_
  refine G.iconst H14 D7_158 (pc' := 159) rfl (v := 1) rfl ?_
  refine G.aloadN H14 D7_159 (pc' := 160) rfl rfl rfl ?_
  refine G.iconst H14 D7_160 (pc' := 161) rfl (v := 1) rfl ?_
  have K17 : Keep h0 h1_ [] := (Keep.ext (Keep.refl h0 []) E3)
  have N18 : p0 ≠ a7 := (Nat.ne_of_lt (Nat.lt_of_lt_of_le (Nat.lt_of_lt_of_le f0.lt K17.1) (Nat.le_of_eq ga7.symm)))
  have F19 := (Arv.other F13 W15 N18)
  refine G.caloadG H14 F19 (j := 1) (v := (.int x1)) (by decide) rfl D7_161 (pc' := 162) rfl ?_
  refine G.stC H14 A16 (by decide) (i := 1) rfl lB na7 (y := x1) (own_narC r2) D7_162 (pc' := 163) rfl ?_
  intro T20 h20_ H20 W21 A22
  replace A22 : Arv Z h20_ a7 k10 .char 5 [(.int x0), (.int x1), (.int 0), (.int 0), (.int 0)] (.int 0) := A22
  refine G.dup H20 D7_163 (pc' := 164) rfl rfl ?_
  refine G.iconst H20 D7_164 (pc' := 165) rfl (v := 2) rfl ?_
  refine G.aloadN H20 D7_165 (pc' := 166) rfl rfl rfl ?_
  refine G.iconst H20 D7_166 (pc' := 167) rfl (v := 2) rfl ?_
  have F23 := (Arv.other F19 W21 N18)
  refine G.caloadG H20 F23 (j := 2) (v := (.int x2)) (by decide) rfl D7_167 (pc' := 168) rfl ?_
  refine G.stC H20 A22 (by decide) (i := 2) rfl lB na7 (y := x2) (own_narC r3) D7_168 (pc' := 169) rfl ?_
  intro T24 h24_ H24 W25 A26
  replace A26 : Arv Z h24_ a7 k10 .char 5 [(.int x0), (.int x1), (.int x2), (.int 0), (.int 0)] (.int 0) := A26
  refine G.dup H24 D7_169 (pc' := 170) rfl rfl ?_
  refine G.iconst H24 D7_170 (pc' := 171) rfl (v := 3) rfl ?_
  refine G.aloadN H24 D7_171 (pc' := 172) rfl rfl rfl ?_
  refine G.iconst H24 D7_172 (pc' := 173) rfl (v := 3) rfl ?_
  have F27 := (Arv.other F23 W25 N18)
  refine G.caloadG H24 F27 (j := 3) (v := (.int x3)) (by decide) rfl D7_173 (pc' := 174) rfl ?_
  refine G.stC H24 A26 (by decide) (i := 3) rfl lB na7 (y := x3) (own_narC r4) D7_174 (pc' := 175) rfl ?_
  intro T28 h28_ H28 W29 A30
  replace A30 : Arv Z h28_ a7 k10 .char 5 [(.int x0), (.int x1), (.int x2), (.int x3), (.int 0)] (.int 0) := A30
  refine G.dup H28 D7_175 (pc' := 176) rfl rfl ?_
  refine G.iconst H28 D7_176 (pc' := 177) rfl (v := 4) rfl ?_
  refine G.aloadN H28 D7_177 (pc' := 178) rfl rfl rfl ?_
  refine G.iconst H28 D7_178 (pc' := 179) rfl (v := 4) rfl ?_
  have F31 := (Arv.other F27 W29 N18)
  refine G.caloadG H28 F31 (j := 4) (v := (.int x4)) (by decide) rfl D7_179 (pc' := 180) rfl ?_
  refine G.stC H28 A30 (by decide) (i := 4) rfl lB na7 (y := x4) (own_narC r5) D7_180 (pc' := 181) rfl ?_
  intro T32 h32_ H32 W33 A34
  replace A34 : Arv Z h32_ a7 k10 .char 5 [(.int x0), (.int x1), (.int x2), (.int x3), (.int x4)] (.int 0) := A34
  have K35 : Keep h1_ h32_ [] := (Keep.wr (Keep.wr (Keep.wr (Keep.wr (Keep.wr (Keep.ext (Keep.refl h1_ []) E8) W15 (Or.inr (Nat.le_of_eq ga7.symm))) W21 (Or.inr (Nat.le_of_eq ga7.symm))) W25 (Or.inr (Nat.le_of_eq ga7.symm))) W29 (Or.inr (Nat.le_of_eq ga7.symm))) W33 (Or.inr (Nat.le_of_eq ga7.symm)))
  have F36 := (Exa.keep A4 K35)
  have F37 : Fld Z h1_ a2 "java/lang/String" "value" "[B" .null := D5 (Or.inr (wd21 V)) (ty := (.array .byte)) (by decide)
  have F38 := (Fld.keep F37 K35 nin0)
  have F39 : Fld Z h1_ a2 "java/lang/String" "coder" "B" (.int 0) := D5 (Or.inr (wd22 V)) (ty := .byte) (by decide)
  have F40 := (Fld.keep F39 K35 nin0)
  refine G.newStr H32 (strw V) (wd7 V) (wd9 V) (wd10 V) (cs := [x0, x1, x2, x3, x4]) (n := 5) na2 F36 F38 F40 A34 (hv0 V) (hv1 V) rfl rfl (by decide) (by decide) (cbS r10 (cbS r9 (cbS r8 (cbS r7 (cbS r6 cb0))))) (Sf.mem (mG (i := 1) rfl)) (rest := [(.ref a2)]) (W := 1) rfl rfl D7_181 (pc' := 184) rfl (by decide) (by decide) (by decide) (by decide) ?_
  intro T41 h41_ t42 k43 g46 H41 K44 S45
  have nt42 : n0 ≤ t42 := Nat.le_trans H32.le g46
  have K47 : Keep h0 h41_ [] := (Keep.trans (Keep.wr (Keep.wr (Keep.wr (Keep.wr (Keep.wr (Keep.ext (Keep.ext (Keep.refl h0 []) E3) E8) W15 (Or.inr (Nat.le_trans K17.1 (Nat.le_of_eq ga7.symm)))) W21 (Or.inr (Nat.le_trans K17.1 (Nat.le_of_eq ga7.symm)))) W25 (Or.inr (Nat.le_trans K17.1 (Nat.le_of_eq ga7.symm)))) W29 (Or.inr (Nat.le_trans K17.1 (Nat.le_of_eq ga7.symm)))) W33 (Or.inr (Nat.le_trans K17.1 (Nat.le_of_eq ga7.symm)))) K44 (allS (Or.inr (Nat.le_of_eq ga2.symm)) all0))
  exact G.retA H41 (t := (.object "java/lang/String")) rfl rfl rfl D7_184 (so := [a2, t42]) (allS (mG (i := 2) rfl) (allS (mG (i := 0) rfl) all0)) (by decide) (by decide) ⟨a2, t42, k43, rfl, rfl, K47, (Nat.le_of_eq ga2.symm), (Nat.lt_of_lt_of_le (Nat.lt_of_lt_of_le A4.lt K35.1) g46), S45⟩
set_option maxRecDepth 65536 in
set_option maxHeartbeats 40000000 in
theorem m14_apply (V : Env1 Z a0 n0 uu0 uu1) (p0 : Addr) (p1 : Addr) (c0 : ClassId) (x0 : Int32) (x1 : Int32) (x2 : Int32) (x3 : Int32) (x4 : Int32) (h0 : Heap) (hO : Old Z n0 h0) (f0 : Str Z h0 p0 p1 c0 [x0, x1, x2, x3, x4]) :
    Met Z a0 ELs True n0 l (⟨"bindery/server/stomp/HeaderEscapes", "apply", "(Ljava/lang/String;)Z"⟩ : MethodName) prog_84_method_2_code 1 (Option.some FieldType.boolean) ({ frames := 2, cells := 4, slots := 72, locals := 28 } : Room) #[(.ref p0)] h0 [p0, p1] (fun v h so => (v = some (.int 1) ∧ so = [] ∧ Keep h0 h [])) := by
  refine Met.of (EWl V) (by first | decide +kernel | rfl) hO (L0 := #[.val (.ref p0)]) rfl ?_
  intro p e s m below meth c T H
  show Go p e below _ (T.setTop (mkF m 0 #[.val (.ref p0)] []))
  refine G.aloadN H D8_0 (pc' := 1) rfl rfl rfl ?_
  refine G.ldcS H trivial (wS V) (wd31 V) (by decide) (vs := [(.int 67), (.int 79), (.int 78), (.int 78), (.int 69), (.int 67), (.int 84)]) (z := 7) (by decide) (by decide) rfl (n := 28) (by decide) (by decide) (by decide) (by decide) D8_1 (pc' := 3) rfl ?_
  intro T1 h1_ a2 b4 k5 H1 E3 X6 F7 F8 A9 Q10
  have S11 : Str Z h1_ a2 b4 k5 [67, 79, 78, 78, 69, 67, 84] := ⟨X6, F7, F8, A9, by decide, by decide⟩
  have F12 := (Str.ext E3 f0)
  refine G.strEq H1 (strwEq V) (wd7 V) (wd32 V) (wd33 V) (wd35 V) (wd34 V) F12 S11 (hv0 V) (hv1 V) (rest := []) (W := 0) rfl rfl D8_3 (pc' := 6) rfl (by decide) (by decide) (by decide) (by decide) ?_ ?_
  ·
    intro T13 H14 c15
    exact absurd c15 (by intro qq; simp at qq)
  ·
    intro T16 H17 c18
    refine G.ifNo H17 D8_6 (pc' := 9) rfl (by decide) ?_
    refine G.aloadN H17 D8_9 (pc' := 10) rfl rfl rfl ?_
    refine G.ldcS H17 trivial (wS V) (wd43 V) (by decide) (vs := [(.int 67), (.int 79), (.int 78), (.int 78), (.int 69), (.int 67), (.int 84), (.int 69), (.int 68)]) (z := 9) (by decide) (by decide) rfl (n := 36) (by decide) (by decide) (by decide) (by decide) D8_10 (pc' := 12) rfl ?_
    intro T19 h19_ a20 b22 k23 H19 E21 X24 F25 F26 A27 Q28
    have S29 : Str Z h19_ a20 b22 k23 [67, 79, 78, 78, 69, 67, 84, 69, 68] := ⟨X24, F25, F26, A27, by decide, by decide⟩
    have F30 := (Str.ext E21 F12)
    refine G.strEq H19 (strwEq V) (wd7 V) (wd32 V) (wd33 V) (wd35 V) (wd34 V) F30 S29 (hv0 V) (hv1 V) (rest := []) (W := 0) rfl rfl D8_12 (pc' := 15) rfl (by decide) (by decide) (by decide) (by decide) ?_ ?_
    ·
      intro T31 H32 c33
      exact absurd c33 (by intro qq; simp at qq)
    ·
      intro T34 H35 c36
      refine G.ifNo H35 D8_15 (pc' := 18) rfl (by decide) ?_
      refine G.iconst H35 D8_18 (pc' := 19) rfl (v := 1) rfl ?_
      refine G.goto H35 D8_19 (by decide) (pc' := 23) rfl ?_
      have K37 : Keep h0 h19_ [] := (Keep.ext (Keep.ext (Keep.refl h0 []) E3) E21)
      exact G.retN H35 (t := .boolean) rfl (by decide) D8_23 (so := []) all0 (by decide) (by decide) ⟨rfl, rfl, K37⟩
set_option maxRecDepth 65536 in
set_option maxHeartbeats 40000000 in
theorem m15_cut (V : Env1 Z a0 n0 uu0 uu1) (p0 : Addr) (c0 : ClassId) (x0 : Int32) (x1 : Int32) (x2 : Int32) (x3 : Int32) (x4 : Int32) (x5 : Int32) (x6 : Int32) (x7 : Int32) (x8 : Int32) (x9 : Int32) (h0 : Heap) (hO : Old Z n0 h0) (f0 : Arv Z h0 p0 c0 .char 10 [(.int x0), (.int x1), (.int x2), (.int x3), (.int x4), (.int x5), (.int x6), (.int x7), (.int x8), (.int x9)] (.int 0)) (r1 : ¬ x0 < 0 ∧ ¬ 65535 < x0) (r2 : ¬ x1 < 0 ∧ ¬ 65535 < x1) (r3 : ¬ x2 < 0 ∧ ¬ 65535 < x2) (r4 : ¬ x3 < 0 ∧ ¬ 65535 < x3) (r5 : ¬ x4 < 0 ∧ ¬ 65535 < x4) (r6 : ¬ x5 < 0 ∧ ¬ 65535 < x5) (r7 : ¬ x5 < 0 ∧ ¬ 255 < x5) (r8 : ¬ x4 < 0 ∧ ¬ 255 < x4) (r9 : ¬ x3 < 0 ∧ ¬ 255 < x3) (r10 : ¬ x2 < 0 ∧ ¬ 255 < x2) (r11 : ¬ x1 < 0 ∧ ¬ 255 < x1) (r12 : ¬ x0 < 0 ∧ ¬ 255 < x0) :
    Met Z a0 ELs True n0 l (⟨"bindery/server/stomp/HeaderEscapesApplyPinLaw", "cut", "([CI)Ljava/lang/String;"⟩ : MethodName) method_3_code 2 (Option.some (FieldType.object "java/lang/String")) ({ frames := 4, cells := 3, slots := 16, locals := 66 } : Room) #[(.ref p0), (.int 6)] h0 [] (fun v h so => (∃ a2 t46 : Addr, ∃ k47 : ClassId, v = some (.ref a2) ∧ so = [a2, t46] ∧ Keep h0 h [] ∧ h0.size ≤ a2 ∧ a2 < t46 ∧ Str Z h a2 t46 k47 [x0, x1, x2, x3, x4, x5])) := by
  refine Met.of (EWl V) (by first | decide +kernel | rfl) hO (L0 := #[.val (.ref p0), .val (.int 6)]) rfl ?_
  intro p e s m below meth c T H
  show Go p e below _ (T.setTop (mkF m 0 #[.val (.ref p0), .val (.int 6)] []))
  refine G.iloadN H D7_0 (pc' := 1) rfl rfl ?_
  refine G.ifYes H D7_1 (by decide) (by decide) (pc' := 15) rfl ?_
  refine G.iloadN H D7_15 (pc' := 16) rfl rfl ?_
  refine G.iconst H D7_16 (pc' := 17) rfl (v := 1) rfl ?_
  refine G.icmpYes H D7_17 (by decide) (by decide) (pc' := 37) rfl ?_
  refine G.iloadN H D7_37 (pc' := 38) rfl rfl ?_
  refine G.iconst H D7_38 (pc' := 39) rfl (v := 2) rfl ?_
  refine G.icmpYes H D7_39 (by decide) (by decide) (pc' := 65) rfl ?_
  refine G.iloadN H D7_65 (pc' := 66) rfl rfl ?_
  refine G.iconst H D7_66 (pc' := 67) rfl (v := 3) rfl ?_
  refine G.icmpYes H D7_67 (by decide) (by decide) (pc' := 99) rfl ?_
  refine G.iloadN H D7_99 (pc' := 100) rfl rfl ?_
  refine G.iconst H D7_100 (pc' := 101) rfl (v := 4) rfl ?_
  refine G.icmpYes H D7_101 (by decide) (by decide) (pc' := 139) rfl ?_
  refine G.iloadN H D7_139 (pc' := 140) rfl rfl ?_
  refine G.iconst H D7_140 (pc' := 141) rfl (v := 5) rfl ?_
  refine G.icmpYes H D7_141 (by decide) (by decide) (pc' := 185) rfl ?_
  refine G.iloadN H D7_185 (pc' := 186) rfl rfl ?_
  refine G.bipush H D7_186 (pc' := 188) rfl (v := 6) rfl ?_
  refine G.icmpNo H D7_188 (pc' := 191) rfl (by decide) ?_
  refine G.new H (wd6 V) (wd7 V) (wd8 V) D7_191 (pc' := 194) rfl (by decide) (by decide) ?_
  intro T1 h1_ a2 ga2 H1 E3 A4 D5
  have na2 := H.nle ga2
  refine G.dup H1 D7_194 (pc' := 195) rfl rfl ?_
  refine G.bipush H1 D7_195 (pc' := 197) rfl (v := 6) rfl ?_
  refine G.newP H1 (aty := .char) (wd1 V) D7_197 (pc' := 199) rfl (by decide) (cap := 6) (by decide) (by decide) (by decide) (by decide) (vs := [(.int 0), (.int 0), (.int 0), (.int 0), (.int 0), (.int 0)]) rfl (ad := "[C") rfl ?_
  intro T6 h6_ a7 k10 ga7 H6 E8 A9 X11
  have na7 := H1.nle ga7
  replace A9 : Arv Z h6_ a7 k10 .char 6 [(.int 0), (.int 0), (.int 0), (.int 0), (.int 0), (.int 0)] (.int 0) := A9
  refine G.dup H6 D7_199 (pc' := 200) rfl rfl ?_
  refine G.iconst H6 D7_200 (pc' := 201) rfl (v := 0) rfl ?_
  refine G.aloadN H6 D7_201 (pc' := 202) rfl rfl rfl ?_
  refine G.iconst H6 D7_202 (pc' := 203) rfl (v := 0) rfl ?_
  have K12 : Keep h0 h6_ [] := (Keep.ext (Keep.ext (Keep.refl h0 []) E3) E8)
  have F13 := (Arv.keep f0 K12 nin0)
  refine G.caloadG H6 F13 (j := 0) (v := (.int x0)) (by decide) rfl D7_203 (pc' := 204) rfl ?_
  refine G.stC H6 A9 (by decide) (i := 0) rfl lB na7 (y := x0) (own_narC r1) D7_204 (pc' := 205) rfl ?_
  intro T14 h14_ H14 W15 A16
  replace A16 : Arv Z h14_ a7 k10 .char 6 [(.int x0), (.int 0), (.int 0), (.int 0), (.int 0), (.int 0)] (.int 0) := A16
  refine G.dup H14 D7_205 (pc' := 206) rfl rfl ?_
  refine G.iconst H14 D7_206 (pc' := 207) rfl (v := 1) rfl ?_
  refine G.aloadN H14 D7_207 (pc' := 208) rfl rfl rfl ?_
  refine G.iconst H14 D7_208 (pc' := 209) rfl (v := 1) rfl ?_
  have K17 : Keep h0 h1_ [] := (Keep.ext (Keep.refl h0 []) E3)
  have N18 : p0 ≠ a7 := (Nat.ne_of_lt (Nat.lt_of_lt_of_le (Nat.lt_of_lt_of_le f0.lt K17.1) (Nat.le_of_eq ga7.symm)))
  have F19 := (Arv.other F13 W15 N18)
  refine G.caloadG H14 F19 (j := 1) (v := (.int x1)) (by decide) rfl D7_209 (pc' := 210) rfl ?_
  refine G.stC H14 A16 (by decide) (i := 1) rfl lB na7 (y := x1) (own_narC r2) D7_210 (pc' := 211) rfl ?_
  intro T20 h20_ H20 W21 A22
  replace A22 : Arv Z h20_ a7 k10 .char 6 [(.int x0), (.int x1), (.int 0), (.int 0), (.int 0), (.int 0)] (.int 0) := A22
  refine G.dup H20 D7_211 (pc' := 212) rfl rfl ?_
  refine G.iconst H20 D7_212 (pc' := 213) rfl (v := 2) rfl ?_
  refine G.aloadN H20 D7_213 (pc' := 214) rfl rfl rfl ?_
  refine G.iconst H20 D7_214 (pc' := 215) rfl (v := 2) rfl ?_
  have F23 := (Arv.other F19 W21 N18)
  refine G.caloadG H20 F23 (j := 2) (v := (.int x2)) (by decide) rfl D7_215 (pc' := 216) rfl ?_
  refine G.stC H20 A22 (by decide) (i := 2) rfl lB na7 (y := x2) (own_narC r3) D7_216 (pc' := 217) rfl ?_
  intro T24 h24_ H24 W25 A26
  replace A26 : Arv Z h24_ a7 k10 .char 6 [(.int x0), (.int x1), (.int x2), (.int 0), (.int 0), (.int 0)] (.int 0) := A26
  refine G.dup H24 D7_217 (pc' := 218) rfl rfl ?_
  refine G.iconst H24 D7_218 (pc' := 219) rfl (v := 3) rfl ?_
  refine G.aloadN H24 D7_219 (pc' := 220) rfl rfl rfl ?_
  refine G.iconst H24 D7_220 (pc' := 221) rfl (v := 3) rfl ?_
  have F27 := (Arv.other F23 W25 N18)
  refine G.caloadG H24 F27 (j := 3) (v := (.int x3)) (by decide) rfl D7_221 (pc' := 222) rfl ?_
  refine G.stC H24 A26 (by decide) (i := 3) rfl lB na7 (y := x3) (own_narC r4) D7_222 (pc' := 223) rfl ?_
  intro T28 h28_ H28 W29 A30
  replace A30 : Arv Z h28_ a7 k10 .char 6 [(.int x0), (.int x1), (.int x2), (.int x3), (.int 0), (.int 0)] (.int 0) := A30
  refine G.dup H28 D7_223 (pc' := 224) rfl rfl ?_
  refine G.iconst H28 D7_224 (pc' := 225) rfl (v := 4) rfl ?_
  refine G.aloadN H28 D7_225 (pc' := 226) rfl rfl rfl ?_
  refine G.iconst H28 D7_226 (pc' := 227) rfl (v := 4) rfl ?_
  have F31 := (Arv.other F27 W29 N18)
  refine G.caloadG H28 F31 (j := 4) (v := (.int x4)) (by decide) rfl D7_227 (pc' := 228) rfl ?_
  refine G.stC H28 A30 (by decide) (i := 4) rfl lB na7 (y := x4) (own_narC r5) D7_228 (pc' := 229) rfl ?_
  intro T32 h32_ H32 W33 A34
  replace A34 : Arv Z h32_ a7 k10 .char 6 [(.int x0), (.int x1), (.int x2), (.int x3), (.int x4), (.int 0)] (.int 0) := A34
  refine G.dup H32 D7_229 (pc' := 230) rfl rfl ?_
  refine G.iconst H32 D7_230 (pc' := 231) rfl (v := 5) rfl ?_
  refine G.aloadN H32 D7_231 (pc' := 232) rfl rfl rfl ?_
  refine G.iconst H32 D7_232 (pc' := 233) rfl (v := 5) rfl ?_
  have F35 := (Arv.other F31 W33 N18)
  refine G.caloadG H32 F35 (j := 5) (v := (.int x5)) (by decide) rfl D7_233 (pc' := 234) rfl ?_
  refine G.stC H32 A34 (by decide) (i := 5) rfl lB na7 (y := x5) (own_narC r6) D7_234 (pc' := 235) rfl ?_
  intro T36 h36_ H36 W37 A38
  replace A38 : Arv Z h36_ a7 k10 .char 6 [(.int x0), (.int x1), (.int x2), (.int x3), (.int x4), (.int x5)] (.int 0) := A38
  have K39 : Keep h1_ h36_ [] := (Keep.wr (Keep.wr (Keep.wr (Keep.wr (Keep.wr (Keep.wr (Keep.ext (Keep.refl h1_ []) E8) W15 (Or.inr (Nat.le_of_eq ga7.symm))) W21 (Or.inr (Nat.le_of_eq ga7.symm))) W25 (Or.inr (Nat.le_of_eq ga7.symm))) W29 (Or.inr (Nat.le_of_eq ga7.symm))) W33 (Or.inr (Nat.le_of_eq ga7.symm))) W37 (Or.inr (Nat.le_of_eq ga7.symm)))
  have F40 := (Exa.keep A4 K39)
  have F41 : Fld Z h1_ a2 "java/lang/String" "value" "[B" .null := D5 (Or.inr (wd21 V)) (ty := (.array .byte)) (by decide)
  have F42 := (Fld.keep F41 K39 nin0)
  have F43 : Fld Z h1_ a2 "java/lang/String" "coder" "B" (.int 0) := D5 (Or.inr (wd22 V)) (ty := .byte) (by decide)
  have F44 := (Fld.keep F43 K39 nin0)
  refine G.newStr H36 (strw V) (wd7 V) (wd9 V) (wd10 V) (cs := [x0, x1, x2, x3, x4, x5]) (n := 6) na2 F40 F42 F44 A38 (hv0 V) (hv1 V) rfl rfl (by decide) (by decide) (cbS r12 (cbS r11 (cbS r10 (cbS r9 (cbS r8 (cbS r7 cb0)))))) (Sf.mem (mG (i := 1) rfl)) (rest := [(.ref a2)]) (W := 1) rfl rfl D7_235 (pc' := 238) rfl (by decide) (by decide) (by decide) (by decide) ?_
  intro T45 h45_ t46 k47 g50 H45 K48 S49
  have nt46 : n0 ≤ t46 := Nat.le_trans H36.le g50
  have K51 : Keep h0 h45_ [] := (Keep.trans (Keep.wr (Keep.wr (Keep.wr (Keep.wr (Keep.wr (Keep.wr (Keep.ext (Keep.ext (Keep.refl h0 []) E3) E8) W15 (Or.inr (Nat.le_trans K17.1 (Nat.le_of_eq ga7.symm)))) W21 (Or.inr (Nat.le_trans K17.1 (Nat.le_of_eq ga7.symm)))) W25 (Or.inr (Nat.le_trans K17.1 (Nat.le_of_eq ga7.symm)))) W29 (Or.inr (Nat.le_trans K17.1 (Nat.le_of_eq ga7.symm)))) W33 (Or.inr (Nat.le_trans K17.1 (Nat.le_of_eq ga7.symm)))) W37 (Or.inr (Nat.le_trans K17.1 (Nat.le_of_eq ga7.symm)))) K48 (allS (Or.inr (Nat.le_of_eq ga2.symm)) all0))
  exact G.retA H45 (t := (.object "java/lang/String")) rfl rfl rfl D7_238 (so := [a2, t46]) (allS (mG (i := 2) rfl) (allS (mG (i := 0) rfl) all0)) (by decide) (by decide) ⟨a2, t46, k47, rfl, rfl, K51, (Nat.le_of_eq ga2.symm), (Nat.lt_of_lt_of_le (Nat.lt_of_lt_of_le A4.lt K39.1) g50), S49⟩
set_option maxRecDepth 65536 in
set_option maxHeartbeats 40000000 in
theorem m16_apply (V : Env1 Z a0 n0 uu0 uu1) (p0 : Addr) (p1 : Addr) (c0 : ClassId) (x0 : Int32) (x1 : Int32) (x2 : Int32) (x3 : Int32) (x4 : Int32) (x5 : Int32) (h0 : Heap) (hO : Old Z n0 h0) (f0 : Str Z h0 p0 p1 c0 [x0, x1, x2, x3, x4, x5]) :
    Met Z a0 ELs True n0 l (⟨"bindery/server/stomp/HeaderEscapes", "apply", "(Ljava/lang/String;)Z"⟩ : MethodName) prog_84_method_2_code 1 (Option.some FieldType.boolean) ({ frames := 2, cells := 4, slots := 72, locals := 28 } : Room) #[(.ref p0)] h0 [p0, p1] (fun v h so => (v = some (.int 1) ∧ so = [] ∧ Keep h0 h [])) := by
  refine Met.of (EWl V) (by first | decide +kernel | rfl) hO (L0 := #[.val (.ref p0)]) rfl ?_
  intro p e s m below meth c T H
  show Go p e below _ (T.setTop (mkF m 0 #[.val (.ref p0)] []))
  refine G.aloadN H D8_0 (pc' := 1) rfl rfl rfl ?_
  refine G.ldcS H trivial (wS V) (wd31 V) (by decide) (vs := [(.int 67), (.int 79), (.int 78), (.int 78), (.int 69), (.int 67), (.int 84)]) (z := 7) (by decide) (by decide) rfl (n := 28) (by decide) (by decide) (by decide) (by decide) D8_1 (pc' := 3) rfl ?_
  intro T1 h1_ a2 b4 k5 H1 E3 X6 F7 F8 A9 Q10
  have S11 : Str Z h1_ a2 b4 k5 [67, 79, 78, 78, 69, 67, 84] := ⟨X6, F7, F8, A9, by decide, by decide⟩
  have F12 := (Str.ext E3 f0)
  refine G.strEq H1 (strwEq V) (wd7 V) (wd32 V) (wd33 V) (wd35 V) (wd34 V) F12 S11 (hv0 V) (hv1 V) (rest := []) (W := 0) rfl rfl D8_3 (pc' := 6) rfl (by decide) (by decide) (by decide) (by decide) ?_ ?_
  ·
    intro T13 H14 c15
    exact absurd c15 (by intro qq; simp at qq)
  ·
    intro T16 H17 c18
    refine G.ifNo H17 D8_6 (pc' := 9) rfl (by decide) ?_
    refine G.aloadN H17 D8_9 (pc' := 10) rfl rfl rfl ?_
    refine G.ldcS H17 trivial (wS V) (wd43 V) (by decide) (vs := [(.int 67), (.int 79), (.int 78), (.int 78), (.int 69), (.int 67), (.int 84), (.int 69), (.int 68)]) (z := 9) (by decide) (by decide) rfl (n := 36) (by decide) (by decide) (by decide) (by decide) D8_10 (pc' := 12) rfl ?_
    intro T19 h19_ a20 b22 k23 H19 E21 X24 F25 F26 A27 Q28
    have S29 : Str Z h19_ a20 b22 k23 [67, 79, 78, 78, 69, 67, 84, 69, 68] := ⟨X24, F25, F26, A27, by decide, by decide⟩
    have F30 := (Str.ext E21 F12)
    refine G.strEq H19 (strwEq V) (wd7 V) (wd32 V) (wd33 V) (wd35 V) (wd34 V) F30 S29 (hv0 V) (hv1 V) (rest := []) (W := 0) rfl rfl D8_12 (pc' := 15) rfl (by decide) (by decide) (by decide) (by decide) ?_ ?_
    ·
      intro T31 H32 c33
      exact absurd c33 (by intro qq; simp at qq)
    ·
      intro T34 H35 c36
      refine G.ifNo H35 D8_15 (pc' := 18) rfl (by decide) ?_
      refine G.iconst H35 D8_18 (pc' := 19) rfl (v := 1) rfl ?_
      refine G.goto H35 D8_19 (by decide) (pc' := 23) rfl ?_
      have K37 : Keep h0 h19_ [] := (Keep.ext (Keep.ext (Keep.refl h0 []) E3) E21)
      exact G.retN H35 (t := .boolean) rfl (by decide) D8_23 (so := []) all0 (by decide) (by decide) ⟨rfl, rfl, K37⟩
set_option maxRecDepth 65536 in
set_option maxHeartbeats 40000000 in
theorem m17_cut (V : Env1 Z a0 n0 uu0 uu1) (p0 : Addr) (c0 : ClassId) (x0 : Int32) (x1 : Int32) (x2 : Int32) (x3 : Int32) (x4 : Int32) (x5 : Int32) (x6 : Int32) (x7 : Int32) (x8 : Int32) (x9 : Int32) (h0 : Heap) (hO : Old Z n0 h0) (f0 : Arv Z h0 p0 c0 .char 10 [(.int x0), (.int x1), (.int x2), (.int x3), (.int x4), (.int x5), (.int x6), (.int x7), (.int x8), (.int x9)] (.int 0)) (r1 : ¬ x0 < 0 ∧ ¬ 65535 < x0) (r2 : ¬ x1 < 0 ∧ ¬ 65535 < x1) (r3 : ¬ x2 < 0 ∧ ¬ 65535 < x2) (r4 : ¬ x3 < 0 ∧ ¬ 65535 < x3) (r5 : ¬ x4 < 0 ∧ ¬ 65535 < x4) (r6 : ¬ x5 < 0 ∧ ¬ 65535 < x5) (r7 : ¬ x6 < 0 ∧ ¬ 65535 < x6) (r8 : ¬ x6 < 0 ∧ ¬ 255 < x6) (r9 : ¬ x5 < 0 ∧ ¬ 255 < x5) (r10 : ¬ x4 < 0 ∧ ¬ 255 < x4) (r11 : ¬ x3 < 0 ∧ ¬ 255 < x3) (r12 : ¬ x2 < 0 ∧ ¬ 255 < x2) (r13 : ¬ x1 < 0 ∧ ¬ 255 < x1) (r14 : ¬ x0 < 0 ∧ ¬ 255 < x0) :
    Met Z a0 ELs True n0 l (⟨"bindery/server/stomp/HeaderEscapesApplyPinLaw", "cut", "([CI)Ljava/lang/String;"⟩ : MethodName) method_3_code 2 (Option.some (FieldType.object "java/lang/String")) ({ frames := 4, cells := 3, slots := 18, locals := 66 } : Room) #[(.ref p0), (.int 7)] h0 [] (fun v h so => (∃ a2 t50 : Addr, ∃ k51 : ClassId, v = some (.ref a2) ∧ so = [a2, t50] ∧ Keep h0 h [] ∧ h0.size ≤ a2 ∧ a2 < t50 ∧ Str Z h a2 t50 k51 [x0, x1, x2, x3, x4, x5, x6])) := by
  refine Met.of (EWl V) (by first | decide +kernel | rfl) hO (L0 := #[.val (.ref p0), .val (.int 7)]) rfl ?_
  intro p e s m below meth c T H
  show Go p e below _ (T.setTop (mkF m 0 #[.val (.ref p0), .val (.int 7)] []))
  refine G.iloadN H D7_0 (pc' := 1) rfl rfl ?_
  refine G.ifYes H D7_1 (by decide) (by decide) (pc' := 15) rfl ?_
  refine G.iloadN H D7_15 (pc' := 16) rfl rfl ?_
  refine G.iconst H D7_16 (pc' := 17) rfl (v := 1) rfl ?_
  refine G.icmpYes H D7_17 (by decide) (by decide) (pc' := 37) rfl ?_
  refine G.iloadN H D7_37 (pc' := 38) rfl rfl ?_
  refine G.iconst H D7_38 (pc' := 39) rfl (v := 2) rfl ?_
  refine G.icmpYes H D7_39 (by decide) (by decide) (pc' := 65) rfl ?_
  refine G.iloadN H D7_65 (pc' := 66) rfl rfl ?_
  refine G.iconst H D7_66 (pc' := 67) rfl (v := 3) rfl ?_
  refine G.icmpYes H D7_67 (by decide) (by decide) (pc' := 99) rfl ?_
  refine G.iloadN H D7_99 (pc' := 100) rfl rfl ?_
  refine G.iconst H D7_100 (pc' := 101) rfl (v := 4) rfl ?_
  refine G.icmpYes H D7_101 (by decide) (by decide) (pc' := 139) rfl ?_
  refine G.iloadN H D7_139 (pc' := 140) rfl rfl ?_
  refine G.iconst H D7_140 (pc' := 141) rfl (v := 5) rfl ?_
  refine G.icmpYes H D7_141 (by decide) (by decide) (pc' := 185) rfl ?_
  refine G.iloadN H D7_185 (pc' := 186) rfl rfl ?_
  refine G.bipush H D7_186 (pc' := 188) rfl (v := 6) rfl ?_
  refine G.icmpYes H D7_188 (by decide) (by decide) (pc' := 239) rfl ?_
  refine G.iloadN H D7_239 (pc' := 240) rfl rfl ?_
  refine G.bipush H D7_240 (pc' := 242) rfl (v := 7) rfl ?_
  refine G.icmpNo H D7_242 (pc' := 245) rfl (by decide) ?_
  refine G.new H (wd6 V) (wd7 V) (wd8 V) D7_245 (pc' := 248) rfl (by decide) (by decide) ?_
  intro T1 h1_ a2 ga2 H1 E3 A4 D5
  have na2 := H.nle ga2
  refine G.dup H1 D7_248 (pc' := 249) rfl rfl ?_
  refine G.bipush H1 D7_249 (pc' := 251) rfl (v := 7) rfl ?_
  refine G.newP H1 (aty := .char) (wd1 V) D7_251 (pc' := 253) rfl (by decide) (cap := 7) (by decide) (by decide) (by decide) (by decide) (vs := [(.int 0), (.int 0), (.int 0), (.int 0), (.int 0), (.int 0), (.int 0)]) rfl (ad := "[C") rfl ?_
  intro T6 h6_ a7 k10 ga7 H6 E8 A9 X11
  have na7 := H1.nle ga7
  replace A9 : Arv Z h6_ a7 k10 .char 7 [(.int 0), (.int 0), (.int 0), (.int 0), (.int 0), (.int 0), (.int 0)] (.int 0) := A9
  refine G.dup H6 D7_253 (pc' := 254) rfl rfl ?_
  refine G.iconst H6 D7_254 (pc' := 255) rfl (v := 0) rfl ?_
  refine G.aloadN H6 D7_255 (pc' := 256) rfl rfl rfl ?_
  refine G.iconst H6 D7_256 (pc' := 257) rfl (v := 0) rfl ?_
  have K12 : Keep h0 h6_ [] := (Keep.ext (Keep.ext (Keep.refl h0 []) E3) E8)
  have F13 := (Arv.keep f0 K12 nin0)
  refine G.caloadG H6 F13 (j := 0) (v := (.int x0)) (by decide) rfl D7_257 (pc' := 258) rfl ?_
  refine G.stC H6 A9 (by decide) (i := 0) rfl lB na7 (y := x0) (own_narC r1) D7_258 (pc' := 259) rfl ?_
  intro T14 h14_ H14 W15 A16
  replace A16 : Arv Z h14_ a7 k10 .char 7 [(.int x0), (.int 0), (.int 0), (.int 0), (.int 0), (.int 0), (.int 0)] (.int 0) := A16
  refine G.dup H14 D7_259 (pc' := 260) rfl rfl ?_
  refine G.iconst H14 D7_260 (pc' := 261) rfl (v := 1) rfl ?_
  refine G.aloadN H14 D7_261 (pc' := 262) rfl rfl rfl ?_
  refine G.iconst H14 D7_262 (pc' := 263) rfl (v := 1) rfl ?_
  have K17 : Keep h0 h1_ [] := (Keep.ext (Keep.refl h0 []) E3)
  have N18 : p0 ≠ a7 := (Nat.ne_of_lt (Nat.lt_of_lt_of_le (Nat.lt_of_lt_of_le f0.lt K17.1) (Nat.le_of_eq ga7.symm)))
  have F19 := (Arv.other F13 W15 N18)
  refine G.caloadG H14 F19 (j := 1) (v := (.int x1)) (by decide) rfl D7_263 (pc' := 264) rfl ?_
  refine G.stC H14 A16 (by decide) (i := 1) rfl lB na7 (y := x1) (own_narC r2) D7_264 (pc' := 265) rfl ?_
  intro T20 h20_ H20 W21 A22
  replace A22 : Arv Z h20_ a7 k10 .char 7 [(.int x0), (.int x1), (.int 0), (.int 0), (.int 0), (.int 0), (.int 0)] (.int 0) := A22
  refine G.dup H20 D7_265 (pc' := 266) rfl rfl ?_
  refine G.iconst H20 D7_266 (pc' := 267) rfl (v := 2) rfl ?_
  refine G.aloadN H20 D7_267 (pc' := 268) rfl rfl rfl ?_
  refine G.iconst H20 D7_268 (pc' := 269) rfl (v := 2) rfl ?_
  have F23 := (Arv.other F19 W21 N18)
  refine G.caloadG H20 F23 (j := 2) (v := (.int x2)) (by decide) rfl D7_269 (pc' := 270) rfl ?_
  refine G.stC H20 A22 (by decide) (i := 2) rfl lB na7 (y := x2) (own_narC r3) D7_270 (pc' := 271) rfl ?_
  intro T24 h24_ H24 W25 A26
  replace A26 : Arv Z h24_ a7 k10 .char 7 [(.int x0), (.int x1), (.int x2), (.int 0), (.int 0), (.int 0), (.int 0)] (.int 0) := A26
  refine G.dup H24 D7_271 (pc' := 272) rfl rfl ?_
  refine G.iconst H24 D7_272 (pc' := 273) rfl (v := 3) rfl ?_
  refine G.aloadN H24 D7_273 (pc' := 274) rfl rfl rfl ?_
  refine G.iconst H24 D7_274 (pc' := 275) rfl (v := 3) rfl ?_
  have F27 := (Arv.other F23 W25 N18)
  refine G.caloadG H24 F27 (j := 3) (v := (.int x3)) (by decide) rfl D7_275 (pc' := 276) rfl ?_
  refine G.stC H24 A26 (by decide) (i := 3) rfl lB na7 (y := x3) (own_narC r4) D7_276 (pc' := 277) rfl ?_
  intro T28 h28_ H28 W29 A30
  replace A30 : Arv Z h28_ a7 k10 .char 7 [(.int x0), (.int x1), (.int x2), (.int x3), (.int 0), (.int 0), (.int 0)] (.int 0) := A30
  refine G.dup H28 D7_277 (pc' := 278) rfl rfl ?_
  refine G.iconst H28 D7_278 (pc' := 279) rfl (v := 4) rfl ?_
  refine G.aloadN H28 D7_279 (pc' := 280) rfl rfl rfl ?_
  refine G.iconst H28 D7_280 (pc' := 281) rfl (v := 4) rfl ?_
  have F31 := (Arv.other F27 W29 N18)
  refine G.caloadG H28 F31 (j := 4) (v := (.int x4)) (by decide) rfl D7_281 (pc' := 282) rfl ?_
  refine G.stC H28 A30 (by decide) (i := 4) rfl lB na7 (y := x4) (own_narC r5) D7_282 (pc' := 283) rfl ?_
  intro T32 h32_ H32 W33 A34
  replace A34 : Arv Z h32_ a7 k10 .char 7 [(.int x0), (.int x1), (.int x2), (.int x3), (.int x4), (.int 0), (.int 0)] (.int 0) := A34
  refine G.dup H32 D7_283 (pc' := 284) rfl rfl ?_
  refine G.iconst H32 D7_284 (pc' := 285) rfl (v := 5) rfl ?_
  refine G.aloadN H32 D7_285 (pc' := 286) rfl rfl rfl ?_
  refine G.iconst H32 D7_286 (pc' := 287) rfl (v := 5) rfl ?_
  have F35 := (Arv.other F31 W33 N18)
  refine G.caloadG H32 F35 (j := 5) (v := (.int x5)) (by decide) rfl D7_287 (pc' := 288) rfl ?_
  refine G.stC H32 A34 (by decide) (i := 5) rfl lB na7 (y := x5) (own_narC r6) D7_288 (pc' := 289) rfl ?_
  intro T36 h36_ H36 W37 A38
  replace A38 : Arv Z h36_ a7 k10 .char 7 [(.int x0), (.int x1), (.int x2), (.int x3), (.int x4), (.int x5), (.int 0)] (.int 0) := A38
  refine G.dup H36 D7_289 (pc' := 290) rfl rfl ?_
  refine G.bipush H36 D7_290 (pc' := 292) rfl (v := 6) rfl ?_
  refine G.aloadN H36 D7_292 (pc' := 293) rfl rfl rfl ?_
  refine G.bipush H36 D7_293 (pc' := 295) rfl (v := 6) rfl ?_
  have F39 := (Arv.other F35 W37 N18)
  refine G.caloadG H36 F39 (j := 6) (v := (.int x6)) (by decide) rfl D7_295 (pc' := 296) rfl ?_
  refine G.stC H36 A38 (by decide) (i := 6) rfl lB na7 (y := x6) (own_narC r7) D7_296 (pc' := 297) rfl ?_
  intro T40 h40_ H40 W41 A42
  replace A42 : Arv Z h40_ a7 k10 .char 7 [(.int x0), (.int x1), (.int x2), (.int x3), (.int x4), (.int x5), (.int x6)] (.int 0) := A42
  have K43 : Keep h1_ h40_ [] := (Keep.wr (Keep.wr (Keep.wr (Keep.wr (Keep.wr (Keep.wr (Keep.wr (Keep.ext (Keep.refl h1_ []) E8) W15 (Or.inr (Nat.le_of_eq ga7.symm))) W21 (Or.inr (Nat.le_of_eq ga7.symm))) W25 (Or.inr (Nat.le_of_eq ga7.symm))) W29 (Or.inr (Nat.le_of_eq ga7.symm))) W33 (Or.inr (Nat.le_of_eq ga7.symm))) W37 (Or.inr (Nat.le_of_eq ga7.symm))) W41 (Or.inr (Nat.le_of_eq ga7.symm)))
  have F44 := (Exa.keep A4 K43)
  have F45 : Fld Z h1_ a2 "java/lang/String" "value" "[B" .null := D5 (Or.inr (wd21 V)) (ty := (.array .byte)) (by decide)
  have F46 := (Fld.keep F45 K43 nin0)
  have F47 : Fld Z h1_ a2 "java/lang/String" "coder" "B" (.int 0) := D5 (Or.inr (wd22 V)) (ty := .byte) (by decide)
  have F48 := (Fld.keep F47 K43 nin0)
  refine G.newStr H40 (strw V) (wd7 V) (wd9 V) (wd10 V) (cs := [x0, x1, x2, x3, x4, x5, x6]) (n := 7) na2 F44 F46 F48 A42 (hv0 V) (hv1 V) rfl rfl (by decide) (by decide) (cbS r14 (cbS r13 (cbS r12 (cbS r11 (cbS r10 (cbS r9 (cbS r8 cb0))))))) (Sf.mem (mG (i := 1) rfl)) (rest := [(.ref a2)]) (W := 1) rfl rfl D7_297 (pc' := 300) rfl (by decide) (by decide) (by decide) (by decide) ?_
  intro T49 h49_ t50 k51 g54 H49 K52 S53
  have nt50 : n0 ≤ t50 := Nat.le_trans H40.le g54
  have K55 : Keep h0 h49_ [] := (Keep.trans (Keep.wr (Keep.wr (Keep.wr (Keep.wr (Keep.wr (Keep.wr (Keep.wr (Keep.ext (Keep.ext (Keep.refl h0 []) E3) E8) W15 (Or.inr (Nat.le_trans K17.1 (Nat.le_of_eq ga7.symm)))) W21 (Or.inr (Nat.le_trans K17.1 (Nat.le_of_eq ga7.symm)))) W25 (Or.inr (Nat.le_trans K17.1 (Nat.le_of_eq ga7.symm)))) W29 (Or.inr (Nat.le_trans K17.1 (Nat.le_of_eq ga7.symm)))) W33 (Or.inr (Nat.le_trans K17.1 (Nat.le_of_eq ga7.symm)))) W37 (Or.inr (Nat.le_trans K17.1 (Nat.le_of_eq ga7.symm)))) W41 (Or.inr (Nat.le_trans K17.1 (Nat.le_of_eq ga7.symm)))) K52 (allS (Or.inr (Nat.le_of_eq ga2.symm)) all0))
  exact G.retA H49 (t := (.object "java/lang/String")) rfl rfl rfl D7_300 (so := [a2, t50]) (allS (mG (i := 2) rfl) (allS (mG (i := 0) rfl) all0)) (by decide) (by decide) ⟨a2, t50, k51, rfl, rfl, K55, (Nat.le_of_eq ga2.symm), (Nat.lt_of_lt_of_le (Nat.lt_of_lt_of_le A4.lt K43.1) g54), S53⟩
set_option maxRecDepth 65536 in
set_option maxHeartbeats 40000000 in
theorem m18_isLatin1 (V : Env1 Z a0 n0 uu0 uu1) (p0 : Addr) (h0 : Heap) (hO : Old Z n0 h0) (f0 : Fld Z h0 p0 "java/lang/String" "coder" "B" (.int 0)) :
    Met Z a0 ELs True n0 l (⟨"java/lang/String", "isLatin1", "()Z"⟩ : MethodName) jdk_42_method_154_code 1 (Option.some FieldType.boolean) ({ frames := 0, cells := 0, slots := 0, locals := 0 } : Room) #[(.ref p0)] h0 [] (fun v h so => (v = some (.int 1) ∧ so = [] ∧ h0 = h)) := by
  refine Met.of (EWl V) (by first | decide +kernel | rfl) hO (L0 := #[.val (.ref p0)]) rfl ?_
  intro p e s m below meth c T H
  show Go p e below _ (T.setTop (mkF m 0 #[.val (.ref p0)] []))
  refine G.getS H (wd38 V) Via.refl (Sta.ext H.old.2 (hv0 V)) D2_0 (pc' := 3) rfl ?_
  intro T1 H2
  refine G.ifNo H2 D2_3 (pc' := 6) rfl (XT.i0_eq_f (hv1 V)) ?_
  refine G.aloadN H2 D2_6 (pc' := 7) rfl rfl rfl ?_
  refine G.getF H2 (wd26 V) Via.refl f0 D2_7 (pc' := 10) rfl ?_
  intro T3 H4
  refine G.ifNo H4 D2_10 (pc' := 13) rfl (by decide) ?_
  refine G.iconst H4 D2_13 (pc' := 14) rfl (v := 1) rfl ?_
  refine G.goto H4 D2_14 (by decide) (pc' := 18) rfl ?_
  exact G.retN H4 (t := .boolean) rfl (by decide) D2_18 (so := []) all0 (by decide) (by decide) ⟨rfl, rfl, rfl⟩
set_option maxRecDepth 65536 in
set_option maxHeartbeats 40000000 in
theorem m19_checkIndex (V : Env1 Z a0 n0 uu0 uu1)  (h0 : Heap) (hO : Old Z n0 h0)  :
    Met Z a0 ELs True n0 l (⟨"jdk/internal/util/Preconditions", "checkIndex", "(IILjava/util/function/BiFunction;)I"⟩ : MethodName) jdk_41_method_11_code 3 (Option.some FieldType.int) ({ frames := 0, cells := 0, slots := 0, locals := 0 } : Room) #[(.int 0), (.int 9), uu1] h0 [] (fun v h so => (v = some (.int 0) ∧ so = [] ∧ h0 = h)) := by
  refine Met.of (EWl V) (by first | decide +kernel | rfl) hO (L0 := #[.val (.int 0), .val (.int 9), .val uu1]) (by rcases XT.refc (hv3 V) with rfl | ⟨_, rfl⟩ <;> rfl) ?_
  intro p e s m below meth c T H
  show Go p e below _ (T.setTop (mkF m 0 #[.val (.int 0), .val (.int 9), .val uu1] []))
  refine G.iloadN H D0_0 (pc' := 1) rfl rfl ?_
  refine G.ifNo H D0_1 (pc' := 4) rfl (by decide) ?_
  refine G.iloadN H D0_4 (pc' := 5) rfl rfl ?_
  refine G.iloadN H D0_5 (pc' := 6) rfl rfl ?_
  refine G.icmpYes H D0_6 (by decide) (by decide) (pc' := 16) rfl ?_
  refine G.iloadN H D0_16 (pc' := 17) rfl rfl ?_
  exact G.retI H rfl D0_17 (so := []) all0 (by decide) (by decide) ⟨rfl, rfl, rfl⟩
set_option maxRecDepth 65536 in
set_option maxHeartbeats 40000000 in
theorem m20_checkIndex (V : Env1 Z a0 n0 uu0 uu1)  (h0 : Heap) (hO : Old Z n0 h0)  :
    Met Z a0 ELs True n0 l (⟨"java/lang/String", "checkIndex", "(II)V"⟩ : MethodName) jdk_42_method_155_code 2 (Option.none : Option FieldType) ({ frames := 1, cells := 0, slots := 0, locals := 14 } : Room) #[(.int 0), (.int 9)] h0 [] (fun v h so => (v = none ∧ so = [] ∧ h0 = h)) := by
  refine Met.of (EWl V) (by first | decide +kernel | rfl) hO (L0 := #[.val (.int 0), .val (.int 9)]) rfl ?_
  intro p e s m below meth c T H
  show Go p e below _ (T.setTop (mkF m 0 #[.val (.int 0), .val (.int 9)] []))
  refine G.iloadN H D3_0 (pc' := 1) rfl rfl ?_
  refine G.iloadN H D3_1 (pc' := 2) rfl rfl ?_
  refine G.getS H (wd71 V) Via.refl (Sta.ext H.old.2 (hv2 V)) D3_2 (pc' := 5) rfl ?_
  intro T1 H2
  refine G.callS H2 (m19_checkIndex V h0 H2.old) (wd73 V) (wd74 V) (wd72 V) (wd75 V) (by decide) (argsL := [(.int 0), (.int 9), uu1]) (rest := []) (W := 0) rfl rfl (lenOf (pd_5) rfl) rfl rfl D3_5 (pc' := 8) rfl (by decide) (by decide) (by decide) (by decide) all0 ?_
  intro T3 h3_ v4 s5 H3 Q6
  obtain ⟨rfl, rfl, rfl⟩ := Q6
  show Go p e below _ (T3.setTop (mkF m 8 #[.val (.int 0), .val (.int 9)] [(.int 0)]))
  refine G.pop H3 D3_8 (pc' := 9) rfl rfl ?_
  exact G.retV H3 rfl D3_9 (so := []) all0 (by decide) (by decide) ⟨rfl, rfl, rfl⟩
set_option maxRecDepth 65536 in
set_option maxHeartbeats 40000000 in
theorem m21_charAt (V : Env1 Z a0 n0 uu0 uu1) (p0 : Addr) (c0 : ClassId) (h0 : Heap) (hO : Old Z n0 h0) (f0 : Arv Z h0 p0 c0 .byte 9 [(.int 67), (.int 79), (.int 78), (.int 78), (.int 69), (.int 67), (.int 84), (.int 69), (.int 68)] (.int 0)) :
    Met Z a0 ELs True n0 l (⟨"java/lang/StringLatin1", "charAt", "([BI)C"⟩ : MethodName) jdk_43_method_2_code 2 (Option.some FieldType.char) ({ frames := 2, cells := 0, slots := 0, locals := 27 } : Room) #[(.ref p0), (.int 0)] h0 [] (fun v h so => (v = some (.int 67) ∧ so = [] ∧ h0 = h)) := by
  refine Met.of (EWl V) (by first | decide +kernel | rfl) hO (L0 := #[.val (.ref p0), .val (.int 0)]) rfl ?_
  intro p e s m below meth c T H
  show Go p e below _ (T.setTop (mkF m 0 #[.val (.ref p0), .val (.int 0)] []))
  refine G.iloadN H D6_0 (pc' := 1) rfl rfl ?_
  refine G.aloadN H D6_1 (pc' := 2) rfl rfl rfl ?_
  refine G.arrlen H f0 D6_2 (pc' := 3) rfl ?_
  refine G.callS H (m20_checkIndex V h0 H.old) (wd68 V) (wd69 V) (wd8 V) (wd70 V) (by decide) (argsL := [(.int 0), (.int 9)]) (rest := []) (W := 0) rfl rfl (lenOf (pd_6) rfl) rfl rfl D6_3 (pc' := 6) rfl (by decide) (by decide) (by decide) (by decide) all0 ?_
  intro T1 h1_ v2 s3 H1 Q4
  obtain ⟨rfl, rfl, rfl⟩ := Q4
  show Go p e below _ (T1.setTop (mkF m 6 #[.val (.ref p0), .val (.int 0)] []))
  refine G.aloadN H1 D6_6 (pc' := 7) rfl rfl rfl ?_
  refine G.iloadN H1 D6_7 (pc' := 8) rfl rfl ?_
  refine G.baloadG H1 f0 (j := 0) (v := (.int 67)) (by decide) rfl D6_8 (pc' := 9) rfl ?_
  refine G.sipush H1 D6_9 (pc' := 12) rfl (v := 255) rfl ?_
  refine G.iand H1 D6_12 (pc' := 13) rfl ?_
  show Go p e below _ (T1.setTop (mkF m 13 #[.val (.ref p0), .val (.int 0)] [(.int 67)]))
  refine G.i2c H1 (y := 67) D6_13 (pc' := 14) rfl rfl ?_
  exact G.retN H1 (t := .char) rfl (by decide) D6_14 (so := []) all0 (by decide) (by decide) ⟨rfl, rfl, rfl⟩
set_option maxRecDepth 65536 in
set_option maxHeartbeats 40000000 in
theorem m22_charAt (V : Env1 Z a0 n0 uu0 uu1) (p0 : Addr) (p1 : Addr) (c0 : ClassId) (h0 : Heap) (hO : Old Z n0 h0) (f0 : Exa Z h0 p0 "java/lang/String") (f1 : Fld Z h0 p0 "java/lang/String" "coder" "B" (.int 0)) (f2 : Fld Z h0 p0 "java/lang/String" "value" "[B" (.ref p1)) (f3 : Arv Z h0 p1 c0 .byte 9 [(.int 67), (.int 79), (.int 78), (.int 78), (.int 69), (.int 67), (.int 84), (.int 69), (.int 68)] (.int 0)) :
    Met Z a0 ELs True n0 l (⟨"java/lang/String", "charAt", "(I)C"⟩ : MethodName) jdk_42_method_56_code 2 (Option.some FieldType.char) ({ frames := 3, cells := 0, slots := 0, locals := 40 } : Room) #[(.ref p0), (.int 0)] h0 [] (fun v h so => (v = some (.int 67) ∧ so = [] ∧ h0 = h)) := by
  refine Met.of (EWl V) (by first | decide +kernel | rfl) hO (L0 := #[.val (.ref p0), .val (.int 0)]) rfl ?_
  intro p e s m below meth c T H
  show Go p e below _ (T.setTop (mkF m 0 #[.val (.ref p0), .val (.int 0)] []))
  refine G.aloadN H D5_0 (pc' := 1) rfl rfl rfl ?_
  refine G.callV H (m18_isLatin1 V p0 h0 H.old f1) (wd60 V) (wd61 V) (nf_sel (wd63 V)) (wd63 V) (wd62 V) (wd8 V) (wd64 V) (by decide) f0 (argsL := []) (rest := []) (W := 0) rfl rfl (lenOf (pd_4) rfl) rfl rfl D5_1 (pc' := 4) rfl (by decide) (by decide) (by decide) (by decide) all0 ?_
  intro T1 h1_ v2 s3 H1 Q4
  obtain ⟨rfl, rfl, rfl⟩ := Q4
  show Go p e below _ (T1.setTop (mkF m 4 #[.val (.ref p0), .val (.int 0)] [(.int 1)]))
  refine G.ifNo H1 D5_4 (pc' := 7) rfl (by decide) ?_
  refine G.aloadN H1 D5_7 (pc' := 8) rfl rfl rfl ?_
  refine G.getF H1 (wd25 V) Via.refl f2 D5_8 (pc' := 11) rfl ?_
  intro T5 H6
  refine G.iloadN H6 D5_11 (pc' := 12) rfl rfl ?_
  refine G.callS H6 (m21_charAt V p1 c0 h0 H6.old f3) (wd65 V) (wd66 V) (wd41 V) (wd67 V) (by decide) (argsL := [(.ref p1), (.int 0)]) (rest := []) (W := 0) rfl rfl (lenOf (pd_7) rfl) rfl rfl D5_12 (pc' := 15) rfl (by decide) (by decide) (by decide) (by decide) all0 ?_
  intro T7 h7_ v8 s9 H7 Q10
  obtain ⟨rfl, rfl, rfl⟩ := Q10
  show Go p e below _ (T7.setTop (mkF m 15 #[.val (.ref p0), .val (.int 0)] [(.int 67)]))
  exact G.retN H7 (t := .char) rfl (by decide) D5_15 (so := []) all0 (by decide) (by decide) ⟨rfl, rfl, rfl⟩
set_option maxRecDepth 65536 in
set_option maxHeartbeats 40000000 in
theorem m23_apply (V : Env1 Z a0 n0 uu0 uu1) (p0 : Addr) (p1 : Addr) (c0 : ClassId) (x0 : Int32) (x1 : Int32) (x2 : Int32) (x3 : Int32) (x4 : Int32) (x5 : Int32) (x6 : Int32) (h0 : Heap) (hO : Old Z n0 h0) (f0 : Str Z h0 p0 p1 c0 [x0, x1, x2, x3, x4, x5, x6]) (cc1 : x0 = 67) (cc2 : x1 = 79) (cc3 : x2 = 78) (cc4 : x3 = 78) (cc5 : x4 = 69) (cc6 : x5 = 67) (cc7 : x6 = 84) :
    Met Z a0 ELs True n0 l (⟨"bindery/server/stomp/HeaderEscapes", "apply", "(Ljava/lang/String;)Z"⟩ : MethodName) prog_84_method_2_code 1 (Option.some FieldType.boolean) ({ frames := 2, cells := 2, slots := 32, locals := 28 } : Room) #[(.ref p0)] h0 [] (fun v h so => ([x0, x1, x2, x3, x4, x5, x6] = [67, 79, 78, 78, 69, 67, 84] ∧ v = some (.int 0) ∧ so = [] ∧ Keep h0 h [])) := by
  refine Met.of (EWl V) (by first | decide +kernel | rfl) hO (L0 := #[.val (.ref p0)]) rfl ?_
  intro p e s m below meth c T H
  show Go p e below _ (T.setTop (mkF m 0 #[.val (.ref p0)] []))
  refine G.aloadN H D8_0 (pc' := 1) rfl rfl rfl ?_
  refine G.ldcS H trivial (wS V) (wd31 V) (by decide) (vs := [(.int 67), (.int 79), (.int 78), (.int 78), (.int 69), (.int 67), (.int 84)]) (z := 7) (by decide) (by decide) rfl (n := 28) (by decide) (by decide) (by decide) (by decide) D8_1 (pc' := 3) rfl ?_
  intro T1 h1_ a2 b4 k5 H1 E3 X6 F7 F8 A9 Q10
  have S11 : Str Z h1_ a2 b4 k5 [67, 79, 78, 78, 69, 67, 84] := ⟨X6, F7, F8, A9, by decide, by decide⟩
  have F12 := (Str.ext E3 f0)
  refine G.strEq H1 (strwEq V) (wd7 V) (wd32 V) (wd33 V) (wd35 V) (wd34 V) F12 S11 (hv0 V) (hv1 V) (rest := []) (W := 0) rfl rfl D8_3 (pc' := 6) rfl (by decide) (by decide) (by decide) (by decide) ?_ ?_
  ·
    intro T13 H14 c15
    refine G.ifYes H14 D8_6 (by decide) (by decide) (pc' := 22) rfl ?_
    refine G.iconst H14 D8_22 (pc' := 23) rfl (v := 0) rfl ?_
    have K16 : Keep h0 h1_ [] := (Keep.ext (Keep.refl h0 []) E3)
    exact G.retN H14 (t := .boolean) rfl (by decide) D8_23 (so := []) all0 (by decide) (by decide) ⟨c15, rfl, rfl, K16⟩
  ·
    intro T17 H18 c19
    exact absurd (lcs cc1 (lcs cc2 (lcs cc3 (lcs cc4 (lcs cc5 (lcs cc6 (lcs cc7 rfl))))))) c19
set_option maxRecDepth 65536 in
set_option maxHeartbeats 40000000 in
theorem m24_apply (V : Env1 Z a0 n0 uu0 uu1) (p0 : Addr) (p1 : Addr) (c0 : ClassId) (x0 : Int32) (x1 : Int32) (x2 : Int32) (x3 : Int32) (x4 : Int32) (x5 : Int32) (x6 : Int32) (h0 : Heap) (hO : Old Z n0 h0) (f0 : Str Z h0 p0 p1 c0 [x0, x1, x2, x3, x4, x5, x6]) (cc1 : ¬ x0 = 67) (cc2 : x1 = 79) (cc3 : x2 = 78) (cc4 : x3 = 78) (cc5 : x4 = 69) (cc6 : x5 = 67) (cc7 : x6 = 84) :
    Met Z a0 ELs True n0 l (⟨"bindery/server/stomp/HeaderEscapes", "apply", "(Ljava/lang/String;)Z"⟩ : MethodName) prog_84_method_2_code 1 (Option.some FieldType.boolean) ({ frames := 2, cells := 4, slots := 72, locals := 28 } : Room) #[(.ref p0)] h0 [p0, p1] (fun v h so => (¬ [x0, x1, x2, x3, x4, x5, x6] = [67, 79, 78, 78, 69, 67, 84] ∧ v = some (.int 1) ∧ so = [] ∧ Keep h0 h [])) := by
  refine Met.of (EWl V) (by first | decide +kernel | rfl) hO (L0 := #[.val (.ref p0)]) rfl ?_
  intro p e s m below meth c T H
  show Go p e below _ (T.setTop (mkF m 0 #[.val (.ref p0)] []))
  refine G.aloadN H D8_0 (pc' := 1) rfl rfl rfl ?_
  refine G.ldcS H trivial (wS V) (wd31 V) (by decide) (vs := [(.int 67), (.int 79), (.int 78), (.int 78), (.int 69), (.int 67), (.int 84)]) (z := 7) (by decide) (by decide) rfl (n := 28) (by decide) (by decide) (by decide) (by decide) D8_1 (pc' := 3) rfl ?_
  intro T1 h1_ a2 b4 k5 H1 E3 X6 F7 F8 A9 Q10
  have S11 : Str Z h1_ a2 b4 k5 [67, 79, 78, 78, 69, 67, 84] := ⟨X6, F7, F8, A9, by decide, by decide⟩
  have F12 := (Str.ext E3 f0)
  refine G.strEq H1 (strwEq V) (wd7 V) (wd32 V) (wd33 V) (wd35 V) (wd34 V) F12 S11 (hv0 V) (hv1 V) (rest := []) (W := 0) rfl rfl D8_3 (pc' := 6) rfl (by decide) (by decide) (by decide) (by decide) ?_ ?_
  ·
    intro T13 H14 c15
    exact absurd (List.cons.inj c15).1 cc1
  ·
    intro T16 H17 c18
    refine G.ifNo H17 D8_6 (pc' := 9) rfl (by decide) ?_
    refine G.aloadN H17 D8_9 (pc' := 10) rfl rfl rfl ?_
    refine G.ldcS H17 trivial (wS V) (wd43 V) (by decide) (vs := [(.int 67), (.int 79), (.int 78), (.int 78), (.int 69), (.int 67), (.int 84), (.int 69), (.int 68)]) (z := 9) (by decide) (by decide) rfl (n := 36) (by decide) (by decide) (by decide) (by decide) D8_10 (pc' := 12) rfl ?_
    intro T19 h19_ a20 b22 k23 H19 E21 X24 F25 F26 A27 Q28
    have S29 : Str Z h19_ a20 b22 k23 [67, 79, 78, 78, 69, 67, 84, 69, 68] := ⟨X24, F25, F26, A27, by decide, by decide⟩
    have F30 := (Str.ext E21 F12)
    refine G.strEq H19 (strwEq V) (wd7 V) (wd32 V) (wd33 V) (wd35 V) (wd34 V) F30 S29 (hv0 V) (hv1 V) (rest := []) (W := 0) rfl rfl D8_12 (pc' := 15) rfl (by decide) (by decide) (by decide) (by decide) ?_ ?_
    ·
      intro T31 H32 c33
      exact absurd c33 (by intro qq; simp at qq)
    ·
      intro T34 H35 c36
      refine G.ifNo H35 D8_15 (pc' := 18) rfl (by decide) ?_
      refine G.iconst H35 D8_18 (pc' := 19) rfl (v := 1) rfl ?_
      refine G.goto H35 D8_19 (by decide) (pc' := 23) rfl ?_
      have K37 : Keep h0 h19_ [] := (Keep.ext (Keep.ext (Keep.refl h0 []) E3) E21)
      exact G.retN H35 (t := .boolean) rfl (by decide) D8_23 (so := []) all0 (by decide) (by decide) ⟨c18, rfl, rfl, K37⟩
set_option maxRecDepth 65536 in
set_option maxHeartbeats 40000000 in
theorem m25_cut (V : Env1 Z a0 n0 uu0 uu1) (p0 : Addr) (c0 : ClassId) (x0 : Int32) (x1 : Int32) (x2 : Int32) (x3 : Int32) (x4 : Int32) (x5 : Int32) (x6 : Int32) (x7 : Int32) (x8 : Int32) (x9 : Int32) (h0 : Heap) (hO : Old Z n0 h0) (f0 : Arv Z h0 p0 c0 .char 10 [(.int x0), (.int x1), (.int x2), (.int x3), (.int x4), (.int x5), (.int x6), (.int x7), (.int x8), (.int x9)] (.int 0)) (r1 : ¬ x0 < 0 ∧ ¬ 65535 < x0) (r2 : ¬ x1 < 0 ∧ ¬ 65535 < x1) (r3 : ¬ x2 < 0 ∧ ¬ 65535 < x2) (r4 : ¬ x3 < 0 ∧ ¬ 65535 < x3) (r5 : ¬ x4 < 0 ∧ ¬ 65535 < x4) (r6 : ¬ x5 < 0 ∧ ¬ 65535 < x5) (r7 : ¬ x6 < 0 ∧ ¬ 65535 < x6) (r8 : ¬ x7 < 0 ∧ ¬ 65535 < x7) (r9 : ¬ x7 < 0 ∧ ¬ 255 < x7) (r10 : ¬ x6 < 0 ∧ ¬ 255 < x6) (r11 : ¬ x5 < 0 ∧ ¬ 255 < x5) (r12 : ¬ x4 < 0 ∧ ¬ 255 < x4) (r13 : ¬ x3 < 0 ∧ ¬ 255 < x3) (r14 : ¬ x2 < 0 ∧ ¬ 255 < x2) (r15 : ¬ x1 < 0 ∧ ¬ 255 < x1) (r16 : ¬ x0 < 0 ∧ ¬ 255 < x0) :
    Met Z a0 ELs True n0 l (⟨"bindery/server/stomp/HeaderEscapesApplyPinLaw", "cut", "([CI)Ljava/lang/String;"⟩ : MethodName) method_3_code 2 (Option.some (FieldType.object "java/lang/String")) ({ frames := 4, cells := 3, slots := 20, locals := 66 } : Room) #[(.ref p0), (.int 8)] h0 [] (fun v h so => (∃ a2 t54 : Addr, ∃ k55 : ClassId, v = some (.ref a2) ∧ so = [a2, t54] ∧ Keep h0 h [] ∧ h0.size ≤ a2 ∧ a2 < t54 ∧ Str Z h a2 t54 k55 [x0, x1, x2, x3, x4, x5, x6, x7])) := by
  refine Met.of (EWl V) (by first | decide +kernel | rfl) hO (L0 := #[.val (.ref p0), .val (.int 8)]) rfl ?_
  intro p e s m below meth c T H
  show Go p e below _ (T.setTop (mkF m 0 #[.val (.ref p0), .val (.int 8)] []))
  refine G.iloadN H D7_0 (pc' := 1) rfl rfl ?_
  refine G.ifYes H D7_1 (by decide) (by decide) (pc' := 15) rfl ?_
  refine G.iloadN H D7_15 (pc' := 16) rfl rfl ?_
  refine G.iconst H D7_16 (pc' := 17) rfl (v := 1) rfl ?_
  refine G.icmpYes H D7_17 (by decide) (by decide) (pc' := 37) rfl ?_
  refine G.iloadN H D7_37 (pc' := 38) rfl rfl ?_
  refine G.iconst H D7_38 (pc' := 39) rfl (v := 2) rfl ?_
  refine G.icmpYes H D7_39 (by decide) (by decide) (pc' := 65) rfl ?_
  refine G.iloadN H D7_65 (pc' := 66) rfl rfl ?_
  refine G.iconst H D7_66 (pc' := 67) rfl (v := 3) rfl ?_
  refine G.icmpYes H D7_67 (by decide) (by decide) (pc' := 99) rfl ?_
  refine G.iloadN H D7_99 (pc' := 100) rfl rfl ?_
  refine G.iconst H D7_100 (pc' := 101) rfl (v := 4) rfl ?_
  refine G.icmpYes H D7_101 (by decide) (by decide) (pc' := 139) rfl ?_
  refine G.iloadN H D7_139 (pc' := 140) rfl rfl ?_
  refine G.iconst H D7_140 (pc' := 141) rfl (v := 5) rfl ?_
  refine G.icmpYes H D7_141 (by decide) (by decide) (pc' := 185) rfl ?_
  refine G.iloadN H D7_185 (pc' := 186) rfl rfl ?_
  refine G.bipush H D7_186 (pc' := 188) rfl (v := 6) rfl ?_
  refine G.icmpYes H D7_188 (by decide) (by decide) (pc' := 239) rfl ?_
  refine G.iloadN H D7_239 (pc' := 240) rfl rfl ?_
  refine G.bipush H D7_240 (pc' := 242) rfl (v := 7) rfl ?_
  refine G.icmpYes H D7_242 (by decide) (by decide) (pc' := 301) rfl ?_
  refine G.iloadN H D7_301 (pc' := 302) rfl rfl ?_
  refine G.bipush H D7_302 (pc' := 304) rfl (v := 8) rfl ?_
  refine G.icmpNo H D7_304 (pc' := 307) rfl (by decide) ?_
  refine G.new H (wd6 V) (wd7 V) (wd8 V) D7_307 (pc' := 310) rfl (by decide) (by decide) ?_
  intro T1 h1_ a2 ga2 H1 E3 A4 D5
  have na2 := H.nle ga2
  refine G.dup H1 D7_310 (pc' := 311) rfl rfl ?_
  refine G.bipush H1 D7_311 (pc' := 313) rfl (v := 8) rfl ?_
  refine G.newP H1 (aty := .char) (wd1 V) D7_313 (pc' := 315) rfl (by decide) (cap := 8) (by decide) (by decide) (by decide) (by decide) (vs := [(.int 0), (.int 0), (.int 0), (.int 0), (.int 0), (.int 0), (.int 0), (.int 0)]) rfl (ad := "[C") rfl ?_
  intro T6 h6_ a7 k10 ga7 H6 E8 A9 X11
  have na7 := H1.nle ga7
  replace A9 : Arv Z h6_ a7 k10 .char 8 [(.int 0), (.int 0), (.int 0), (.int 0), (.int 0), (.int 0), (.int 0), (.int 0)] (.int 0) := A9
  refine G.dup H6 D7_315 (pc' := 316) rfl rfl ?_
  refine G.iconst H6 D7_316 (pc' := 317) rfl (v := 0) rfl ?_
  refine G.aloadN H6 D7_317 (pc' := 318) rfl rfl rfl ?_
  refine G.iconst H6 D7_318 (pc' := 319) rfl (v := 0) rfl ?_
  have K12 : Keep h0 h6_ [] := (Keep.ext (Keep.ext (Keep.refl h0 []) E3) E8)
  have F13 := (Arv.keep f0 K12 nin0)
  refine G.caloadG H6 F13 (j := 0) (v := (.int x0)) (by decide) rfl D7_319 (pc' := 320) rfl ?_
  refine G.stC H6 A9 (by decide) (i := 0) rfl lB na7 (y := x0) (own_narC r1) D7_320 (pc' := 321) rfl ?_
  intro T14 h14_ H14 W15 A16
  replace A16 : Arv Z h14_ a7 k10 .char 8 [(.int x0), (.int 0), (.int 0), (.int 0), (.int 0), (.int 0), (.int 0), (.int 0)] (.int 0) := A16
  refine G.dup H14 D7_321 (pc' := 322) rfl rfl ?_
  refine G.iconst H14 D7_322 (pc' := 323) rfl (v := 1) rfl ?_
  refine G.aloadN H14 D7_323 (pc' := 324) rfl rfl rfl ?_
  refine G.iconst H14 D7_324 (pc' := 325) rfl (v := 1) rfl ?_
  have K17 : Keep h0 h1_ [] := (Keep.ext (Keep.refl h0 []) E3)
  have N18 : p0 ≠ a7 := (Nat.ne_of_lt (Nat.lt_of_lt_of_le (Nat.lt_of_lt_of_le f0.lt K17.1) (Nat.le_of_eq ga7.symm)))
  have F19 := (Arv.other F13 W15 N18)
  refine G.caloadG H14 F19 (j := 1) (v := (.int x1)) (by decide) rfl D7_325 (pc' := 326) rfl ?_
  refine G.stC H14 A16 (by decide) (i := 1) rfl lB na7 (y := x1) (own_narC r2) D7_326 (pc' := 327) rfl ?_
  intro T20 h20_ H20 W21 A22
  replace A22 : Arv Z h20_ a7 k10 .char 8 [(.int x0), (.int x1), (.int 0), (.int 0), (.int 0), (.int 0), (.int 0), (.int 0)] (.int 0) := A22
  refine G.dup H20 D7_327 (pc' := 328) rfl rfl ?_
  refine G.iconst H20 D7_328 (pc' := 329) rfl (v := 2) rfl ?_
  refine G.aloadN H20 D7_329 (pc' := 330) rfl rfl rfl ?_
  refine G.iconst H20 D7_330 (pc' := 331) rfl (v := 2) rfl ?_
  have F23 := (Arv.other F19 W21 N18)
  refine G.caloadG H20 F23 (j := 2) (v := (.int x2)) (by decide) rfl D7_331 (pc' := 332) rfl ?_
  refine G.stC H20 A22 (by decide) (i := 2) rfl lB na7 (y := x2) (own_narC r3) D7_332 (pc' := 333) rfl ?_
  intro T24 h24_ H24 W25 A26
  replace A26 : Arv Z h24_ a7 k10 .char 8 [(.int x0), (.int x1), (.int x2), (.int 0), (.int 0), (.int 0), (.int 0), (.int 0)] (.int 0) := A26
  refine G.dup H24 D7_333 (pc' := 334) rfl rfl ?_
  refine G.iconst H24 D7_334 (pc' := 335) rfl (v := 3) rfl ?_
  refine G.aloadN H24 D7_335 (pc' := 336) rfl rfl rfl ?_
  refine G.iconst H24 D7_336 (pc' := 337) rfl (v := 3) rfl ?_
  have F27 := (Arv.other F23 W25 N18)
  refine G.caloadG H24 F27 (j := 3) (v := (.int x3)) (by decide) rfl D7_337 (pc' := 338) rfl ?_
  refine G.stC H24 A26 (by decide) (i := 3) rfl lB na7 (y := x3) (own_narC r4) D7_338 (pc' := 339) rfl ?_
  intro T28 h28_ H28 W29 A30
  replace A30 : Arv Z h28_ a7 k10 .char 8 [(.int x0), (.int x1), (.int x2), (.int x3), (.int 0), (.int 0), (.int 0), (.int 0)] (.int 0) := A30
  refine G.dup H28 D7_339 (pc' := 340) rfl rfl ?_
  refine G.iconst H28 D7_340 (pc' := 341) rfl (v := 4) rfl ?_
  refine G.aloadN H28 D7_341 (pc' := 342) rfl rfl rfl ?_
  refine G.iconst H28 D7_342 (pc' := 343) rfl (v := 4) rfl ?_
  have F31 := (Arv.other F27 W29 N18)
  refine G.caloadG H28 F31 (j := 4) (v := (.int x4)) (by decide) rfl D7_343 (pc' := 344) rfl ?_
  refine G.stC H28 A30 (by decide) (i := 4) rfl lB na7 (y := x4) (own_narC r5) D7_344 (pc' := 345) rfl ?_
  intro T32 h32_ H32 W33 A34
  replace A34 : Arv Z h32_ a7 k10 .char 8 [(.int x0), (.int x1), (.int x2), (.int x3), (.int x4), (.int 0), (.int 0), (.int 0)] (.int 0) := A34
  refine G.dup H32 D7_345 (pc' := 346) rfl rfl ?_
  refine G.iconst H32 D7_346 (pc' := 347) rfl (v := 5) rfl ?_
  refine G.aloadN H32 D7_347 (pc' := 348) rfl rfl rfl ?_
  refine G.iconst H32 D7_348 (pc' := 349) rfl (v := 5) rfl ?_
  have F35 := (Arv.other F31 W33 N18)
  refine G.caloadG H32 F35 (j := 5) (v := (.int x5)) (by decide) rfl D7_349 (pc' := 350) rfl ?_
  refine G.stC H32 A34 (by decide) (i := 5) rfl lB na7 (y := x5) (own_narC r6) D7_350 (pc' := 351) rfl ?_
  intro T36 h36_ H36 W37 A38
  replace A38 : Arv Z h36_ a7 k10 .char 8 [(.int x0), (.int x1), (.int x2), (.int x3), (.int x4), (.int x5), (.int 0), (.int 0)] (.int 0) := A38
  refine G.dup H36 D7_351 (pc' := 352) rfl rfl ?_
  refine G.bipush H36 D7_352 (pc' := 354) rfl (v := 6) rfl ?_
  refine G.aloadN H36 D7_354 (pc' := 355) rfl rfl rfl ?_
  refine G.bipush H36 D7_355 (pc' := 357) rfl (v := 6) rfl ?_
  have F39 := (Arv.other F35 W37 N18)
  refine G.caloadG H36 F39 (j := 6) (v := (.int x6)) (by decide) rfl D7_357 (pc' := 358) rfl ?_
  refine G.stC H36 A38 (by decide) (i := 6) rfl lB na7 (y := x6) (own_narC r7) D7_358 (pc' := 359) rfl ?_
  intro T40 h40_ H40 W41 A42
  replace A42 : Arv Z h40_ a7 k10 .char 8 [(.int x0), (.int x1), (.int x2), (.int x3), (.int x4), (.int x5), (.int x6), (.int 0)] (.int 0) := A42
  refine G.dup H40 D7_359 (pc' := 360) rfl rfl ?_
  refine G.bipush H40 D7_360 (pc' := 362) rfl (v := 7) rfl ?_
  refine G.aloadN H40 D7_362 (pc' := 363) rfl rfl rfl ?_
  refine G.bipush H40 D7_363 (pc' := 365) rfl (v := 7) rfl ?_
  have F43 := (Arv.other F39 W41 N18)
  refine G.caloadG H40 F43 (j := 7) (v := (.int x7)) (by decide) rfl D7_365 (pc' := 366) rfl ?_
  refine G.stC H40 A42 (by decide) (i := 7) rfl lB na7 (y := x7) (own_narC r8) D7_366 (pc' := 367) rfl ?_
  intro T44 h44_ H44 W45 A46
  replace A46 : Arv Z h44_ a7 k10 .char 8 [(.int x0), (.int x1), (.int x2), (.int x3), (.int x4), (.int x5), (.int x6), (.int x7)] (.int 0) := A46
  have K47 : Keep h1_ h44_ [] := (Keep.wr (Keep.wr (Keep.wr (Keep.wr (Keep.wr (Keep.wr (Keep.wr (Keep.wr (Keep.ext (Keep.refl h1_ []) E8) W15 (Or.inr (Nat.le_of_eq ga7.symm))) W21 (Or.inr (Nat.le_of_eq ga7.symm))) W25 (Or.inr (Nat.le_of_eq ga7.symm))) W29 (Or.inr (Nat.le_of_eq ga7.symm))) W33 (Or.inr (Nat.le_of_eq ga7.symm))) W37 (Or.inr (Nat.le_of_eq ga7.symm))) W41 (Or.inr (Nat.le_of_eq ga7.symm))) W45 (Or.inr (Nat.le_of_eq ga7.symm)))
  have F48 := (Exa.keep A4 K47)
  have F49 : Fld Z h1_ a2 "java/lang/String" "value" "[B" .null := D5 (Or.inr (wd21 V)) (ty := (.array .byte)) (by decide)
  have F50 := (Fld.keep F49 K47 nin0)
  have F51 : Fld Z h1_ a2 "java/lang/String" "coder" "B" (.int 0) := D5 (Or.inr (wd22 V)) (ty := .byte) (by decide)
  have F52 := (Fld.keep F51 K47 nin0)
  refine G.newStr H44 (strw V) (wd7 V) (wd9 V) (wd10 V) (cs := [x0, x1, x2, x3, x4, x5, x6, x7]) (n := 8) na2 F48 F50 F52 A46 (hv0 V) (hv1 V) rfl rfl (by decide) (by decide) (cbS r16 (cbS r15 (cbS r14 (cbS r13 (cbS r12 (cbS r11 (cbS r10 (cbS r9 cb0)))))))) (Sf.mem (mG (i := 1) rfl)) (rest := [(.ref a2)]) (W := 1) rfl rfl D7_367 (pc' := 370) rfl (by decide) (by decide) (by decide) (by decide) ?_
  intro T53 h53_ t54 k55 g58 H53 K56 S57
  have nt54 : n0 ≤ t54 := Nat.le_trans H44.le g58
  have K59 : Keep h0 h53_ [] := (Keep.trans (Keep.wr (Keep.wr (Keep.wr (Keep.wr (Keep.wr (Keep.wr (Keep.wr (Keep.wr (Keep.ext (Keep.ext (Keep.refl h0 []) E3) E8) W15 (Or.inr (Nat.le_trans K17.1 (Nat.le_of_eq ga7.symm)))) W21 (Or.inr (Nat.le_trans K17.1 (Nat.le_of_eq ga7.symm)))) W25 (Or.inr (Nat.le_trans K17.1 (Nat.le_of_eq ga7.symm)))) W29 (Or.inr (Nat.le_trans K17.1 (Nat.le_of_eq ga7.symm)))) W33 (Or.inr (Nat.le_trans K17.1 (Nat.le_of_eq ga7.symm)))) W37 (Or.inr (Nat.le_trans K17.1 (Nat.le_of_eq ga7.symm)))) W41 (Or.inr (Nat.le_trans K17.1 (Nat.le_of_eq ga7.symm)))) W45 (Or.inr (Nat.le_trans K17.1 (Nat.le_of_eq ga7.symm)))) K56 (allS (Or.inr (Nat.le_of_eq ga2.symm)) all0))
  exact G.retA H53 (t := (.object "java/lang/String")) rfl rfl rfl D7_370 (so := [a2, t54]) (allS (mG (i := 2) rfl) (allS (mG (i := 0) rfl) all0)) (by decide) (by decide) ⟨a2, t54, k55, rfl, rfl, K59, (Nat.le_of_eq ga2.symm), (Nat.lt_of_lt_of_le (Nat.lt_of_lt_of_le A4.lt K47.1) g58), S57⟩
set_option maxRecDepth 65536 in
set_option maxHeartbeats 40000000 in
theorem m26_apply (V : Env1 Z a0 n0 uu0 uu1) (p0 : Addr) (p1 : Addr) (c0 : ClassId) (x0 : Int32) (x1 : Int32) (x2 : Int32) (x3 : Int32) (x4 : Int32) (x5 : Int32) (x6 : Int32) (x7 : Int32) (h0 : Heap) (hO : Old Z n0 h0) (f0 : Str Z h0 p0 p1 c0 [x0, x1, x2, x3, x4, x5, x6, x7]) :
    Met Z a0 ELs True n0 l (⟨"bindery/server/stomp/HeaderEscapes", "apply", "(Ljava/lang/String;)Z"⟩ : MethodName) prog_84_method_2_code 1 (Option.some FieldType.boolean) ({ frames := 2, cells := 4, slots := 72, locals := 28 } : Room) #[(.ref p0)] h0 [p0, p1] (fun v h so => (v = some (.int 1) ∧ so = [] ∧ Keep h0 h [])) := by
  refine Met.of (EWl V) (by first | decide +kernel | rfl) hO (L0 := #[.val (.ref p0)]) rfl ?_
  intro p e s m below meth c T H
  show Go p e below _ (T.setTop (mkF m 0 #[.val (.ref p0)] []))
  refine G.aloadN H D8_0 (pc' := 1) rfl rfl rfl ?_
  refine G.ldcS H trivial (wS V) (wd31 V) (by decide) (vs := [(.int 67), (.int 79), (.int 78), (.int 78), (.int 69), (.int 67), (.int 84)]) (z := 7) (by decide) (by decide) rfl (n := 28) (by decide) (by decide) (by decide) (by decide) D8_1 (pc' := 3) rfl ?_
  intro T1 h1_ a2 b4 k5 H1 E3 X6 F7 F8 A9 Q10
  have S11 : Str Z h1_ a2 b4 k5 [67, 79, 78, 78, 69, 67, 84] := ⟨X6, F7, F8, A9, by decide, by decide⟩
  have F12 := (Str.ext E3 f0)
  refine G.strEq H1 (strwEq V) (wd7 V) (wd32 V) (wd33 V) (wd35 V) (wd34 V) F12 S11 (hv0 V) (hv1 V) (rest := []) (W := 0) rfl rfl D8_3 (pc' := 6) rfl (by decide) (by decide) (by decide) (by decide) ?_ ?_
  ·
    intro T13 H14 c15
    exact absurd c15 (by intro qq; simp at qq)
  ·
    intro T16 H17 c18
    refine G.ifNo H17 D8_6 (pc' := 9) rfl (by decide) ?_
    refine G.aloadN H17 D8_9 (pc' := 10) rfl rfl rfl ?_
    refine G.ldcS H17 trivial (wS V) (wd43 V) (by decide) (vs := [(.int 67), (.int 79), (.int 78), (.int 78), (.int 69), (.int 67), (.int 84), (.int 69), (.int 68)]) (z := 9) (by decide) (by decide) rfl (n := 36) (by decide) (by decide) (by decide) (by decide) D8_10 (pc' := 12) rfl ?_
    intro T19 h19_ a20 b22 k23 H19 E21 X24 F25 F26 A27 Q28
    have S29 : Str Z h19_ a20 b22 k23 [67, 79, 78, 78, 69, 67, 84, 69, 68] := ⟨X24, F25, F26, A27, by decide, by decide⟩
    have F30 := (Str.ext E21 F12)
    refine G.strEq H19 (strwEq V) (wd7 V) (wd32 V) (wd33 V) (wd35 V) (wd34 V) F30 S29 (hv0 V) (hv1 V) (rest := []) (W := 0) rfl rfl D8_12 (pc' := 15) rfl (by decide) (by decide) (by decide) (by decide) ?_ ?_
    ·
      intro T31 H32 c33
      exact absurd c33 (by intro qq; simp at qq)
    ·
      intro T34 H35 c36
      refine G.ifNo H35 D8_15 (pc' := 18) rfl (by decide) ?_
      refine G.iconst H35 D8_18 (pc' := 19) rfl (v := 1) rfl ?_
      refine G.goto H35 D8_19 (by decide) (pc' := 23) rfl ?_
      have K37 : Keep h0 h19_ [] := (Keep.ext (Keep.ext (Keep.refl h0 []) E3) E21)
      exact G.retN H35 (t := .boolean) rfl (by decide) D8_23 (so := []) all0 (by decide) (by decide) ⟨rfl, rfl, K37⟩
set_option maxRecDepth 65536 in
set_option maxHeartbeats 40000000 in
theorem m27_cut (V : Env1 Z a0 n0 uu0 uu1) (p0 : Addr) (c0 : ClassId) (x0 : Int32) (x1 : Int32) (x2 : Int32) (x3 : Int32) (x4 : Int32) (x5 : Int32) (x6 : Int32) (x7 : Int32) (x8 : Int32) (x9 : Int32) (h0 : Heap) (hO : Old Z n0 h0) (f0 : Arv Z h0 p0 c0 .char 10 [(.int x0), (.int x1), (.int x2), (.int x3), (.int x4), (.int x5), (.int x6), (.int x7), (.int x8), (.int x9)] (.int 0)) (r1 : ¬ x0 < 0 ∧ ¬ 65535 < x0) (r2 : ¬ x1 < 0 ∧ ¬ 65535 < x1) (r3 : ¬ x2 < 0 ∧ ¬ 65535 < x2) (r4 : ¬ x3 < 0 ∧ ¬ 65535 < x3) (r5 : ¬ x4 < 0 ∧ ¬ 65535 < x4) (r6 : ¬ x5 < 0 ∧ ¬ 65535 < x5) (r7 : ¬ x6 < 0 ∧ ¬ 65535 < x6) (r8 : ¬ x7 < 0 ∧ ¬ 65535 < x7) (r9 : ¬ x8 < 0 ∧ ¬ 65535 < x8) (r10 : ¬ x8 < 0 ∧ ¬ 255 < x8) (r11 : ¬ x7 < 0 ∧ ¬ 255 < x7) (r12 : ¬ x6 < 0 ∧ ¬ 255 < x6) (r13 : ¬ x5 < 0 ∧ ¬ 255 < x5) (r14 : ¬ x4 < 0 ∧ ¬ 255 < x4) (r15 : ¬ x3 < 0 ∧ ¬ 255 < x3) (r16 : ¬ x2 < 0 ∧ ¬ 255 < x2) (r17 : ¬ x1 < 0 ∧ ¬ 255 < x1) (r18 : ¬ x0 < 0 ∧ ¬ 255 < x0) :
    Met Z a0 ELs True n0 l (⟨"bindery/server/stomp/HeaderEscapesApplyPinLaw", "cut", "([CI)Ljava/lang/String;"⟩ : MethodName) method_3_code 2 (Option.some (FieldType.object "java/lang/String")) ({ frames := 4, cells := 3, slots := 22, locals := 66 } : Room) #[(.ref p0), (.int 9)] h0 [] (fun v h so => (∃ a2 t58 : Addr, ∃ k59 : ClassId, v = some (.ref a2) ∧ so = [a2, t58] ∧ Keep h0 h [] ∧ h0.size ≤ a2 ∧ a2 < t58 ∧ Str Z h a2 t58 k59 [x0, x1, x2, x3, x4, x5, x6, x7, x8])) := by
  refine Met.of (EWl V) (by first | decide +kernel | rfl) hO (L0 := #[.val (.ref p0), .val (.int 9)]) rfl ?_
  intro p e s m below meth c T H
  show Go p e below _ (T.setTop (mkF m 0 #[.val (.ref p0), .val (.int 9)] []))
  refine G.iloadN H D7_0 (pc' := 1) rfl rfl ?_
  refine G.ifYes H D7_1 (by decide) (by decide) (pc' := 15) rfl ?_
  refine G.iloadN H D7_15 (pc' := 16) rfl rfl ?_
  refine G.iconst H D7_16 (pc' := 17) rfl (v := 1) rfl ?_
  refine G.icmpYes H D7_17 (by decide) (by decide) (pc' := 37) rfl ?_
  refine G.iloadN H D7_37 (pc' := 38) rfl rfl ?_
  refine G.iconst H D7_38 (pc' := 39) rfl (v := 2) rfl ?_
  refine G.icmpYes H D7_39 (by decide) (by decide) (pc' := 65) rfl ?_
  refine G.iloadN H D7_65 (pc' := 66) rfl rfl ?_
  refine G.iconst H D7_66 (pc' := 67) rfl (v := 3) rfl ?_
  refine G.icmpYes H D7_67 (by decide) (by decide) (pc' := 99) rfl ?_
  refine G.iloadN H D7_99 (pc' := 100) rfl rfl ?_
  refine G.iconst H D7_100 (pc' := 101) rfl (v := 4) rfl ?_
  refine G.icmpYes H D7_101 (by decide) (by decide) (pc' := 139) rfl ?_
  refine G.iloadN H D7_139 (pc' := 140) rfl rfl ?_
  refine G.iconst H D7_140 (pc' := 141) rfl (v := 5) rfl ?_
  refine G.icmpYes H D7_141 (by decide) (by decide) (pc' := 185) rfl ?_
  refine G.iloadN H D7_185 (pc' := 186) rfl rfl ?_
  refine G.bipush H D7_186 (pc' := 188) rfl (v := 6) rfl ?_
  refine G.icmpYes H D7_188 (by decide) (by decide) (pc' := 239) rfl ?_
  refine G.iloadN H D7_239 (pc' := 240) rfl rfl ?_
  refine G.bipush H D7_240 (pc' := 242) rfl (v := 7) rfl ?_
  refine G.icmpYes H D7_242 (by decide) (by decide) (pc' := 301) rfl ?_
  refine G.iloadN H D7_301 (pc' := 302) rfl rfl ?_
  refine G.bipush H D7_302 (pc' := 304) rfl (v := 8) rfl ?_
  refine G.icmpYes H D7_304 (by decide) (by decide) (pc' := 371) rfl ?_
  refine G.iloadN H D7_371 (pc' := 372) rfl rfl ?_
  refine G.bipush H D7_372 (pc' := 374) rfl (v := 9) rfl ?_
  refine G.icmpNo H D7_374 (pc' := 377) rfl (by decide) ?_
  refine G.new H (wd6 V) (wd7 V) (wd8 V) D7_377 (pc' := 380) rfl (by decide) (by decide) ?_
  intro T1 h1_ a2 ga2 H1 E3 A4 D5
  have na2 := H.nle ga2
  refine G.dup H1 D7_380 (pc' := 381) rfl rfl ?_
  refine G.bipush H1 D7_381 (pc' := 383) rfl (v := 9) rfl ?_
  refine G.newP H1 (aty := .char) (wd1 V) D7_383 (pc' := 385) rfl (by decide) (cap := 9) (by decide) (by decide) (by decide) (by decide) (vs := [(.int 0), (.int 0), (.int 0), (.int 0), (.int 0), (.int 0), (.int 0), (.int 0), (.int 0)]) rfl (ad := "[C") rfl ?_
  intro T6 h6_ a7 k10 ga7 H6 E8 A9 X11
  have na7 := H1.nle ga7
  replace A9 : Arv Z h6_ a7 k10 .char 9 [(.int 0), (.int 0), (.int 0), (.int 0), (.int 0), (.int 0), (.int 0), (.int 0), (.int 0)] (.int 0) := A9
  refine G.dup H6 D7_385 (pc' := 386) rfl rfl ?_
  refine G.iconst H6 D7_386 (pc' := 387) rfl (v := 0) rfl ?_
  refine G.aloadN H6 D7_387 (pc' := 388) rfl rfl rfl ?_
  refine G.iconst H6 D7_388 (pc' := 389) rfl (v := 0) rfl ?_
  have K12 : Keep h0 h6_ [] := (Keep.ext (Keep.ext (Keep.refl h0 []) E3) E8)
  have F13 := (Arv.keep f0 K12 nin0)
  refine G.caloadG H6 F13 (j := 0) (v := (.int x0)) (by decide) rfl D7_389 (pc' := 390) rfl ?_
  refine G.stC H6 A9 (by decide) (i := 0) rfl lB na7 (y := x0) (own_narC r1) D7_390 (pc' := 391) rfl ?_
  intro T14 h14_ H14 W15 A16
  replace A16 : Arv Z h14_ a7 k10 .char 9 [(.int x0), (.int 0), (.int 0), (.int 0), (.int 0), (.int 0), (.int 0), (.int 0), (.int 0)] (.int 0) := A16
  refine G.dup H14 D7_391 (pc' := 392) rfl rfl ?_
  refine G.iconst H14 D7_392 (pc' := 393) rfl (v := 1) rfl ?_
  refine G.aloadN H14 D7_393 (pc' := 394) rfl rfl rfl ?_
  refine G.iconst H14 D7_394 (pc' := 395) rfl (v := 1) rfl ?_
  have K17 : Keep h0 h1_ [] := (Keep.ext (Keep.refl h0 []) E3)
  have N18 : p0 ≠ a7 := (Nat.ne_of_lt (Nat.lt_of_lt_of_le (Nat.lt_of_lt_of_le f0.lt K17.1) (Nat.le_of_eq ga7.symm)))
  have F19 := (Arv.other F13 W15 N18)
  refine G.caloadG H14 F19 (j := 1) (v := (.int x1)) (by decide) rfl D7_395 (pc' := 396) rfl ?_
  refine G.stC H14 A16 (by decide) (i := 1) rfl lB na7 (y := x1) (own_narC r2) D7_396 (pc' := 397) rfl ?_
  intro T20 h20_ H20 W21 A22
  replace A22 : Arv Z h20_ a7 k10 .char 9 [(.int x0), (.int x1), (.int 0), (.int 0), (.int 0), (.int 0), (.int 0), (.int 0), (.int 0)] (.int 0) := A22
  refine G.dup H20 D7_397 (pc' := 398) rfl rfl ?_
  refine G.iconst H20 D7_398 (pc' := 399) rfl (v := 2) rfl ?_
  refine G.aloadN H20 D7_399 (pc' := 400) rfl rfl rfl ?_
  refine G.iconst H20 D7_400 (pc' := 401) rfl (v := 2) rfl ?_
  have F23 := (Arv.other F19 W21 N18)
  refine G.caloadG H20 F23 (j := 2) (v := (.int x2)) (by decide) rfl D7_401 (pc' := 402) rfl ?_
  refine G.stC H20 A22 (by decide) (i := 2) rfl lB na7 (y := x2) (own_narC r3) D7_402 (pc' := 403) rfl ?_
  intro T24 h24_ H24 W25 A26
  replace A26 : Arv Z h24_ a7 k10 .char 9 [(.int x0), (.int x1), (.int x2), (.int 0), (.int 0), (.int 0), (.int 0), (.int 0), (.int 0)] (.int 0) := A26
  refine G.dup H24 D7_403 (pc' := 404) rfl rfl ?_
  refine G.iconst H24 D7_404 (pc' := 405) rfl (v := 3) rfl ?_
  refine G.aloadN H24 D7_405 (pc' := 406) rfl rfl rfl ?_
  refine G.iconst H24 D7_406 (pc' := 407) rfl (v := 3) rfl ?_
  have F27 := (Arv.other F23 W25 N18)
  refine G.caloadG H24 F27 (j := 3) (v := (.int x3)) (by decide) rfl D7_407 (pc' := 408) rfl ?_
  refine G.stC H24 A26 (by decide) (i := 3) rfl lB na7 (y := x3) (own_narC r4) D7_408 (pc' := 409) rfl ?_
  intro T28 h28_ H28 W29 A30
  replace A30 : Arv Z h28_ a7 k10 .char 9 [(.int x0), (.int x1), (.int x2), (.int x3), (.int 0), (.int 0), (.int 0), (.int 0), (.int 0)] (.int 0) := A30
  refine G.dup H28 D7_409 (pc' := 410) rfl rfl ?_
  refine G.iconst H28 D7_410 (pc' := 411) rfl (v := 4) rfl ?_
  refine G.aloadN H28 D7_411 (pc' := 412) rfl rfl rfl ?_
  refine G.iconst H28 D7_412 (pc' := 413) rfl (v := 4) rfl ?_
  have F31 := (Arv.other F27 W29 N18)
  refine G.caloadG H28 F31 (j := 4) (v := (.int x4)) (by decide) rfl D7_413 (pc' := 414) rfl ?_
  refine G.stC H28 A30 (by decide) (i := 4) rfl lB na7 (y := x4) (own_narC r5) D7_414 (pc' := 415) rfl ?_
  intro T32 h32_ H32 W33 A34
  replace A34 : Arv Z h32_ a7 k10 .char 9 [(.int x0), (.int x1), (.int x2), (.int x3), (.int x4), (.int 0), (.int 0), (.int 0), (.int 0)] (.int 0) := A34
  refine G.dup H32 D7_415 (pc' := 416) rfl rfl ?_
  refine G.iconst H32 D7_416 (pc' := 417) rfl (v := 5) rfl ?_
  refine G.aloadN H32 D7_417 (pc' := 418) rfl rfl rfl ?_
  refine G.iconst H32 D7_418 (pc' := 419) rfl (v := 5) rfl ?_
  have F35 := (Arv.other F31 W33 N18)
  refine G.caloadG H32 F35 (j := 5) (v := (.int x5)) (by decide) rfl D7_419 (pc' := 420) rfl ?_
  refine G.stC H32 A34 (by decide) (i := 5) rfl lB na7 (y := x5) (own_narC r6) D7_420 (pc' := 421) rfl ?_
  intro T36 h36_ H36 W37 A38
  replace A38 : Arv Z h36_ a7 k10 .char 9 [(.int x0), (.int x1), (.int x2), (.int x3), (.int x4), (.int x5), (.int 0), (.int 0), (.int 0)] (.int 0) := A38
  refine G.dup H36 D7_421 (pc' := 422) rfl rfl ?_
  refine G.bipush H36 D7_422 (pc' := 424) rfl (v := 6) rfl ?_
  refine G.aloadN H36 D7_424 (pc' := 425) rfl rfl rfl ?_
  refine G.bipush H36 D7_425 (pc' := 427) rfl (v := 6) rfl ?_
  have F39 := (Arv.other F35 W37 N18)
  refine G.caloadG H36 F39 (j := 6) (v := (.int x6)) (by decide) rfl D7_427 (pc' := 428) rfl ?_
  refine G.stC H36 A38 (by decide) (i := 6) rfl lB na7 (y := x6) (own_narC r7) D7_428 (pc' := 429) rfl ?_
  intro T40 h40_ H40 W41 A42
  replace A42 : Arv Z h40_ a7 k10 .char 9 [(.int x0), (.int x1), (.int x2), (.int x3), (.int x4), (.int x5), (.int x6), (.int 0), (.int 0)] (.int 0) := A42
  refine G.dup H40 D7_429 (pc' := 430) rfl rfl ?_
  refine G.bipush H40 D7_430 (pc' := 432) rfl (v := 7) rfl ?_
  refine G.aloadN H40 D7_432 (pc' := 433) rfl rfl rfl ?_
  refine G.bipush H40 D7_433 (pc' := 435) rfl (v := 7) rfl ?_
  have F43 := (Arv.other F39 W41 N18)
  refine G.caloadG H40 F43 (j := 7) (v := (.int x7)) (by decide) rfl D7_435 (pc' := 436) rfl ?_
  refine G.stC H40 A42 (by decide) (i := 7) rfl lB na7 (y := x7) (own_narC r8) D7_436 (pc' := 437) rfl ?_
  intro T44 h44_ H44 W45 A46
  replace A46 : Arv Z h44_ a7 k10 .char 9 [(.int x0), (.int x1), (.int x2), (.int x3), (.int x4), (.int x5), (.int x6), (.int x7), (.int 0)] (.int 0) := A46
  refine G.dup H44 D7_437 (pc' := 438) rfl rfl ?_
  refine G.bipush H44 D7_438 (pc' := 440) rfl (v := 8) rfl ?_
  refine G.aloadN H44 D7_440 (pc' := 441) rfl rfl rfl ?_
  refine G.bipush H44 D7_441 (pc' := 443) rfl (v := 8) rfl ?_
  have F47 := (Arv.other F43 W45 N18)
  refine G.caloadG H44 F47 (j := 8) (v := (.int x8)) (by decide) rfl D7_443 (pc' := 444) rfl ?_
  refine G.stC H44 A46 (by decide) (i := 8) rfl lB na7 (y := x8) (own_narC r9) D7_444 (pc' := 445) rfl ?_
  intro T48 h48_ H48 W49 A50
  replace A50 : Arv Z h48_ a7 k10 .char 9 [(.int x0), (.int x1), (.int x2), (.int x3), (.int x4), (.int x5), (.int x6), (.int x7), (.int x8)] (.int 0) := A50
  have K51 : Keep h1_ h48_ [] := (Keep.wr (Keep.wr (Keep.wr (Keep.wr (Keep.wr (Keep.wr (Keep.wr (Keep.wr (Keep.wr (Keep.ext (Keep.refl h1_ []) E8) W15 (Or.inr (Nat.le_of_eq ga7.symm))) W21 (Or.inr (Nat.le_of_eq ga7.symm))) W25 (Or.inr (Nat.le_of_eq ga7.symm))) W29 (Or.inr (Nat.le_of_eq ga7.symm))) W33 (Or.inr (Nat.le_of_eq ga7.symm))) W37 (Or.inr (Nat.le_of_eq ga7.symm))) W41 (Or.inr (Nat.le_of_eq ga7.symm))) W45 (Or.inr (Nat.le_of_eq ga7.symm))) W49 (Or.inr (Nat.le_of_eq ga7.symm)))
  have F52 := (Exa.keep A4 K51)
  have F53 : Fld Z h1_ a2 "java/lang/String" "value" "[B" .null := D5 (Or.inr (wd21 V)) (ty := (.array .byte)) (by decide)
  have F54 := (Fld.keep F53 K51 nin0)
  have F55 : Fld Z h1_ a2 "java/lang/String" "coder" "B" (.int 0) := D5 (Or.inr (wd22 V)) (ty := .byte) (by decide)
  have F56 := (Fld.keep F55 K51 nin0)
  refine G.newStr H48 (strw V) (wd7 V) (wd9 V) (wd10 V) (cs := [x0, x1, x2, x3, x4, x5, x6, x7, x8]) (n := 9) na2 F52 F54 F56 A50 (hv0 V) (hv1 V) rfl rfl (by decide) (by decide) (cbS r18 (cbS r17 (cbS r16 (cbS r15 (cbS r14 (cbS r13 (cbS r12 (cbS r11 (cbS r10 cb0))))))))) (Sf.mem (mG (i := 1) rfl)) (rest := [(.ref a2)]) (W := 1) rfl rfl D7_445 (pc' := 448) rfl (by decide) (by decide) (by decide) (by decide) ?_
  intro T57 h57_ t58 k59 g62 H57 K60 S61
  have nt58 : n0 ≤ t58 := Nat.le_trans H48.le g62
  have K63 : Keep h0 h57_ [] := (Keep.trans (Keep.wr (Keep.wr (Keep.wr (Keep.wr (Keep.wr (Keep.wr (Keep.wr (Keep.wr (Keep.wr (Keep.ext (Keep.ext (Keep.refl h0 []) E3) E8) W15 (Or.inr (Nat.le_trans K17.1 (Nat.le_of_eq ga7.symm)))) W21 (Or.inr (Nat.le_trans K17.1 (Nat.le_of_eq ga7.symm)))) W25 (Or.inr (Nat.le_trans K17.1 (Nat.le_of_eq ga7.symm)))) W29 (Or.inr (Nat.le_trans K17.1 (Nat.le_of_eq ga7.symm)))) W33 (Or.inr (Nat.le_trans K17.1 (Nat.le_of_eq ga7.symm)))) W37 (Or.inr (Nat.le_trans K17.1 (Nat.le_of_eq ga7.symm)))) W41 (Or.inr (Nat.le_trans K17.1 (Nat.le_of_eq ga7.symm)))) W45 (Or.inr (Nat.le_trans K17.1 (Nat.le_of_eq ga7.symm)))) W49 (Or.inr (Nat.le_trans K17.1 (Nat.le_of_eq ga7.symm)))) K60 (allS (Or.inr (Nat.le_of_eq ga2.symm)) all0))
  exact G.retA H57 (t := (.object "java/lang/String")) rfl rfl rfl D7_448 (so := [a2, t58]) (allS (mG (i := 2) rfl) (allS (mG (i := 0) rfl) all0)) (by decide) (by decide) ⟨a2, t58, k59, rfl, rfl, K63, (Nat.le_of_eq ga2.symm), (Nat.lt_of_lt_of_le (Nat.lt_of_lt_of_le A4.lt K51.1) g62), S61⟩
set_option maxRecDepth 65536 in
set_option maxHeartbeats 40000000 in
theorem m28_apply (V : Env1 Z a0 n0 uu0 uu1) (p0 : Addr) (p1 : Addr) (c0 : ClassId) (x0 : Int32) (x1 : Int32) (x2 : Int32) (x3 : Int32) (x4 : Int32) (x5 : Int32) (x6 : Int32) (x7 : Int32) (x8 : Int32) (h0 : Heap) (hO : Old Z n0 h0) (f0 : Str Z h0 p0 p1 c0 [x0, x1, x2, x3, x4, x5, x6, x7, x8]) (cc1 : x0 = 67) (cc2 : x1 = 79) (cc3 : x2 = 78) (cc4 : x3 = 78) (cc5 : x4 = 69) (cc6 : x5 = 67) (cc7 : x6 = 84) (cc8 : x7 = 69) (cc9 : x8 = 68) :
    Met Z a0 ELs True n0 l (⟨"bindery/server/stomp/HeaderEscapes", "apply", "(Ljava/lang/String;)Z"⟩ : MethodName) prog_84_method_2_code 1 (Option.some FieldType.boolean) ({ frames := 2, cells := 4, slots := 72, locals := 28 } : Room) #[(.ref p0)] h0 [p0, p1] (fun v h so => ([x0, x1, x2, x3, x4, x5, x6, x7, x8] = [67, 79, 78, 78, 69, 67, 84, 69, 68] ∧ v = some (.int 0) ∧ so = [] ∧ Keep h0 h [])) := by
  refine Met.of (EWl V) (by first | decide +kernel | rfl) hO (L0 := #[.val (.ref p0)]) rfl ?_
  intro p e s m below meth c T H
  show Go p e below _ (T.setTop (mkF m 0 #[.val (.ref p0)] []))
  refine G.aloadN H D8_0 (pc' := 1) rfl rfl rfl ?_
  refine G.ldcS H trivial (wS V) (wd31 V) (by decide) (vs := [(.int 67), (.int 79), (.int 78), (.int 78), (.int 69), (.int 67), (.int 84)]) (z := 7) (by decide) (by decide) rfl (n := 28) (by decide) (by decide) (by decide) (by decide) D8_1 (pc' := 3) rfl ?_
  intro T1 h1_ a2 b4 k5 H1 E3 X6 F7 F8 A9 Q10
  have S11 : Str Z h1_ a2 b4 k5 [67, 79, 78, 78, 69, 67, 84] := ⟨X6, F7, F8, A9, by decide, by decide⟩
  have F12 := (Str.ext E3 f0)
  refine G.strEq H1 (strwEq V) (wd7 V) (wd32 V) (wd33 V) (wd35 V) (wd34 V) F12 S11 (hv0 V) (hv1 V) (rest := []) (W := 0) rfl rfl D8_3 (pc' := 6) rfl (by decide) (by decide) (by decide) (by decide) ?_ ?_
  ·
    intro T13 H14 c15
    exact absurd c15 (by intro qq; simp at qq)
  ·
    intro T16 H17 c18
    refine G.ifNo H17 D8_6 (pc' := 9) rfl (by decide) ?_
    refine G.aloadN H17 D8_9 (pc' := 10) rfl rfl rfl ?_
    refine G.ldcS H17 trivial (wS V) (wd43 V) (by decide) (vs := [(.int 67), (.int 79), (.int 78), (.int 78), (.int 69), (.int 67), (.int 84), (.int 69), (.int 68)]) (z := 9) (by decide) (by decide) rfl (n := 36) (by decide) (by decide) (by decide) (by decide) D8_10 (pc' := 12) rfl ?_
    intro T19 h19_ a20 b22 k23 H19 E21 X24 F25 F26 A27 Q28
    have S29 : Str Z h19_ a20 b22 k23 [67, 79, 78, 78, 69, 67, 84, 69, 68] := ⟨X24, F25, F26, A27, by decide, by decide⟩
    have F30 := (Str.ext E21 F12)
    refine G.strEq H19 (strwEq V) (wd7 V) (wd32 V) (wd33 V) (wd35 V) (wd34 V) F30 S29 (hv0 V) (hv1 V) (rest := []) (W := 0) rfl rfl D8_12 (pc' := 15) rfl (by decide) (by decide) (by decide) (by decide) ?_ ?_
    ·
      intro T31 H32 c33
      refine G.ifYes H32 D8_15 (by decide) (by decide) (pc' := 22) rfl ?_
      refine G.iconst H32 D8_22 (pc' := 23) rfl (v := 0) rfl ?_
      have K34 : Keep h0 h19_ [] := (Keep.ext (Keep.ext (Keep.refl h0 []) E3) E21)
      exact G.retN H32 (t := .boolean) rfl (by decide) D8_23 (so := []) all0 (by decide) (by decide) ⟨c33, rfl, rfl, K34⟩
    ·
      intro T35 H36 c37
      exact absurd (lcs cc1 (lcs cc2 (lcs cc3 (lcs cc4 (lcs cc5 (lcs cc6 (lcs cc7 (lcs cc8 (lcs cc9 rfl))))))))) c37
set_option maxRecDepth 65536 in
set_option maxHeartbeats 40000000 in
theorem m29_apply (V : Env1 Z a0 n0 uu0 uu1) (p0 : Addr) (p1 : Addr) (c0 : ClassId) (x0 : Int32) (x1 : Int32) (x2 : Int32) (x3 : Int32) (x4 : Int32) (x5 : Int32) (x6 : Int32) (x7 : Int32) (x8 : Int32) (h0 : Heap) (hO : Old Z n0 h0) (f0 : Str Z h0 p0 p1 c0 [x0, x1, x2, x3, x4, x5, x6, x7, x8]) (cc1 : ¬ x0 = 67) (cc2 : x1 = 79) (cc3 : x2 = 78) (cc4 : x3 = 78) (cc5 : x4 = 69) (cc6 : x5 = 67) (cc7 : x6 = 84) (cc8 : x7 = 69) (cc9 : x8 = 68) :
    Met Z a0 ELs True n0 l (⟨"bindery/server/stomp/HeaderEscapes", "apply", "(Ljava/lang/String;)Z"⟩ : MethodName) prog_84_method_2_code 1 (Option.some FieldType.boolean) ({ frames := 2, cells := 4, slots := 72, locals := 28 } : Room) #[(.ref p0)] h0 [p0, p1] (fun v h so => (¬ [x0, x1, x2, x3, x4, x5, x6, x7, x8] = [67, 79, 78, 78, 69, 67, 84, 69, 68] ∧ v = some (.int 1) ∧ so = [] ∧ Keep h0 h [])) := by
  refine Met.of (EWl V) (by first | decide +kernel | rfl) hO (L0 := #[.val (.ref p0)]) rfl ?_
  intro p e s m below meth c T H
  show Go p e below _ (T.setTop (mkF m 0 #[.val (.ref p0)] []))
  refine G.aloadN H D8_0 (pc' := 1) rfl rfl rfl ?_
  refine G.ldcS H trivial (wS V) (wd31 V) (by decide) (vs := [(.int 67), (.int 79), (.int 78), (.int 78), (.int 69), (.int 67), (.int 84)]) (z := 7) (by decide) (by decide) rfl (n := 28) (by decide) (by decide) (by decide) (by decide) D8_1 (pc' := 3) rfl ?_
  intro T1 h1_ a2 b4 k5 H1 E3 X6 F7 F8 A9 Q10
  have S11 : Str Z h1_ a2 b4 k5 [67, 79, 78, 78, 69, 67, 84] := ⟨X6, F7, F8, A9, by decide, by decide⟩
  have F12 := (Str.ext E3 f0)
  refine G.strEq H1 (strwEq V) (wd7 V) (wd32 V) (wd33 V) (wd35 V) (wd34 V) F12 S11 (hv0 V) (hv1 V) (rest := []) (W := 0) rfl rfl D8_3 (pc' := 6) rfl (by decide) (by decide) (by decide) (by decide) ?_ ?_
  ·
    intro T13 H14 c15
    exact absurd c15 (by intro qq; simp at qq)
  ·
    intro T16 H17 c18
    refine G.ifNo H17 D8_6 (pc' := 9) rfl (by decide) ?_
    refine G.aloadN H17 D8_9 (pc' := 10) rfl rfl rfl ?_
    refine G.ldcS H17 trivial (wS V) (wd43 V) (by decide) (vs := [(.int 67), (.int 79), (.int 78), (.int 78), (.int 69), (.int 67), (.int 84), (.int 69), (.int 68)]) (z := 9) (by decide) (by decide) rfl (n := 36) (by decide) (by decide) (by decide) (by decide) D8_10 (pc' := 12) rfl ?_
    intro T19 h19_ a20 b22 k23 H19 E21 X24 F25 F26 A27 Q28
    have S29 : Str Z h19_ a20 b22 k23 [67, 79, 78, 78, 69, 67, 84, 69, 68] := ⟨X24, F25, F26, A27, by decide, by decide⟩
    have F30 := (Str.ext E21 F12)
    refine G.strEq H19 (strwEq V) (wd7 V) (wd32 V) (wd33 V) (wd35 V) (wd34 V) F30 S29 (hv0 V) (hv1 V) (rest := []) (W := 0) rfl rfl D8_12 (pc' := 15) rfl (by decide) (by decide) (by decide) (by decide) ?_ ?_
    ·
      intro T31 H32 c33
      exact absurd (List.cons.inj c33).1 cc1
    ·
      intro T34 H35 c36
      refine G.ifNo H35 D8_15 (pc' := 18) rfl (by decide) ?_
      refine G.iconst H35 D8_18 (pc' := 19) rfl (v := 1) rfl ?_
      refine G.goto H35 D8_19 (by decide) (pc' := 23) rfl ?_
      have K37 : Keep h0 h19_ [] := (Keep.ext (Keep.ext (Keep.refl h0 []) E3) E21)
      exact G.retN H35 (t := .boolean) rfl (by decide) D8_23 (so := []) all0 (by decide) (by decide) ⟨c36, rfl, rfl, K37⟩
set_option maxRecDepth 65536 in
set_option maxHeartbeats 40000000 in
theorem m30_cut (V : Env1 Z a0 n0 uu0 uu1) (p0 : Addr) (c0 : ClassId) (x0 : Int32) (x1 : Int32) (x2 : Int32) (x3 : Int32) (x4 : Int32) (x5 : Int32) (x6 : Int32) (x7 : Int32) (x8 : Int32) (x9 : Int32) (h0 : Heap) (hO : Old Z n0 h0) (f0 : Arv Z h0 p0 c0 .char 10 [(.int x0), (.int x1), (.int x2), (.int x3), (.int x4), (.int x5), (.int x6), (.int x7), (.int x8), (.int x9)] (.int 0)) (r1 : ¬ x0 < 0 ∧ ¬ 65535 < x0) (r2 : ¬ x1 < 0 ∧ ¬ 65535 < x1) (r3 : ¬ x2 < 0 ∧ ¬ 65535 < x2) (r4 : ¬ x3 < 0 ∧ ¬ 65535 < x3) (r5 : ¬ x4 < 0 ∧ ¬ 65535 < x4) (r6 : ¬ x5 < 0 ∧ ¬ 65535 < x5) (r7 : ¬ x6 < 0 ∧ ¬ 65535 < x6) (r8 : ¬ x7 < 0 ∧ ¬ 65535 < x7) (r9 : ¬ x8 < 0 ∧ ¬ 65535 < x8) (r10 : ¬ x9 < 0 ∧ ¬ 65535 < x9) (r11 : ¬ x9 < 0 ∧ ¬ 255 < x9) (r12 : ¬ x8 < 0 ∧ ¬ 255 < x8) (r13 : ¬ x7 < 0 ∧ ¬ 255 < x7) (r14 : ¬ x6 < 0 ∧ ¬ 255 < x6) (r15 : ¬ x5 < 0 ∧ ¬ 255 < x5) (r16 : ¬ x4 < 0 ∧ ¬ 255 < x4) (r17 : ¬ x3 < 0 ∧ ¬ 255 < x3) (r18 : ¬ x2 < 0 ∧ ¬ 255 < x2) (r19 : ¬ x1 < 0 ∧ ¬ 255 < x1) (r20 : ¬ x0 < 0 ∧ ¬ 255 < x0) :
    Met Z a0 ELs True n0 l (⟨"bindery/server/stomp/HeaderEscapesApplyPinLaw", "cut", "([CI)Ljava/lang/String;"⟩ : MethodName) method_3_code 2 (Option.some (FieldType.object "java/lang/String")) ({ frames := 4, cells := 3, slots := 24, locals := 66 } : Room) #[(.ref p0), (.int 10)] h0 [] (fun v h so => (∃ a2 t62 : Addr, ∃ k63 : ClassId, v = some (.ref a2) ∧ so = [a2, t62] ∧ Keep h0 h [] ∧ h0.size ≤ a2 ∧ a2 < t62 ∧ Str Z h a2 t62 k63 [x0, x1, x2, x3, x4, x5, x6, x7, x8, x9])) := by
  refine Met.of (EWl V) (by first | decide +kernel | rfl) hO (L0 := #[.val (.ref p0), .val (.int 10)]) rfl ?_
  intro p e s m below meth c T H
  show Go p e below _ (T.setTop (mkF m 0 #[.val (.ref p0), .val (.int 10)] []))
  refine G.iloadN H D7_0 (pc' := 1) rfl rfl ?_
  refine G.ifYes H D7_1 (by decide) (by decide) (pc' := 15) rfl ?_
  refine G.iloadN H D7_15 (pc' := 16) rfl rfl ?_
  refine G.iconst H D7_16 (pc' := 17) rfl (v := 1) rfl ?_
  refine G.icmpYes H D7_17 (by decide) (by decide) (pc' := 37) rfl ?_
  refine G.iloadN H D7_37 (pc' := 38) rfl rfl ?_
  refine G.iconst H D7_38 (pc' := 39) rfl (v := 2) rfl ?_
  refine G.icmpYes H D7_39 (by decide) (by decide) (pc' := 65) rfl ?_
  refine G.iloadN H D7_65 (pc' := 66) rfl rfl ?_
  refine G.iconst H D7_66 (pc' := 67) rfl (v := 3) rfl ?_
  refine G.icmpYes H D7_67 (by decide) (by decide) (pc' := 99) rfl ?_
  refine G.iloadN H D7_99 (pc' := 100) rfl rfl ?_
  refine G.iconst H D7_100 (pc' := 101) rfl (v := 4) rfl ?_
  refine G.icmpYes H D7_101 (by decide) (by decide) (pc' := 139) rfl ?_
  refine G.iloadN H D7_139 (pc' := 140) rfl rfl ?_
  refine G.iconst H D7_140 (pc' := 141) rfl (v := 5) rfl ?_
  refine G.icmpYes H D7_141 (by decide) (by decide) (pc' := 185) rfl ?_
  refine G.iloadN H D7_185 (pc' := 186) rfl rfl ?_
  refine G.bipush H D7_186 (pc' := 188) rfl (v := 6) rfl ?_
  refine G.icmpYes H D7_188 (by decide) (by decide) (pc' := 239) rfl ?_
  refine G.iloadN H D7_239 (pc' := 240) rfl rfl ?_
  refine G.bipush H D7_240 (pc' := 242) rfl (v := 7) rfl ?_
  refine G.icmpYes H D7_242 (by decide) (by decide) (pc' := 301) rfl ?_
  refine G.iloadN H D7_301 (pc' := 302) rfl rfl ?_
  refine G.bipush H D7_302 (pc' := 304) rfl (v := 8) rfl ?_
  refine G.icmpYes H D7_304 (by decide) (by decide) (pc' := 371) rfl ?_
  refine G.iloadN H D7_371 (pc' := 372) rfl rfl ?_
  refine G.bipush H D7_372 (pc' := 374) rfl (v := 9) rfl ?_
  refine G.icmpYes H D7_374 (by decide) (by decide) (pc' := 449) rfl ?_
  refine G.new H (wd6 V) (wd7 V) (wd8 V) D7_449 (pc' := 452) rfl (by decide) (by decide) ?_
  intro T1 h1_ a2 ga2 H1 E3 A4 D5
  have na2 := H.nle ga2
  refine G.dup H1 D7_452 (pc' := 453) rfl rfl ?_
  refine G.bipush H1 D7_453 (pc' := 455) rfl (v := 10) rfl ?_
  refine G.newP H1 (aty := .char) (wd1 V) D7_455 (pc' := 457) rfl (by decide) (cap := 10) (by decide) (by decide) (by decide) (by decide) (vs := [(.int 0), (.int 0), (.int 0), (.int 0), (.int 0), (.int 0), (.int 0), (.int 0), (.int 0), (.int 0)]) rfl (ad := "[C") rfl ?_
  intro T6 h6_ a7 k10 ga7 H6 E8 A9 X11
  have na7 := H1.nle ga7
  replace A9 : Arv Z h6_ a7 k10 .char 10 [(.int 0), (.int 0), (.int 0), (.int 0), (.int 0), (.int 0), (.int 0), (.int 0), (.int 0), (.int 0)] (.int 0) := A9
  refine G.dup H6 D7_457 (pc' := 458) rfl rfl ?_
  refine G.iconst H6 D7_458 (pc' := 459) rfl (v := 0) rfl ?_
  refine G.aloadN H6 D7_459 (pc' := 460) rfl rfl rfl ?_
  refine G.iconst H6 D7_460 (pc' := 461) rfl (v := 0) rfl ?_
  have K12 : Keep h0 h6_ [] := (Keep.ext (Keep.ext (Keep.refl h0 []) E3) E8)
  have F13 := (Arv.keep f0 K12 nin0)
  refine G.caloadG H6 F13 (j := 0) (v := (.int x0)) (by decide) rfl D7_461 (pc' := 462) rfl ?_
  refine G.stC H6 A9 (by decide) (i := 0) rfl lB na7 (y := x0) (own_narC r1) D7_462 (pc' := 463) rfl ?_
  intro T14 h14_ H14 W15 A16
  replace A16 : Arv Z h14_ a7 k10 .char 10 [(.int x0), (.int 0), (.int 0), (.int 0), (.int 0), (.int 0), (.int 0), (.int 0), (.int 0), (.int 0)] (.int 0) := A16
  refine G.dup H14 D7_463 (pc' := 464) rfl rfl ?_
  refine G.iconst H14 D7_464 (pc' := 465) rfl (v := 1) rfl ?_
  refine G.aloadN H14 D7_465 (pc' := 466) rfl rfl rfl ?_
  refine G.iconst H14 D7_466 (pc' := 467) rfl (v := 1) rfl ?_
  have K17 : Keep h0 h1_ [] := (Keep.ext (Keep.refl h0 []) E3)
  have N18 : p0 ≠ a7 := (Nat.ne_of_lt (Nat.lt_of_lt_of_le (Nat.lt_of_lt_of_le f0.lt K17.1) (Nat.le_of_eq ga7.symm)))
  have F19 := (Arv.other F13 W15 N18)
  refine G.caloadG H14 F19 (j := 1) (v := (.int x1)) (by decide) rfl D7_467 (pc' := 468) rfl ?_
  refine G.stC H14 A16 (by decide) (i := 1) rfl lB na7 (y := x1) (own_narC r2) D7_468 (pc' := 469) rfl ?_
  intro T20 h20_ H20 W21 A22
  replace A22 : Arv Z h20_ a7 k10 .char 10 [(.int x0), (.int x1), (.int 0), (.int 0), (.int 0), (.int 0), (.int 0), (.int 0), (.int 0), (.int 0)] (.int 0) := A22
  refine G.dup H20 D7_469 (pc' := 470) rfl rfl ?_
  refine G.iconst H20 D7_470 (pc' := 471) rfl (v := 2) rfl ?_
  refine G.aloadN H20 D7_471 (pc' := 472) rfl rfl rfl ?_
  refine G.iconst H20 D7_472 (pc' := 473) rfl (v := 2) rfl ?_
  have F23 := (Arv.other F19 W21 N18)
  refine G.caloadG H20 F23 (j := 2) (v := (.int x2)) (by decide) rfl D7_473 (pc' := 474) rfl ?_
  refine G.stC H20 A22 (by decide) (i := 2) rfl lB na7 (y := x2) (own_narC r3) D7_474 (pc' := 475) rfl ?_
  intro T24 h24_ H24 W25 A26
  replace A26 : Arv Z h24_ a7 k10 .char 10 [(.int x0), (.int x1), (.int x2), (.int 0), (.int 0), (.int 0), (.int 0), (.int 0), (.int 0), (.int 0)] (.int 0) := A26
  refine G.dup H24 D7_475 (pc' := 476) rfl rfl ?_
  refine G.iconst H24 D7_476 (pc' := 477) rfl (v := 3) rfl ?_
  refine G.aloadN H24 D7_477 (pc' := 478) rfl rfl rfl ?_
  refine G.iconst H24 D7_478 (pc' := 479) rfl (v := 3) rfl ?_
  have F27 := (Arv.other F23 W25 N18)
  refine G.caloadG H24 F27 (j := 3) (v := (.int x3)) (by decide) rfl D7_479 (pc' := 480) rfl ?_
  refine G.stC H24 A26 (by decide) (i := 3) rfl lB na7 (y := x3) (own_narC r4) D7_480 (pc' := 481) rfl ?_
  intro T28 h28_ H28 W29 A30
  replace A30 : Arv Z h28_ a7 k10 .char 10 [(.int x0), (.int x1), (.int x2), (.int x3), (.int 0), (.int 0), (.int 0), (.int 0), (.int 0), (.int 0)] (.int 0) := A30
  refine G.dup H28 D7_481 (pc' := 482) rfl rfl ?_
  refine G.iconst H28 D7_482 (pc' := 483) rfl (v := 4) rfl ?_
  refine G.aloadN H28 D7_483 (pc' := 484) rfl rfl rfl ?_
  refine G.iconst H28 D7_484 (pc' := 485) rfl (v := 4) rfl ?_
  have F31 := (Arv.other F27 W29 N18)
  refine G.caloadG H28 F31 (j := 4) (v := (.int x4)) (by decide) rfl D7_485 (pc' := 486) rfl ?_
  refine G.stC H28 A30 (by decide) (i := 4) rfl lB na7 (y := x4) (own_narC r5) D7_486 (pc' := 487) rfl ?_
  intro T32 h32_ H32 W33 A34
  replace A34 : Arv Z h32_ a7 k10 .char 10 [(.int x0), (.int x1), (.int x2), (.int x3), (.int x4), (.int 0), (.int 0), (.int 0), (.int 0), (.int 0)] (.int 0) := A34
  refine G.dup H32 D7_487 (pc' := 488) rfl rfl ?_
  refine G.iconst H32 D7_488 (pc' := 489) rfl (v := 5) rfl ?_
  refine G.aloadN H32 D7_489 (pc' := 490) rfl rfl rfl ?_
  refine G.iconst H32 D7_490 (pc' := 491) rfl (v := 5) rfl ?_
  have F35 := (Arv.other F31 W33 N18)
  refine G.caloadG H32 F35 (j := 5) (v := (.int x5)) (by decide) rfl D7_491 (pc' := 492) rfl ?_
  refine G.stC H32 A34 (by decide) (i := 5) rfl lB na7 (y := x5) (own_narC r6) D7_492 (pc' := 493) rfl ?_
  intro T36 h36_ H36 W37 A38
  replace A38 : Arv Z h36_ a7 k10 .char 10 [(.int x0), (.int x1), (.int x2), (.int x3), (.int x4), (.int x5), (.int 0), (.int 0), (.int 0), (.int 0)] (.int 0) := A38
  refine G.dup H36 D7_493 (pc' := 494) rfl rfl ?_
  refine G.bipush H36 D7_494 (pc' := 496) rfl (v := 6) rfl ?_
  refine G.aloadN H36 D7_496 (pc' := 497) rfl rfl rfl ?_
  refine G.bipush H36 D7_497 (pc' := 499) rfl (v := 6) rfl ?_
  have F39 := (Arv.other F35 W37 N18)
  refine G.caloadG H36 F39 (j := 6) (v := (.int x6)) (by decide) rfl D7_499 (pc' := 500) rfl ?_
  refine G.stC H36 A38 (by decide) (i := 6) rfl lB na7 (y := x6) (own_narC r7) D7_500 (pc' := 501) rfl ?_
  intro T40 h40_ H40 W41 A42
  replace A42 : Arv Z h40_ a7 k10 .char 10 [(.int x0), (.int x1), (.int x2), (.int x3), (.int x4), (.int x5), (.int x6), (.int 0), (.int 0), (.int 0)] (.int 0) := A42
  refine G.dup H40 D7_501 (pc' := 502) rfl rfl ?_
  refine G.bipush H40 D7_502 (pc' := 504) rfl (v := 7) rfl ?_
  refine G.aloadN H40 D7_504 (pc' := 505) rfl rfl rfl ?_
  refine G.bipush H40 D7_505 (pc' := 507) rfl (v := 7) rfl ?_
  have F43 := (Arv.other F39 W41 N18)
  refine G.caloadG H40 F43 (j := 7) (v := (.int x7)) (by decide) rfl D7_507 (pc' := 508) rfl ?_
  refine G.stC H40 A42 (by decide) (i := 7) rfl lB na7 (y := x7) (own_narC r8) D7_508 (pc' := 509) rfl ?_
  intro T44 h44_ H44 W45 A46
  replace A46 : Arv Z h44_ a7 k10 .char 10 [(.int x0), (.int x1), (.int x2), (.int x3), (.int x4), (.int x5), (.int x6), (.int x7), (.int 0), (.int 0)] (.int 0) := A46
  refine G.dup H44 D7_509 (pc' := 510) rfl rfl ?_
  refine G.bipush H44 D7_510 (pc' := 512) rfl (v := 8) rfl ?_
  refine G.aloadN H44 D7_512 (pc' := 513) rfl rfl rfl ?_
  refine G.bipush H44 D7_513 (pc' := 515) rfl (v := 8) rfl ?_
  have F47 := (Arv.other F43 W45 N18)
  refine G.caloadG H44 F47 (j := 8) (v := (.int x8)) (by decide) rfl D7_515 (pc' := 516) rfl ?_
  refine G.stC H44 A46 (by decide) (i := 8) rfl lB na7 (y := x8) (own_narC r9) D7_516 (pc' := 517) rfl ?_
  intro T48 h48_ H48 W49 A50
  replace A50 : Arv Z h48_ a7 k10 .char 10 [(.int x0), (.int x1), (.int x2), (.int x3), (.int x4), (.int x5), (.int x6), (.int x7), (.int x8), (.int 0)] (.int 0) := A50
  refine G.dup H48 D7_517 (pc' := 518) rfl rfl ?_
  refine G.bipush H48 D7_518 (pc' := 520) rfl (v := 9) rfl ?_
  refine G.aloadN H48 D7_520 (pc' := 521) rfl rfl rfl ?_
  refine G.bipush H48 D7_521 (pc' := 523) rfl (v := 9) rfl ?_
  have F51 := (Arv.other F47 W49 N18)
  refine G.caloadG H48 F51 (j := 9) (v := (.int x9)) (by decide) rfl D7_523 (pc' := 524) rfl ?_
  refine G.stC H48 A50 (by decide) (i := 9) rfl lB na7 (y := x9) (own_narC r10) D7_524 (pc' := 525) rfl ?_
  intro T52 h52_ H52 W53 A54
  replace A54 : Arv Z h52_ a7 k10 .char 10 [(.int x0), (.int x1), (.int x2), (.int x3), (.int x4), (.int x5), (.int x6), (.int x7), (.int x8), (.int x9)] (.int 0) := A54
  have K55 : Keep h1_ h52_ [] := (Keep.wr (Keep.wr (Keep.wr (Keep.wr (Keep.wr (Keep.wr (Keep.wr (Keep.wr (Keep.wr (Keep.wr (Keep.ext (Keep.refl h1_ []) E8) W15 (Or.inr (Nat.le_of_eq ga7.symm))) W21 (Or.inr (Nat.le_of_eq ga7.symm))) W25 (Or.inr (Nat.le_of_eq ga7.symm))) W29 (Or.inr (Nat.le_of_eq ga7.symm))) W33 (Or.inr (Nat.le_of_eq ga7.symm))) W37 (Or.inr (Nat.le_of_eq ga7.symm))) W41 (Or.inr (Nat.le_of_eq ga7.symm))) W45 (Or.inr (Nat.le_of_eq ga7.symm))) W49 (Or.inr (Nat.le_of_eq ga7.symm))) W53 (Or.inr (Nat.le_of_eq ga7.symm)))
  have F56 := (Exa.keep A4 K55)
  have F57 : Fld Z h1_ a2 "java/lang/String" "value" "[B" .null := D5 (Or.inr (wd21 V)) (ty := (.array .byte)) (by decide)
  have F58 := (Fld.keep F57 K55 nin0)
  have F59 : Fld Z h1_ a2 "java/lang/String" "coder" "B" (.int 0) := D5 (Or.inr (wd22 V)) (ty := .byte) (by decide)
  have F60 := (Fld.keep F59 K55 nin0)
  refine G.newStr H52 (strw V) (wd7 V) (wd9 V) (wd10 V) (cs := [x0, x1, x2, x3, x4, x5, x6, x7, x8, x9]) (n := 10) na2 F56 F58 F60 A54 (hv0 V) (hv1 V) rfl rfl (by decide) (by decide) (cbS r20 (cbS r19 (cbS r18 (cbS r17 (cbS r16 (cbS r15 (cbS r14 (cbS r13 (cbS r12 (cbS r11 cb0)))))))))) (Sf.mem (mG (i := 1) rfl)) (rest := [(.ref a2)]) (W := 1) rfl rfl D7_525 (pc' := 528) rfl (by decide) (by decide) (by decide) (by decide) ?_
  intro T61 h61_ t62 k63 g66 H61 K64 S65
  have nt62 : n0 ≤ t62 := Nat.le_trans H52.le g66
  have K67 : Keep h0 h61_ [] := (Keep.trans (Keep.wr (Keep.wr (Keep.wr (Keep.wr (Keep.wr (Keep.wr (Keep.wr (Keep.wr (Keep.wr (Keep.wr (Keep.ext (Keep.ext (Keep.refl h0 []) E3) E8) W15 (Or.inr (Nat.le_trans K17.1 (Nat.le_of_eq ga7.symm)))) W21 (Or.inr (Nat.le_trans K17.1 (Nat.le_of_eq ga7.symm)))) W25 (Or.inr (Nat.le_trans K17.1 (Nat.le_of_eq ga7.symm)))) W29 (Or.inr (Nat.le_trans K17.1 (Nat.le_of_eq ga7.symm)))) W33 (Or.inr (Nat.le_trans K17.1 (Nat.le_of_eq ga7.symm)))) W37 (Or.inr (Nat.le_trans K17.1 (Nat.le_of_eq ga7.symm)))) W41 (Or.inr (Nat.le_trans K17.1 (Nat.le_of_eq ga7.symm)))) W45 (Or.inr (Nat.le_trans K17.1 (Nat.le_of_eq ga7.symm)))) W49 (Or.inr (Nat.le_trans K17.1 (Nat.le_of_eq ga7.symm)))) W53 (Or.inr (Nat.le_trans K17.1 (Nat.le_of_eq ga7.symm)))) K64 (allS (Or.inr (Nat.le_of_eq ga2.symm)) all0))
  exact G.retA H61 (t := (.object "java/lang/String")) rfl rfl rfl D7_528 (so := [a2, t62]) (allS (mG (i := 2) rfl) (allS (mG (i := 0) rfl) all0)) (by decide) (by decide) ⟨a2, t62, k63, rfl, rfl, K67, (Nat.le_of_eq ga2.symm), (Nat.lt_of_lt_of_le (Nat.lt_of_lt_of_le A4.lt K55.1) g66), S65⟩
set_option maxRecDepth 65536 in
set_option maxHeartbeats 40000000 in
theorem m31_apply (V : Env1 Z a0 n0 uu0 uu1) (p0 : Addr) (p1 : Addr) (c0 : ClassId) (x0 : Int32) (x1 : Int32) (x2 : Int32) (x3 : Int32) (x4 : Int32) (x5 : Int32) (x6 : Int32) (x7 : Int32) (x8 : Int32) (x9 : Int32) (h0 : Heap) (hO : Old Z n0 h0) (f0 : Str Z h0 p0 p1 c0 [x0, x1, x2, x3, x4, x5, x6, x7, x8, x9]) :
    Met Z a0 ELs True n0 l (⟨"bindery/server/stomp/HeaderEscapes", "apply", "(Ljava/lang/String;)Z"⟩ : MethodName) prog_84_method_2_code 1 (Option.some FieldType.boolean) ({ frames := 2, cells := 4, slots := 72, locals := 28 } : Room) #[(.ref p0)] h0 [p0, p1] (fun v h so => (v = some (.int 1) ∧ so = [] ∧ Keep h0 h [])) := by
  refine Met.of (EWl V) (by first | decide +kernel | rfl) hO (L0 := #[.val (.ref p0)]) rfl ?_
  intro p e s m below meth c T H
  show Go p e below _ (T.setTop (mkF m 0 #[.val (.ref p0)] []))
  refine G.aloadN H D8_0 (pc' := 1) rfl rfl rfl ?_
  refine G.ldcS H trivial (wS V) (wd31 V) (by decide) (vs := [(.int 67), (.int 79), (.int 78), (.int 78), (.int 69), (.int 67), (.int 84)]) (z := 7) (by decide) (by decide) rfl (n := 28) (by decide) (by decide) (by decide) (by decide) D8_1 (pc' := 3) rfl ?_
  intro T1 h1_ a2 b4 k5 H1 E3 X6 F7 F8 A9 Q10
  have S11 : Str Z h1_ a2 b4 k5 [67, 79, 78, 78, 69, 67, 84] := ⟨X6, F7, F8, A9, by decide, by decide⟩
  have F12 := (Str.ext E3 f0)
  refine G.strEq H1 (strwEq V) (wd7 V) (wd32 V) (wd33 V) (wd35 V) (wd34 V) F12 S11 (hv0 V) (hv1 V) (rest := []) (W := 0) rfl rfl D8_3 (pc' := 6) rfl (by decide) (by decide) (by decide) (by decide) ?_ ?_
  ·
    intro T13 H14 c15
    exact absurd c15 (by intro qq; simp at qq)
  ·
    intro T16 H17 c18
    refine G.ifNo H17 D8_6 (pc' := 9) rfl (by decide) ?_
    refine G.aloadN H17 D8_9 (pc' := 10) rfl rfl rfl ?_
    refine G.ldcS H17 trivial (wS V) (wd43 V) (by decide) (vs := [(.int 67), (.int 79), (.int 78), (.int 78), (.int 69), (.int 67), (.int 84), (.int 69), (.int 68)]) (z := 9) (by decide) (by decide) rfl (n := 36) (by decide) (by decide) (by decide) (by decide) D8_10 (pc' := 12) rfl ?_
    intro T19 h19_ a20 b22 k23 H19 E21 X24 F25 F26 A27 Q28
    have S29 : Str Z h19_ a20 b22 k23 [67, 79, 78, 78, 69, 67, 84, 69, 68] := ⟨X24, F25, F26, A27, by decide, by decide⟩
    have F30 := (Str.ext E21 F12)
    refine G.strEq H19 (strwEq V) (wd7 V) (wd32 V) (wd33 V) (wd35 V) (wd34 V) F30 S29 (hv0 V) (hv1 V) (rest := []) (W := 0) rfl rfl D8_12 (pc' := 15) rfl (by decide) (by decide) (by decide) (by decide) ?_ ?_
    ·
      intro T31 H32 c33
      exact absurd c33 (by intro qq; simp at qq)
    ·
      intro T34 H35 c36
      refine G.ifNo H35 D8_15 (pc' := 18) rfl (by decide) ?_
      refine G.iconst H35 D8_18 (pc' := 19) rfl (v := 1) rfl ?_
      refine G.goto H35 D8_19 (by decide) (pc' := 23) rfl ?_
      have K37 : Keep h0 h19_ [] := (Keep.ext (Keep.ext (Keep.refl h0 []) E3) E21)
      exact G.retN H35 (t := .boolean) rfl (by decide) D8_23 (so := []) all0 (by decide) (by decide) ⟨rfl, rfl, K37⟩
set_option maxRecDepth 65536 in
set_option maxHeartbeats 40000000 in
theorem cut32_101 (V : Env1 Z a0 n0 uu0 uu1) (x90101 : Int32) (x70000 : Int32) (x70001 : Int32) (x70002 : Int32) (x70003 : Int32) (x2 : Int32) (x70007 : Int32) (p0 : Addr) (c0 : ClassId) (e0 : Int32) (e1 : Int32) (e2 : Int32) (e3 : Int32) (e4 : Int32) (e5 : Int32) (e6 : Int32) (e7 : Int32) (e8 : Int32) (e9 : Int32) (x3 : Int32) (H : Hs p l e room_1 s m as' below meth c Z a0 ELs True x.cls n0 code maxLocals ret x.name T h0 1 10 []) (re0 : ¬ e0 < 0 ∧ ¬ 255 < e0) (qe0 : e0 = (x2 &&& 255)) (re1 : ¬ e1 < 0 ∧ ¬ 255 < e1) (qe1 : e1 = 79) (re2 : ¬ e2 < 0 ∧ ¬ 255 < e2) (qe2 : e2 = 78) (re3 : ¬ e3 < 0 ∧ ¬ 255 < e3) (qe3 : e3 = 78) (re4 : ¬ e4 < 0 ∧ ¬ 255 < e4) (qe4 : e4 = 69) (re5 : ¬ e5 < 0 ∧ ¬ 255 < e5) (qe5 : e5 = 67) (re6 : ¬ e6 < 0 ∧ ¬ 255 < e6) (qe6 : e6 = 84) (re7 : ¬ e7 < 0 ∧ ¬ 255 < e7) (qe7 : e7 = 69) (re8 : ¬ e8 < 0 ∧ ¬ 255 < e8) (qe8 : e8 = 68) (re9 : ¬ e9 < 0 ∧ ¬ 255 < e9) (qe9 : e9 = (x3 &&& 255)) (fA8 : Arv Z h0 p0 c0 .char 10 [(.int e0), (.int e1), (.int e2), (.int e3), (.int e4), (.int e5), (.int e6), (.int e7), (.int e8), (.int e9)] (.int 0)) (sp : x90101 = 0 ∨ x90101 = 1 ∨ x90101 = 2 ∨ x90101 = 3 ∨ x90101 = 4 ∨ x90101 = 5 ∨ x90101 = 6 ∨ x90101 = 7 ∨ x90101 = 8 ∨ x90101 = 9 ∨ x90101 = 10) :
    Go p e below (FinP s below Z ELs True n0 room_1.cells room_1.slots (fun v h so => v = some (.int 1))) (T.setTop (mkF m 101 #[.val (.int x70000), .val (.int x70001), .val (.int x70002), .val (.int x70003), .val (.int x90101), .val (.int 0), .val (.int (x2 &&& 255)), .val (.int x70007), .val (.ref p0), .unset, .unset] [])) := by
  rcases sp with rfl | rfl | rfl | rfl | rfl | rfl | rfl | rfl | rfl | rfl | rfl
  ·
    refine G.aload H at_101 (pc' := 103) rfl rfl rfl ?_
    refine G.iload H at_103 (pc' := 105) rfl rfl ?_
    refine G.callS H (m3_cut V p0 h0 H.old) (wd2 V) (wd3 V) (wd4 V) (wd5 V) (by decide) (argsL := [(.ref p0), (.int 0)]) (rest := []) (W := 0) rfl rfl (lenOf (pd_2) rfl) rfl rfl at_105 (pc' := 108) rfl (by decide) (by decide) (by decide) (by decide) all0 ?_
    intro T1 h1_ v2 s3 H1 Q4
    obtain ⟨a5, a6, k7, rfl, rfl, K8, g9, F10, F11, F12, F13⟩ := Q4
    have na5 : n0 ≤ a5 := Nat.le_trans H.le g9
    show Go p e below _ (T1.setTop (mkF m 108 #[.val (.int x70000), .val (.int x70001), .val (.int x70002), .val (.int x70003), .val (.int 0), .val (.int 0), .val (.int (x2 &&& 255)), .val (.int x70007), .val (.ref p0), .unset, .unset] [(.ref a5)]))
    refine G.astore H1 (L' := #[.val (.int x70000), .val (.int x70001), .val (.int x70002), .val (.int x70003), .val (.int 0), .val (.int 0), .val (.int (x2 &&& 255)), .val (.int x70007), .val (.ref p0), .val (.ref a5), .unset]) at_108 (pc' := 110) rfl rfl rfl ?_
    refine G.iload H1 at_110 (pc' := 112) rfl rfl ?_
    refine G.bipush H1 at_112 (pc' := 114) rfl (v := 7) rfl ?_
    refine G.icmpNo H1 at_114 (pc' := 117) rfl (by decide) ?_
    refine G.iload H1 at_117 (pc' := 119) rfl rfl ?_
    refine G.bipush H1 at_119 (pc' := 121) rfl (v := 9) rfl ?_
    refine G.icmpYes H1 at_121 (by decide) (by decide) (pc' := 147) rfl ?_
    refine G.iconst H1 at_147 (pc' := 148) rfl (v := 0) rfl ?_
    refine G.istore H1 (L' := #[.val (.int x70000), .val (.int x70001), .val (.int x70002), .val (.int x70003), .val (.int 0), .val (.int 0), .val (.int (x2 &&& 255)), .val (.int x70007), .val (.ref p0), .val (.ref a5), .val (.int 0)]) at_148 (pc' := 150) rfl rfl ?_
    refine G.aload H1 at_150 (pc' := 152) rfl rfl rfl ?_
    have S14 : Str Z h1_ a5 a6 k7 [] := ⟨F10, F12, F11, F13, cb0, Nat.le_of_ble_eq_true rfl⟩
    refine G.callS H1 (m4_apply V a5 a6 k7 h1_ H1.old S14) (wd27 V) (wd28 V) (wd29 V) (wd30 V) (by decide) (argsL := [(.ref a5)]) (rest := []) (W := 0) rfl rfl (lenOf (pd_3) rfl) rfl rfl at_152 (pc' := 155) rfl (by decide) (by decide) (by decide) (by decide) (allS (mG (i := 0) rfl) all0) ?_
    intro T15 h15_ v16 s17 H15 Q18
    obtain ⟨rfl, rfl, K19⟩ := Q18
    show Go p e below _ (T15.setTop (mkF m 155 #[.val (.int x70000), .val (.int x70001), .val (.int x70002), .val (.int x70003), .val (.int 0), .val (.int 0), .val (.int (x2 &&& 255)), .val (.int x70007), .val (.ref p0), .val (.ref a5), .val (.int 0)] [(.int 1)]))
    refine G.iload H15 at_155 (pc' := 157) rfl rfl ?_
    refine G.ifNo H15 at_157 (pc' := 160) rfl (by decide) ?_
    refine G.iconst H15 at_160 (pc' := 161) rfl (v := 1) rfl ?_
    refine G.goto H15 at_161 (by decide) (pc' := 165) rfl ?_
    refine G.icmpNo H15 at_165 (pc' := 168) rfl (by decide) ?_
    refine G.iconst H15 at_168 (pc' := 169) rfl (v := 1) rfl ?_
    refine G.goto H15 at_169 (by decide) (pc' := 173) rfl ?_
    exact G.retN H15 (t := .boolean) rfl (by decide) at_173 (so := []) all0 (by decide) (by decide) rfl
  ·
    refine G.aload H at_101 (pc' := 103) rfl rfl rfl ?_
    refine G.iload H at_103 (pc' := 105) rfl rfl ?_
    refine G.callS H (m5_cut V p0 c0 e0 e1 e2 e3 e4 e5 e6 e7 e8 e9 h0 H.old fA8 (own_u16 re0) re0) (wd2 V) (wd3 V) (wd4 V) (wd5 V) (by decide) (argsL := [(.ref p0), (.int 1)]) (rest := []) (W := 0) rfl rfl (lenOf (pd_2) rfl) rfl rfl at_105 (pc' := 108) rfl (by decide) (by decide) (by decide) (by decide) all0 ?_
    intro T20 h20_ v21 s22 H20 Q23
    obtain ⟨a24, a25, k26, rfl, rfl, K27, g28, g29, F30⟩ := Q23
    have na24 : n0 ≤ a24 := Nat.le_trans H.le g28
    have na25 : n0 ≤ a25 := Nat.le_trans H.le (Nat.le_of_lt (Nat.lt_of_le_of_lt g28 g29))
    show Go p e below _ (T20.setTop (mkF m 108 #[.val (.int x70000), .val (.int x70001), .val (.int x70002), .val (.int x70003), .val (.int 1), .val (.int 0), .val (.int (x2 &&& 255)), .val (.int x70007), .val (.ref p0), .unset, .unset] [(.ref a24)]))
    refine G.astore H20 (L' := #[.val (.int x70000), .val (.int x70001), .val (.int x70002), .val (.int x70003), .val (.int 1), .val (.int 0), .val (.int (x2 &&& 255)), .val (.int x70007), .val (.ref p0), .val (.ref a24), .unset]) at_108 (pc' := 110) rfl rfl rfl ?_
    refine G.iload H20 at_110 (pc' := 112) rfl rfl ?_
    refine G.bipush H20 at_112 (pc' := 114) rfl (v := 7) rfl ?_
    refine G.icmpNo H20 at_114 (pc' := 117) rfl (by decide) ?_
    refine G.iload H20 at_117 (pc' := 119) rfl rfl ?_
    refine G.bipush H20 at_119 (pc' := 121) rfl (v := 9) rfl ?_
    refine G.icmpYes H20 at_121 (by decide) (by decide) (pc' := 147) rfl ?_
    refine G.iconst H20 at_147 (pc' := 148) rfl (v := 0) rfl ?_
    refine G.istore H20 (L' := #[.val (.int x70000), .val (.int x70001), .val (.int x70002), .val (.int x70003), .val (.int 1), .val (.int 0), .val (.int (x2 &&& 255)), .val (.int x70007), .val (.ref p0), .val (.ref a24), .val (.int 0)]) at_148 (pc' := 150) rfl rfl ?_
    refine G.aload H20 at_150 (pc' := 152) rfl rfl rfl ?_
    refine G.callS H20 (m6_apply V a24 a25 k26 e0 h20_ H20.old F30) (wd27 V) (wd28 V) (wd29 V) (wd30 V) (by decide) (argsL := [(.ref a24)]) (rest := []) (W := 0) rfl rfl (lenOf (pd_3) rfl) rfl rfl at_152 (pc' := 155) rfl (by decide) (by decide) (by decide) (by decide) (allS (mG (i := 0) rfl) (allS (mG (i := 1) rfl) all0)) ?_
    intro T31 h31_ v32 s33 H31 Q34
    obtain ⟨rfl, rfl, K35⟩ := Q34
    show Go p e below _ (T31.setTop (mkF m 155 #[.val (.int x70000), .val (.int x70001), .val (.int x70002), .val (.int x70003), .val (.int 1), .val (.int 0), .val (.int (x2 &&& 255)), .val (.int x70007), .val (.ref p0), .val (.ref a24), .val (.int 0)] [(.int 1)]))
    refine G.iload H31 at_155 (pc' := 157) rfl rfl ?_
    refine G.ifNo H31 at_157 (pc' := 160) rfl (by decide) ?_
    refine G.iconst H31 at_160 (pc' := 161) rfl (v := 1) rfl ?_
    refine G.goto H31 at_161 (by decide) (pc' := 165) rfl ?_
    refine G.icmpNo H31 at_165 (pc' := 168) rfl (by decide) ?_
    refine G.iconst H31 at_168 (pc' := 169) rfl (v := 1) rfl ?_
    refine G.goto H31 at_169 (by decide) (pc' := 173) rfl ?_
    exact G.retN H31 (t := .boolean) rfl (by decide) at_173 (so := []) all0 (by decide) (by decide) rfl
  ·
    refine G.aload H at_101 (pc' := 103) rfl rfl rfl ?_
    refine G.iload H at_103 (pc' := 105) rfl rfl ?_
    refine G.callS H (m7_cut V p0 c0 e0 e1 e2 e3 e4 e5 e6 e7 e8 e9 h0 H.old fA8 (own_u16 re0) (own_u16 re1) re1 re0) (wd2 V) (wd3 V) (wd4 V) (wd5 V) (by decide) (argsL := [(.ref p0), (.int 2)]) (rest := []) (W := 0) rfl rfl (lenOf (pd_2) rfl) rfl rfl at_105 (pc' := 108) rfl (by decide) (by decide) (by decide) (by decide) all0 ?_
    intro T36 h36_ v37 s38 H36 Q39
    obtain ⟨a40, a41, k42, rfl, rfl, K43, g44, g45, F46⟩ := Q39
    have na40 : n0 ≤ a40 := Nat.le_trans H.le g44
    have na41 : n0 ≤ a41 := Nat.le_trans H.le (Nat.le_of_lt (Nat.lt_of_le_of_lt g44 g45))
    show Go p e below _ (T36.setTop (mkF m 108 #[.val (.int x70000), .val (.int x70001), .val (.int x70002), .val (.int x70003), .val (.int 2), .val (.int 0), .val (.int (x2 &&& 255)), .val (.int x70007), .val (.ref p0), .unset, .unset] [(.ref a40)]))
    refine G.astore H36 (L' := #[.val (.int x70000), .val (.int x70001), .val (.int x70002), .val (.int x70003), .val (.int 2), .val (.int 0), .val (.int (x2 &&& 255)), .val (.int x70007), .val (.ref p0), .val (.ref a40), .unset]) at_108 (pc' := 110) rfl rfl rfl ?_
    refine G.iload H36 at_110 (pc' := 112) rfl rfl ?_
    refine G.bipush H36 at_112 (pc' := 114) rfl (v := 7) rfl ?_
    refine G.icmpNo H36 at_114 (pc' := 117) rfl (by decide) ?_
    refine G.iload H36 at_117 (pc' := 119) rfl rfl ?_
    refine G.bipush H36 at_119 (pc' := 121) rfl (v := 9) rfl ?_
    refine G.icmpYes H36 at_121 (by decide) (by decide) (pc' := 147) rfl ?_
    refine G.iconst H36 at_147 (pc' := 148) rfl (v := 0) rfl ?_
    refine G.istore H36 (L' := #[.val (.int x70000), .val (.int x70001), .val (.int x70002), .val (.int x70003), .val (.int 2), .val (.int 0), .val (.int (x2 &&& 255)), .val (.int x70007), .val (.ref p0), .val (.ref a40), .val (.int 0)]) at_148 (pc' := 150) rfl rfl ?_
    refine G.aload H36 at_150 (pc' := 152) rfl rfl rfl ?_
    refine G.callS H36 (m8_apply V a40 a41 k42 e0 e1 h36_ H36.old F46) (wd27 V) (wd28 V) (wd29 V) (wd30 V) (by decide) (argsL := [(.ref a40)]) (rest := []) (W := 0) rfl rfl (lenOf (pd_3) rfl) rfl rfl at_152 (pc' := 155) rfl (by decide) (by decide) (by decide) (by decide) (allS (mG (i := 0) rfl) (allS (mG (i := 1) rfl) all0)) ?_
    intro T47 h47_ v48 s49 H47 Q50
    obtain ⟨rfl, rfl, K51⟩ := Q50
    show Go p e below _ (T47.setTop (mkF m 155 #[.val (.int x70000), .val (.int x70001), .val (.int x70002), .val (.int x70003), .val (.int 2), .val (.int 0), .val (.int (x2 &&& 255)), .val (.int x70007), .val (.ref p0), .val (.ref a40), .val (.int 0)] [(.int 1)]))
    refine G.iload H47 at_155 (pc' := 157) rfl rfl ?_
    refine G.ifNo H47 at_157 (pc' := 160) rfl (by decide) ?_
    refine G.iconst H47 at_160 (pc' := 161) rfl (v := 1) rfl ?_
    refine G.goto H47 at_161 (by decide) (pc' := 165) rfl ?_
    refine G.icmpNo H47 at_165 (pc' := 168) rfl (by decide) ?_
    refine G.iconst H47 at_168 (pc' := 169) rfl (v := 1) rfl ?_
    refine G.goto H47 at_169 (by decide) (pc' := 173) rfl ?_
    exact G.retN H47 (t := .boolean) rfl (by decide) at_173 (so := []) all0 (by decide) (by decide) rfl
  ·
    refine G.aload H at_101 (pc' := 103) rfl rfl rfl ?_
    refine G.iload H at_103 (pc' := 105) rfl rfl ?_
    refine G.callS H (m9_cut V p0 c0 e0 e1 e2 e3 e4 e5 e6 e7 e8 e9 h0 H.old fA8 (own_u16 re0) (own_u16 re1) (own_u16 re2) re2 re1 re0) (wd2 V) (wd3 V) (wd4 V) (wd5 V) (by decide) (argsL := [(.ref p0), (.int 3)]) (rest := []) (W := 0) rfl rfl (lenOf (pd_2) rfl) rfl rfl at_105 (pc' := 108) rfl (by decide) (by decide) (by decide) (by decide) all0 ?_
    intro T52 h52_ v53 s54 H52 Q55
    obtain ⟨a56, a57, k58, rfl, rfl, K59, g60, g61, F62⟩ := Q55
    have na56 : n0 ≤ a56 := Nat.le_trans H.le g60
    have na57 : n0 ≤ a57 := Nat.le_trans H.le (Nat.le_of_lt (Nat.lt_of_le_of_lt g60 g61))
    show Go p e below _ (T52.setTop (mkF m 108 #[.val (.int x70000), .val (.int x70001), .val (.int x70002), .val (.int x70003), .val (.int 3), .val (.int 0), .val (.int (x2 &&& 255)), .val (.int x70007), .val (.ref p0), .unset, .unset] [(.ref a56)]))
    refine G.astore H52 (L' := #[.val (.int x70000), .val (.int x70001), .val (.int x70002), .val (.int x70003), .val (.int 3), .val (.int 0), .val (.int (x2 &&& 255)), .val (.int x70007), .val (.ref p0), .val (.ref a56), .unset]) at_108 (pc' := 110) rfl rfl rfl ?_
    refine G.iload H52 at_110 (pc' := 112) rfl rfl ?_
    refine G.bipush H52 at_112 (pc' := 114) rfl (v := 7) rfl ?_
    refine G.icmpNo H52 at_114 (pc' := 117) rfl (by decide) ?_
    refine G.iload H52 at_117 (pc' := 119) rfl rfl ?_
    refine G.bipush H52 at_119 (pc' := 121) rfl (v := 9) rfl ?_
    refine G.icmpYes H52 at_121 (by decide) (by decide) (pc' := 147) rfl ?_
    refine G.iconst H52 at_147 (pc' := 148) rfl (v := 0) rfl ?_
    refine G.istore H52 (L' := #[.val (.int x70000), .val (.int x70001), .val (.int x70002), .val (.int x70003), .val (.int 3), .val (.int 0), .val (.int (x2 &&& 255)), .val (.int x70007), .val (.ref p0), .val (.ref a56), .val (.int 0)]) at_148 (pc' := 150) rfl rfl ?_
    refine G.aload H52 at_150 (pc' := 152) rfl rfl rfl ?_
    refine G.callS H52 (m10_apply V a56 a57 k58 e0 e1 e2 h52_ H52.old F62) (wd27 V) (wd28 V) (wd29 V) (wd30 V) (by decide) (argsL := [(.ref a56)]) (rest := []) (W := 0) rfl rfl (lenOf (pd_3) rfl) rfl rfl at_152 (pc' := 155) rfl (by decide) (by decide) (by decide) (by decide) (allS (mG (i := 0) rfl) (allS (mG (i := 1) rfl) all0)) ?_
    intro T63 h63_ v64 s65 H63 Q66
    obtain ⟨rfl, rfl, K67⟩ := Q66
    show Go p e below _ (T63.setTop (mkF m 155 #[.val (.int x70000), .val (.int x70001), .val (.int x70002), .val (.int x70003), .val (.int 3), .val (.int 0), .val (.int (x2 &&& 255)), .val (.int x70007), .val (.ref p0), .val (.ref a56), .val (.int 0)] [(.int 1)]))
    refine G.iload H63 at_155 (pc' := 157) rfl rfl ?_
    refine G.ifNo H63 at_157 (pc' := 160) rfl (by decide) ?_
    refine G.iconst H63 at_160 (pc' := 161) rfl (v := 1) rfl ?_
    refine G.goto H63 at_161 (by decide) (pc' := 165) rfl ?_
    refine G.icmpNo H63 at_165 (pc' := 168) rfl (by decide) ?_
    refine G.iconst H63 at_168 (pc' := 169) rfl (v := 1) rfl ?_
    refine G.goto H63 at_169 (by decide) (pc' := 173) rfl ?_
    exact G.retN H63 (t := .boolean) rfl (by decide) at_173 (so := []) all0 (by decide) (by decide) rfl
  ·
    refine G.aload H at_101 (pc' := 103) rfl rfl rfl ?_
    refine G.iload H at_103 (pc' := 105) rfl rfl ?_
    refine G.callS H (m11_cut V p0 c0 e0 e1 e2 e3 e4 e5 e6 e7 e8 e9 h0 H.old fA8 (own_u16 re0) (own_u16 re1) (own_u16 re2) (own_u16 re3) re3 re2 re1 re0) (wd2 V) (wd3 V) (wd4 V) (wd5 V) (by decide) (argsL := [(.ref p0), (.int 4)]) (rest := []) (W := 0) rfl rfl (lenOf (pd_2) rfl) rfl rfl at_105 (pc' := 108) rfl (by decide) (by decide) (by decide) (by decide) all0 ?_
    intro T68 h68_ v69 s70 H68 Q71
    obtain ⟨a72, a73, k74, rfl, rfl, K75, g76, g77, F78⟩ := Q71
    have na72 : n0 ≤ a72 := Nat.le_trans H.le g76
    have na73 : n0 ≤ a73 := Nat.le_trans H.le (Nat.le_of_lt (Nat.lt_of_le_of_lt g76 g77))
    show Go p e below _ (T68.setTop (mkF m 108 #[.val (.int x70000), .val (.int x70001), .val (.int x70002), .val (.int x70003), .val (.int 4), .val (.int 0), .val (.int (x2 &&& 255)), .val (.int x70007), .val (.ref p0), .unset, .unset] [(.ref a72)]))
    refine G.astore H68 (L' := #[.val (.int x70000), .val (.int x70001), .val (.int x70002), .val (.int x70003), .val (.int 4), .val (.int 0), .val (.int (x2 &&& 255)), .val (.int x70007), .val (.ref p0), .val (.ref a72), .unset]) at_108 (pc' := 110) rfl rfl rfl ?_
    refine G.iload H68 at_110 (pc' := 112) rfl rfl ?_
    refine G.bipush H68 at_112 (pc' := 114) rfl (v := 7) rfl ?_
    refine G.icmpNo H68 at_114 (pc' := 117) rfl (by decide) ?_
    refine G.iload H68 at_117 (pc' := 119) rfl rfl ?_
    refine G.bipush H68 at_119 (pc' := 121) rfl (v := 9) rfl ?_
    refine G.icmpYes H68 at_121 (by decide) (by decide) (pc' := 147) rfl ?_
    refine G.iconst H68 at_147 (pc' := 148) rfl (v := 0) rfl ?_
    refine G.istore H68 (L' := #[.val (.int x70000), .val (.int x70001), .val (.int x70002), .val (.int x70003), .val (.int 4), .val (.int 0), .val (.int (x2 &&& 255)), .val (.int x70007), .val (.ref p0), .val (.ref a72), .val (.int 0)]) at_148 (pc' := 150) rfl rfl ?_
    refine G.aload H68 at_150 (pc' := 152) rfl rfl rfl ?_
    refine G.callS H68 (m12_apply V a72 a73 k74 e0 e1 e2 e3 h68_ H68.old F78) (wd27 V) (wd28 V) (wd29 V) (wd30 V) (by decide) (argsL := [(.ref a72)]) (rest := []) (W := 0) rfl rfl (lenOf (pd_3) rfl) rfl rfl at_152 (pc' := 155) rfl (by decide) (by decide) (by decide) (by decide) (allS (mG (i := 0) rfl) (allS (mG (i := 1) rfl) all0)) ?_
    intro T79 h79_ v80 s81 H79 Q82
    obtain ⟨rfl, rfl, K83⟩ := Q82
    show Go p e below _ (T79.setTop (mkF m 155 #[.val (.int x70000), .val (.int x70001), .val (.int x70002), .val (.int x70003), .val (.int 4), .val (.int 0), .val (.int (x2 &&& 255)), .val (.int x70007), .val (.ref p0), .val (.ref a72), .val (.int 0)] [(.int 1)]))
    refine G.iload H79 at_155 (pc' := 157) rfl rfl ?_
    refine G.ifNo H79 at_157 (pc' := 160) rfl (by decide) ?_
    refine G.iconst H79 at_160 (pc' := 161) rfl (v := 1) rfl ?_
    refine G.goto H79 at_161 (by decide) (pc' := 165) rfl ?_
    refine G.icmpNo H79 at_165 (pc' := 168) rfl (by decide) ?_
    refine G.iconst H79 at_168 (pc' := 169) rfl (v := 1) rfl ?_
    refine G.goto H79 at_169 (by decide) (pc' := 173) rfl ?_
    exact G.retN H79 (t := .boolean) rfl (by decide) at_173 (so := []) all0 (by decide) (by decide) rfl
  ·
    refine G.aload H at_101 (pc' := 103) rfl rfl rfl ?_
    refine G.iload H at_103 (pc' := 105) rfl rfl ?_
    refine G.callS H (m13_cut V p0 c0 e0 e1 e2 e3 e4 e5 e6 e7 e8 e9 h0 H.old fA8 (own_u16 re0) (own_u16 re1) (own_u16 re2) (own_u16 re3) (own_u16 re4) re4 re3 re2 re1 re0) (wd2 V) (wd3 V) (wd4 V) (wd5 V) (by decide) (argsL := [(.ref p0), (.int 5)]) (rest := []) (W := 0) rfl rfl (lenOf (pd_2) rfl) rfl rfl at_105 (pc' := 108) rfl (by decide) (by decide) (by decide) (by decide) all0 ?_
    intro T84 h84_ v85 s86 H84 Q87
    obtain ⟨a88, a89, k90, rfl, rfl, K91, g92, g93, F94⟩ := Q87
    have na88 : n0 ≤ a88 := Nat.le_trans H.le g92
    have na89 : n0 ≤ a89 := Nat.le_trans H.le (Nat.le_of_lt (Nat.lt_of_le_of_lt g92 g93))
    show Go p e below _ (T84.setTop (mkF m 108 #[.val (.int x70000), .val (.int x70001), .val (.int x70002), .val (.int x70003), .val (.int 5), .val (.int 0), .val (.int (x2 &&& 255)), .val (.int x70007), .val (.ref p0), .unset, .unset] [(.ref a88)]))
    refine G.astore H84 (L' := #[.val (.int x70000), .val (.int x70001), .val (.int x70002), .val (.int x70003), .val (.int 5), .val (.int 0), .val (.int (x2 &&& 255)), .val (.int x70007), .val (.ref p0), .val (.ref a88), .unset]) at_108 (pc' := 110) rfl rfl rfl ?_
    refine G.iload H84 at_110 (pc' := 112) rfl rfl ?_
    refine G.bipush H84 at_112 (pc' := 114) rfl (v := 7) rfl ?_
    refine G.icmpNo H84 at_114 (pc' := 117) rfl (by decide) ?_
    refine G.iload H84 at_117 (pc' := 119) rfl rfl ?_
    refine G.bipush H84 at_119 (pc' := 121) rfl (v := 9) rfl ?_
    refine G.icmpYes H84 at_121 (by decide) (by decide) (pc' := 147) rfl ?_
    refine G.iconst H84 at_147 (pc' := 148) rfl (v := 0) rfl ?_
    refine G.istore H84 (L' := #[.val (.int x70000), .val (.int x70001), .val (.int x70002), .val (.int x70003), .val (.int 5), .val (.int 0), .val (.int (x2 &&& 255)), .val (.int x70007), .val (.ref p0), .val (.ref a88), .val (.int 0)]) at_148 (pc' := 150) rfl rfl ?_
    refine G.aload H84 at_150 (pc' := 152) rfl rfl rfl ?_
    refine G.callS H84 (m14_apply V a88 a89 k90 e0 e1 e2 e3 e4 h84_ H84.old F94) (wd27 V) (wd28 V) (wd29 V) (wd30 V) (by decide) (argsL := [(.ref a88)]) (rest := []) (W := 0) rfl rfl (lenOf (pd_3) rfl) rfl rfl at_152 (pc' := 155) rfl (by decide) (by decide) (by decide) (by decide) (allS (mG (i := 0) rfl) (allS (mG (i := 1) rfl) all0)) ?_
    intro T95 h95_ v96 s97 H95 Q98
    obtain ⟨rfl, rfl, K99⟩ := Q98
    show Go p e below _ (T95.setTop (mkF m 155 #[.val (.int x70000), .val (.int x70001), .val (.int x70002), .val (.int x70003), .val (.int 5), .val (.int 0), .val (.int (x2 &&& 255)), .val (.int x70007), .val (.ref p0), .val (.ref a88), .val (.int 0)] [(.int 1)]))
    refine G.iload H95 at_155 (pc' := 157) rfl rfl ?_
    refine G.ifNo H95 at_157 (pc' := 160) rfl (by decide) ?_
    refine G.iconst H95 at_160 (pc' := 161) rfl (v := 1) rfl ?_
    refine G.goto H95 at_161 (by decide) (pc' := 165) rfl ?_
    refine G.icmpNo H95 at_165 (pc' := 168) rfl (by decide) ?_
    refine G.iconst H95 at_168 (pc' := 169) rfl (v := 1) rfl ?_
    refine G.goto H95 at_169 (by decide) (pc' := 173) rfl ?_
    exact G.retN H95 (t := .boolean) rfl (by decide) at_173 (so := []) all0 (by decide) (by decide) rfl
  ·
    refine G.aload H at_101 (pc' := 103) rfl rfl rfl ?_
    refine G.iload H at_103 (pc' := 105) rfl rfl ?_
    refine G.callS H (m15_cut V p0 c0 e0 e1 e2 e3 e4 e5 e6 e7 e8 e9 h0 H.old fA8 (own_u16 re0) (own_u16 re1) (own_u16 re2) (own_u16 re3) (own_u16 re4) (own_u16 re5) re5 re4 re3 re2 re1 re0) (wd2 V) (wd3 V) (wd4 V) (wd5 V) (by decide) (argsL := [(.ref p0), (.int 6)]) (rest := []) (W := 0) rfl rfl (lenOf (pd_2) rfl) rfl rfl at_105 (pc' := 108) rfl (by decide) (by decide) (by decide) (by decide) all0 ?_
    intro T100 h100_ v101 s102 H100 Q103
    obtain ⟨a104, a105, k106, rfl, rfl, K107, g108, g109, F110⟩ := Q103
    have na104 : n0 ≤ a104 := Nat.le_trans H.le g108
    have na105 : n0 ≤ a105 := Nat.le_trans H.le (Nat.le_of_lt (Nat.lt_of_le_of_lt g108 g109))
    show Go p e below _ (T100.setTop (mkF m 108 #[.val (.int x70000), .val (.int x70001), .val (.int x70002), .val (.int x70003), .val (.int 6), .val (.int 0), .val (.int (x2 &&& 255)), .val (.int x70007), .val (.ref p0), .unset, .unset] [(.ref a104)]))
    refine G.astore H100 (L' := #[.val (.int x70000), .val (.int x70001), .val (.int x70002), .val (.int x70003), .val (.int 6), .val (.int 0), .val (.int (x2 &&& 255)), .val (.int x70007), .val (.ref p0), .val (.ref a104), .unset]) at_108 (pc' := 110) rfl rfl rfl ?_
    refine G.iload H100 at_110 (pc' := 112) rfl rfl ?_
    refine G.bipush H100 at_112 (pc' := 114) rfl (v := 7) rfl ?_
    refine G.icmpNo H100 at_114 (pc' := 117) rfl (by decide) ?_
    refine G.iload H100 at_117 (pc' := 119) rfl rfl ?_
    refine G.bipush H100 at_119 (pc' := 121) rfl (v := 9) rfl ?_
    refine G.icmpYes H100 at_121 (by decide) (by decide) (pc' := 147) rfl ?_
    refine G.iconst H100 at_147 (pc' := 148) rfl (v := 0) rfl ?_
    refine G.istore H100 (L' := #[.val (.int x70000), .val (.int x70001), .val (.int x70002), .val (.int x70003), .val (.int 6), .val (.int 0), .val (.int (x2 &&& 255)), .val (.int x70007), .val (.ref p0), .val (.ref a104), .val (.int 0)]) at_148 (pc' := 150) rfl rfl ?_
    refine G.aload H100 at_150 (pc' := 152) rfl rfl rfl ?_
    refine G.callS H100 (m16_apply V a104 a105 k106 e0 e1 e2 e3 e4 e5 h100_ H100.old F110) (wd27 V) (wd28 V) (wd29 V) (wd30 V) (by decide) (argsL := [(.ref a104)]) (rest := []) (W := 0) rfl rfl (lenOf (pd_3) rfl) rfl rfl at_152 (pc' := 155) rfl (by decide) (by decide) (by decide) (by decide) (allS (mG (i := 0) rfl) (allS (mG (i := 1) rfl) all0)) ?_
    intro T111 h111_ v112 s113 H111 Q114
    obtain ⟨rfl, rfl, K115⟩ := Q114
    show Go p e below _ (T111.setTop (mkF m 155 #[.val (.int x70000), .val (.int x70001), .val (.int x70002), .val (.int x70003), .val (.int 6), .val (.int 0), .val (.int (x2 &&& 255)), .val (.int x70007), .val (.ref p0), .val (.ref a104), .val (.int 0)] [(.int 1)]))
    refine G.iload H111 at_155 (pc' := 157) rfl rfl ?_
    refine G.ifNo H111 at_157 (pc' := 160) rfl (by decide) ?_
    refine G.iconst H111 at_160 (pc' := 161) rfl (v := 1) rfl ?_
    refine G.goto H111 at_161 (by decide) (pc' := 165) rfl ?_
    refine G.icmpNo H111 at_165 (pc' := 168) rfl (by decide) ?_
    refine G.iconst H111 at_168 (pc' := 169) rfl (v := 1) rfl ?_
    refine G.goto H111 at_169 (by decide) (pc' := 173) rfl ?_
    exact G.retN H111 (t := .boolean) rfl (by decide) at_173 (so := []) all0 (by decide) (by decide) rfl
  ·
    refine G.aload H at_101 (pc' := 103) rfl rfl rfl ?_
    refine G.iload H at_103 (pc' := 105) rfl rfl ?_
    refine G.callS H (m17_cut V p0 c0 e0 e1 e2 e3 e4 e5 e6 e7 e8 e9 h0 H.old fA8 (own_u16 re0) (own_u16 re1) (own_u16 re2) (own_u16 re3) (own_u16 re4) (own_u16 re5) (own_u16 re6) re6 re5 re4 re3 re2 re1 re0) (wd2 V) (wd3 V) (wd4 V) (wd5 V) (by decide) (argsL := [(.ref p0), (.int 7)]) (rest := []) (W := 0) rfl rfl (lenOf (pd_2) rfl) rfl rfl at_105 (pc' := 108) rfl (by decide) (by decide) (by decide) (by decide) all0 ?_
    intro T116 h116_ v117 s118 H116 Q119
    obtain ⟨a120, a121, k122, rfl, rfl, K123, g124, g125, F126⟩ := Q119
    have na120 : n0 ≤ a120 := Nat.le_trans H.le g124
    have na121 : n0 ≤ a121 := Nat.le_trans H.le (Nat.le_of_lt (Nat.lt_of_le_of_lt g124 g125))
    show Go p e below _ (T116.setTop (mkF m 108 #[.val (.int x70000), .val (.int x70001), .val (.int x70002), .val (.int x70003), .val (.int 7), .val (.int 0), .val (.int (x2 &&& 255)), .val (.int x70007), .val (.ref p0), .unset, .unset] [(.ref a120)]))
    refine G.astore H116 (L' := #[.val (.int x70000), .val (.int x70001), .val (.int x70002), .val (.int x70003), .val (.int 7), .val (.int 0), .val (.int (x2 &&& 255)), .val (.int x70007), .val (.ref p0), .val (.ref a120), .unset]) at_108 (pc' := 110) rfl rfl rfl ?_
    refine G.iload H116 at_110 (pc' := 112) rfl rfl ?_
    refine G.bipush H116 at_112 (pc' := 114) rfl (v := 7) rfl ?_
    refine G.icmpYes H116 at_114 (by decide) (by decide) (pc' := 124) rfl ?_
    refine G.iload H116 at_124 (pc' := 126) rfl rfl ?_
    refine G.iload H116 at_126 (pc' := 128) rfl rfl ?_
    refine G.icmpNo H116 at_128 (pc' := 131) rfl (by decide) ?_
    refine G.iload H116 at_131 (pc' := 133) rfl rfl ?_
    refine G.ldcS H116 trivial (wS V) (wd54 V) (by decide) (vs := [(.int 67), (.int 79), (.int 78), (.int 78), (.int 69), (.int 67), (.int 84), (.int 69), (.int 68)]) (z := 9) (by decide) (by decide) rfl (n := 36) (by decide) (by decide) (by decide) (by decide) at_133 (pc' := 135) rfl ?_
    intro T127 h127_ a128 b130 k131 H127 E129 X132 F133 F134 A135 Q136
    have S137 : Str Z h127_ a128 b130 k131 [67, 79, 78, 78, 69, 67, 84, 69, 68] := ⟨X132, F133, F134, A135, by decide, by decide⟩
    refine G.iload H127 at_135 (pc' := 137) rfl rfl ?_
    refine G.callV H127 (m22_charAt V a128 b130 k131 h127_ H127.old X132 F133 F134 A135) (wd55 V) (wd56 V) (nf_sel (wd58 V)) (wd58 V) (wd57 V) (wd8 V) (wd59 V) (by decide) X132 (argsL := [(.int 0)]) (rest := [(.int (x2 &&& 255))]) (W := 1) rfl rfl (lenOf (pd_8) rfl) rfl rfl at_137 (pc' := 140) rfl (by decide) (by decide) (by decide) (by decide) all0 ?_
    intro T138 h138_ v139 s140 H138 Q141
    obtain ⟨rfl, rfl, rfl⟩ := Q141
    show Go p e below _ (T138.setTop (mkF m 140 #[.val (.int x70000), .val (.int x70001), .val (.int x70002), .val (.int x70003), .val (.int 7), .val (.int 0), .val (.int (x2 &&& 255)), .val (.int x70007), .val (.ref p0), .val (.ref a120), .unset] [(.int 67), (.int (x2 &&& 255))]))
    by_cases c142 : (x2 &&& 255) = 67
    ·
      refine G.icmpNo H138 at_140 (pc' := 143) rfl (XT.ii_ne_f c142) ?_
      refine G.iconst H138 at_143 (pc' := 144) rfl (v := 1) rfl ?_
      refine G.goto H138 at_144 (by decide) (pc' := 148) rfl ?_
      refine G.istore H138 (L' := #[.val (.int x70000), .val (.int x70001), .val (.int x70002), .val (.int x70003), .val (.int 7), .val (.int 0), .val (.int (x2 &&& 255)), .val (.int x70007), .val (.ref p0), .val (.ref a120), .val (.int 1)]) at_148 (pc' := 150) rfl rfl ?_
      refine G.aload H138 at_150 (pc' := 152) rfl rfl rfl ?_
      have F143 := (Str.ext E129 F126)
      refine G.callS H138 (m23_apply V a120 a121 k122 e0 e1 e2 e3 e4 e5 e6 h127_ H138.old F143 (Eq.trans qe0 c142) qe1 qe2 qe3 qe4 qe5 qe6) (wd27 V) (wd28 V) (wd29 V) (wd30 V) (by decide) (argsL := [(.ref a120)]) (rest := []) (W := 0) rfl rfl (lenOf (pd_3) rfl) rfl rfl at_152 (pc' := 155) rfl (by decide) (by decide) (by decide) (by decide) all0 ?_
      intro T144 h144_ v145 s146 H144 Q147
      obtain ⟨c148, rfl, rfl, K149⟩ := Q147
      show Go p e below _ (T144.setTop (mkF m 155 #[.val (.int x70000), .val (.int x70001), .val (.int x70002), .val (.int x70003), .val (.int 7), .val (.int 0), .val (.int (x2 &&& 255)), .val (.int x70007), .val (.ref p0), .val (.ref a120), .val (.int 1)] [(.int 0)]))
      refine G.iload H144 at_155 (pc' := 157) rfl rfl ?_
      refine G.ifYes H144 at_157 (by decide) (by decide) (pc' := 164) rfl ?_
      refine G.iconst H144 at_164 (pc' := 165) rfl (v := 0) rfl ?_
      refine G.icmpNo H144 at_165 (pc' := 168) rfl (by decide) ?_
      refine G.iconst H144 at_168 (pc' := 169) rfl (v := 1) rfl ?_
      refine G.goto H144 at_169 (by decide) (pc' := 173) rfl ?_
      exact G.retN H144 (t := .boolean) rfl (by decide) at_173 (so := []) all0 (by decide) (by decide) rfl
    ·
      refine G.icmpYes H138 at_140 (XT.ii_ne_t c142) (by decide) (pc' := 147) rfl ?_
      refine G.iconst H138 at_147 (pc' := 148) rfl (v := 0) rfl ?_
      refine G.istore H138 (L' := #[.val (.int x70000), .val (.int x70001), .val (.int x70002), .val (.int x70003), .val (.int 7), .val (.int 0), .val (.int (x2 &&& 255)), .val (.int x70007), .val (.ref p0), .val (.ref a120), .val (.int 0)]) at_148 (pc' := 150) rfl rfl ?_
      refine G.aload H138 at_150 (pc' := 152) rfl rfl rfl ?_
      have F150 := (Str.ext E129 F126)
      refine G.callS H138 (m24_apply V a120 a121 k122 e0 e1 e2 e3 e4 e5 e6 h127_ H138.old F150 (fun qq => c142 (Eq.trans (Eq.symm qe0) qq)) qe1 qe2 qe3 qe4 qe5 qe6) (wd27 V) (wd28 V) (wd29 V) (wd30 V) (by decide) (argsL := [(.ref a120)]) (rest := []) (W := 0) rfl rfl (lenOf (pd_3) rfl) rfl rfl at_152 (pc' := 155) rfl (by decide) (by decide) (by decide) (by decide) (allS (mG (i := 0) rfl) (allS (mG (i := 1) rfl) all0)) ?_
      intro T151 h151_ v152 s153 H151 Q154
      obtain ⟨c155, rfl, rfl, K156⟩ := Q154
      show Go p e below _ (T151.setTop (mkF m 155 #[.val (.int x70000), .val (.int x70001), .val (.int x70002), .val (.int x70003), .val (.int 7), .val (.int 0), .val (.int (x2 &&& 255)), .val (.int x70007), .val (.ref p0), .val (.ref a120), .val (.int 0)] [(.int 1)]))
      refine G.iload H151 at_155 (pc' := 157) rfl rfl ?_
      refine G.ifNo H151 at_157 (pc' := 160) rfl (by decide) ?_
      refine G.iconst H151 at_160 (pc' := 161) rfl (v := 1) rfl ?_
      refine G.goto H151 at_161 (by decide) (pc' := 165) rfl ?_
      refine G.icmpNo H151 at_165 (pc' := 168) rfl (by decide) ?_
      refine G.iconst H151 at_168 (pc' := 169) rfl (v := 1) rfl ?_
      refine G.goto H151 at_169 (by decide) (pc' := 173) rfl ?_
      exact G.retN H151 (t := .boolean) rfl (by decide) at_173 (so := []) all0 (by decide) (by decide) rfl
  ·
    refine G.aload H at_101 (pc' := 103) rfl rfl rfl ?_
    refine G.iload H at_103 (pc' := 105) rfl rfl ?_
    refine G.callS H (m25_cut V p0 c0 e0 e1 e2 e3 e4 e5 e6 e7 e8 e9 h0 H.old fA8 (own_u16 re0) (own_u16 re1) (own_u16 re2) (own_u16 re3) (own_u16 re4) (own_u16 re5) (own_u16 re6) (own_u16 re7) re7 re6 re5 re4 re3 re2 re1 re0) (wd2 V) (wd3 V) (wd4 V) (wd5 V) (by decide) (argsL := [(.ref p0), (.int 8)]) (rest := []) (W := 0) rfl rfl (lenOf (pd_2) rfl) rfl rfl at_105 (pc' := 108) rfl (by decide) (by decide) (by decide) (by decide) all0 ?_
    intro T157 h157_ v158 s159 H157 Q160
    obtain ⟨a161, a162, k163, rfl, rfl, K164, g165, g166, F167⟩ := Q160
    have na161 : n0 ≤ a161 := Nat.le_trans H.le g165
    have na162 : n0 ≤ a162 := Nat.le_trans H.le (Nat.le_of_lt (Nat.lt_of_le_of_lt g165 g166))
    show Go p e below _ (T157.setTop (mkF m 108 #[.val (.int x70000), .val (.int x70001), .val (.int x70002), .val (.int x70003), .val (.int 8), .val (.int 0), .val (.int (x2 &&& 255)), .val (.int x70007), .val (.ref p0), .unset, .unset] [(.ref a161)]))
    refine G.astore H157 (L' := #[.val (.int x70000), .val (.int x70001), .val (.int x70002), .val (.int x70003), .val (.int 8), .val (.int 0), .val (.int (x2 &&& 255)), .val (.int x70007), .val (.ref p0), .val (.ref a161), .unset]) at_108 (pc' := 110) rfl rfl rfl ?_
    refine G.iload H157 at_110 (pc' := 112) rfl rfl ?_
    refine G.bipush H157 at_112 (pc' := 114) rfl (v := 7) rfl ?_
    refine G.icmpNo H157 at_114 (pc' := 117) rfl (by decide) ?_
    refine G.iload H157 at_117 (pc' := 119) rfl rfl ?_
    refine G.bipush H157 at_119 (pc' := 121) rfl (v := 9) rfl ?_
    refine G.icmpYes H157 at_121 (by decide) (by decide) (pc' := 147) rfl ?_
    refine G.iconst H157 at_147 (pc' := 148) rfl (v := 0) rfl ?_
    refine G.istore H157 (L' := #[.val (.int x70000), .val (.int x70001), .val (.int x70002), .val (.int x70003), .val (.int 8), .val (.int 0), .val (.int (x2 &&& 255)), .val (.int x70007), .val (.ref p0), .val (.ref a161), .val (.int 0)]) at_148 (pc' := 150) rfl rfl ?_
    refine G.aload H157 at_150 (pc' := 152) rfl rfl rfl ?_
    refine G.callS H157 (m26_apply V a161 a162 k163 e0 e1 e2 e3 e4 e5 e6 e7 h157_ H157.old F167) (wd27 V) (wd28 V) (wd29 V) (wd30 V) (by decide) (argsL := [(.ref a161)]) (rest := []) (W := 0) rfl rfl (lenOf (pd_3) rfl) rfl rfl at_152 (pc' := 155) rfl (by decide) (by decide) (by decide) (by decide) (allS (mG (i := 0) rfl) (allS (mG (i := 1) rfl) all0)) ?_
    intro T168 h168_ v169 s170 H168 Q171
    obtain ⟨rfl, rfl, K172⟩ := Q171
    show Go p e below _ (T168.setTop (mkF m 155 #[.val (.int x70000), .val (.int x70001), .val (.int x70002), .val (.int x70003), .val (.int 8), .val (.int 0), .val (.int (x2 &&& 255)), .val (.int x70007), .val (.ref p0), .val (.ref a161), .val (.int 0)] [(.int 1)]))
    refine G.iload H168 at_155 (pc' := 157) rfl rfl ?_
    refine G.ifNo H168 at_157 (pc' := 160) rfl (by decide) ?_
    refine G.iconst H168 at_160 (pc' := 161) rfl (v := 1) rfl ?_
    refine G.goto H168 at_161 (by decide) (pc' := 165) rfl ?_
    refine G.icmpNo H168 at_165 (pc' := 168) rfl (by decide) ?_
    refine G.iconst H168 at_168 (pc' := 169) rfl (v := 1) rfl ?_
    refine G.goto H168 at_169 (by decide) (pc' := 173) rfl ?_
    exact G.retN H168 (t := .boolean) rfl (by decide) at_173 (so := []) all0 (by decide) (by decide) rfl
  ·
    refine G.aload H at_101 (pc' := 103) rfl rfl rfl ?_
    refine G.iload H at_103 (pc' := 105) rfl rfl ?_
    refine G.callS H (m27_cut V p0 c0 e0 e1 e2 e3 e4 e5 e6 e7 e8 e9 h0 H.old fA8 (own_u16 re0) (own_u16 re1) (own_u16 re2) (own_u16 re3) (own_u16 re4) (own_u16 re5) (own_u16 re6) (own_u16 re7) (own_u16 re8) re8 re7 re6 re5 re4 re3 re2 re1 re0) (wd2 V) (wd3 V) (wd4 V) (wd5 V) (by decide) (argsL := [(.ref p0), (.int 9)]) (rest := []) (W := 0) rfl rfl (lenOf (pd_2) rfl) rfl rfl at_105 (pc' := 108) rfl (by decide) (by decide) (by decide) (by decide) all0 ?_
    intro T173 h173_ v174 s175 H173 Q176
    obtain ⟨a177, a178, k179, rfl, rfl, K180, g181, g182, F183⟩ := Q176
    have na177 : n0 ≤ a177 := Nat.le_trans H.le g181
    have na178 : n0 ≤ a178 := Nat.le_trans H.le (Nat.le_of_lt (Nat.lt_of_le_of_lt g181 g182))
    show Go p e below _ (T173.setTop (mkF m 108 #[.val (.int x70000), .val (.int x70001), .val (.int x70002), .val (.int x70003), .val (.int 9), .val (.int 0), .val (.int (x2 &&& 255)), .val (.int x70007), .val (.ref p0), .unset, .unset] [(.ref a177)]))
    refine G.astore H173 (L' := #[.val (.int x70000), .val (.int x70001), .val (.int x70002), .val (.int x70003), .val (.int 9), .val (.int 0), .val (.int (x2 &&& 255)), .val (.int x70007), .val (.ref p0), .val (.ref a177), .unset]) at_108 (pc' := 110) rfl rfl rfl ?_
    refine G.iload H173 at_110 (pc' := 112) rfl rfl ?_
    refine G.bipush H173 at_112 (pc' := 114) rfl (v := 7) rfl ?_
    refine G.icmpNo H173 at_114 (pc' := 117) rfl (by decide) ?_
    refine G.iload H173 at_117 (pc' := 119) rfl rfl ?_
    refine G.bipush H173 at_119 (pc' := 121) rfl (v := 9) rfl ?_
    refine G.icmpNo H173 at_121 (pc' := 124) rfl (by decide) ?_
    refine G.iload H173 at_124 (pc' := 126) rfl rfl ?_
    refine G.iload H173 at_126 (pc' := 128) rfl rfl ?_
    refine G.icmpNo H173 at_128 (pc' := 131) rfl (by decide) ?_
    refine G.iload H173 at_131 (pc' := 133) rfl rfl ?_
    refine G.ldcS H173 trivial (wS V) (wd54 V) (by decide) (vs := [(.int 67), (.int 79), (.int 78), (.int 78), (.int 69), (.int 67), (.int 84), (.int 69), (.int 68)]) (z := 9) (by decide) (by decide) rfl (n := 36) (by decide) (by decide) (by decide) (by decide) at_133 (pc' := 135) rfl ?_
    intro T184 h184_ a185 b187 k188 H184 E186 X189 F190 F191 A192 Q193
    have S194 : Str Z h184_ a185 b187 k188 [67, 79, 78, 78, 69, 67, 84, 69, 68] := ⟨X189, F190, F191, A192, by decide, by decide⟩
    refine G.iload H184 at_135 (pc' := 137) rfl rfl ?_
    refine G.callV H184 (m22_charAt V a185 b187 k188 h184_ H184.old X189 F190 F191 A192) (wd55 V) (wd56 V) (nf_sel (wd58 V)) (wd58 V) (wd57 V) (wd8 V) (wd59 V) (by decide) X189 (argsL := [(.int 0)]) (rest := [(.int (x2 &&& 255))]) (W := 1) rfl rfl (lenOf (pd_8) rfl) rfl rfl at_137 (pc' := 140) rfl (by decide) (by decide) (by decide) (by decide) all0 ?_
    intro T195 h195_ v196 s197 H195 Q198
    obtain ⟨rfl, rfl, rfl⟩ := Q198
    show Go p e below _ (T195.setTop (mkF m 140 #[.val (.int x70000), .val (.int x70001), .val (.int x70002), .val (.int x70003), .val (.int 9), .val (.int 0), .val (.int (x2 &&& 255)), .val (.int x70007), .val (.ref p0), .val (.ref a177), .unset] [(.int 67), (.int (x2 &&& 255))]))
    by_cases c199 : (x2 &&& 255) = 67
    ·
      refine G.icmpNo H195 at_140 (pc' := 143) rfl (XT.ii_ne_f c199) ?_
      refine G.iconst H195 at_143 (pc' := 144) rfl (v := 1) rfl ?_
      refine G.goto H195 at_144 (by decide) (pc' := 148) rfl ?_
      refine G.istore H195 (L' := #[.val (.int x70000), .val (.int x70001), .val (.int x70002), .val (.int x70003), .val (.int 9), .val (.int 0), .val (.int (x2 &&& 255)), .val (.int x70007), .val (.ref p0), .val (.ref a177), .val (.int 1)]) at_148 (pc' := 150) rfl rfl ?_
      refine G.aload H195 at_150 (pc' := 152) rfl rfl rfl ?_
      have F200 := (Str.ext E186 F183)
      refine G.callS H195 (m28_apply V a177 a178 k179 e0 e1 e2 e3 e4 e5 e6 e7 e8 h184_ H195.old F200 (Eq.trans qe0 c199) qe1 qe2 qe3 qe4 qe5 qe6 qe7 qe8) (wd27 V) (wd28 V) (wd29 V) (wd30 V) (by decide) (argsL := [(.ref a177)]) (rest := []) (W := 0) rfl rfl (lenOf (pd_3) rfl) rfl rfl at_152 (pc' := 155) rfl (by decide) (by decide) (by decide) (by decide) (allS (mG (i := 0) rfl) (allS (mG (i := 1) rfl) all0)) ?_
      intro T201 h201_ v202 s203 H201 Q204
      obtain ⟨c205, rfl, rfl, K206⟩ := Q204
      show Go p e below _ (T201.setTop (mkF m 155 #[.val (.int x70000), .val (.int x70001), .val (.int x70002), .val (.int x70003), .val (.int 9), .val (.int 0), .val (.int (x2 &&& 255)), .val (.int x70007), .val (.ref p0), .val (.ref a177), .val (.int 1)] [(.int 0)]))
      refine G.iload H201 at_155 (pc' := 157) rfl rfl ?_
      refine G.ifYes H201 at_157 (by decide) (by decide) (pc' := 164) rfl ?_
      refine G.iconst H201 at_164 (pc' := 165) rfl (v := 0) rfl ?_
      refine G.icmpNo H201 at_165 (pc' := 168) rfl (by decide) ?_
      refine G.iconst H201 at_168 (pc' := 169) rfl (v := 1) rfl ?_
      refine G.goto H201 at_169 (by decide) (pc' := 173) rfl ?_
      exact G.retN H201 (t := .boolean) rfl (by decide) at_173 (so := []) all0 (by decide) (by decide) rfl
    ·
      refine G.icmpYes H195 at_140 (XT.ii_ne_t c199) (by decide) (pc' := 147) rfl ?_
      refine G.iconst H195 at_147 (pc' := 148) rfl (v := 0) rfl ?_
      refine G.istore H195 (L' := #[.val (.int x70000), .val (.int x70001), .val (.int x70002), .val (.int x70003), .val (.int 9), .val (.int 0), .val (.int (x2 &&& 255)), .val (.int x70007), .val (.ref p0), .val (.ref a177), .val (.int 0)]) at_148 (pc' := 150) rfl rfl ?_
      refine G.aload H195 at_150 (pc' := 152) rfl rfl rfl ?_
      have F207 := (Str.ext E186 F183)
      refine G.callS H195 (m29_apply V a177 a178 k179 e0 e1 e2 e3 e4 e5 e6 e7 e8 h184_ H195.old F207 (fun qq => c199 (Eq.trans (Eq.symm qe0) qq)) qe1 qe2 qe3 qe4 qe5 qe6 qe7 qe8) (wd27 V) (wd28 V) (wd29 V) (wd30 V) (by decide) (argsL := [(.ref a177)]) (rest := []) (W := 0) rfl rfl (lenOf (pd_3) rfl) rfl rfl at_152 (pc' := 155) rfl (by decide) (by decide) (by decide) (by decide) (allS (mG (i := 0) rfl) (allS (mG (i := 1) rfl) all0)) ?_
      intro T208 h208_ v209 s210 H208 Q211
      obtain ⟨c212, rfl, rfl, K213⟩ := Q211
      show Go p e below _ (T208.setTop (mkF m 155 #[.val (.int x70000), .val (.int x70001), .val (.int x70002), .val (.int x70003), .val (.int 9), .val (.int 0), .val (.int (x2 &&& 255)), .val (.int x70007), .val (.ref p0), .val (.ref a177), .val (.int 0)] [(.int 1)]))
      refine G.iload H208 at_155 (pc' := 157) rfl rfl ?_
      refine G.ifNo H208 at_157 (pc' := 160) rfl (by decide) ?_
      refine G.iconst H208 at_160 (pc' := 161) rfl (v := 1) rfl ?_
      refine G.goto H208 at_161 (by decide) (pc' := 165) rfl ?_
      refine G.icmpNo H208 at_165 (pc' := 168) rfl (by decide) ?_
      refine G.iconst H208 at_168 (pc' := 169) rfl (v := 1) rfl ?_
      refine G.goto H208 at_169 (by decide) (pc' := 173) rfl ?_
      exact G.retN H208 (t := .boolean) rfl (by decide) at_173 (so := []) all0 (by decide) (by decide) rfl
  ·
    refine G.aload H at_101 (pc' := 103) rfl rfl rfl ?_
    refine G.iload H at_103 (pc' := 105) rfl rfl ?_
    refine G.callS H (m30_cut V p0 c0 e0 e1 e2 e3 e4 e5 e6 e7 e8 e9 h0 H.old fA8 (own_u16 re0) (own_u16 re1) (own_u16 re2) (own_u16 re3) (own_u16 re4) (own_u16 re5) (own_u16 re6) (own_u16 re7) (own_u16 re8) (own_u16 re9) re9 re8 re7 re6 re5 re4 re3 re2 re1 re0) (wd2 V) (wd3 V) (wd4 V) (wd5 V) (by decide) (argsL := [(.ref p0), (.int 10)]) (rest := []) (W := 0) rfl rfl (lenOf (pd_2) rfl) rfl rfl at_105 (pc' := 108) rfl (by decide) (by decide) (by decide) (by decide) all0 ?_
    intro T214 h214_ v215 s216 H214 Q217
    obtain ⟨a218, a219, k220, rfl, rfl, K221, g222, g223, F224⟩ := Q217
    have na218 : n0 ≤ a218 := Nat.le_trans H.le g222
    have na219 : n0 ≤ a219 := Nat.le_trans H.le (Nat.le_of_lt (Nat.lt_of_le_of_lt g222 g223))
    show Go p e below _ (T214.setTop (mkF m 108 #[.val (.int x70000), .val (.int x70001), .val (.int x70002), .val (.int x70003), .val (.int 10), .val (.int 0), .val (.int (x2 &&& 255)), .val (.int x70007), .val (.ref p0), .unset, .unset] [(.ref a218)]))
    refine G.astore H214 (L' := #[.val (.int x70000), .val (.int x70001), .val (.int x70002), .val (.int x70003), .val (.int 10), .val (.int 0), .val (.int (x2 &&& 255)), .val (.int x70007), .val (.ref p0), .val (.ref a218), .unset]) at_108 (pc' := 110) rfl rfl rfl ?_
    refine G.iload H214 at_110 (pc' := 112) rfl rfl ?_
    refine G.bipush H214 at_112 (pc' := 114) rfl (v := 7) rfl ?_
    refine G.icmpNo H214 at_114 (pc' := 117) rfl (by decide) ?_
    refine G.iload H214 at_117 (pc' := 119) rfl rfl ?_
    refine G.bipush H214 at_119 (pc' := 121) rfl (v := 9) rfl ?_
    refine G.icmpYes H214 at_121 (by decide) (by decide) (pc' := 147) rfl ?_
    refine G.iconst H214 at_147 (pc' := 148) rfl (v := 0) rfl ?_
    refine G.istore H214 (L' := #[.val (.int x70000), .val (.int x70001), .val (.int x70002), .val (.int x70003), .val (.int 10), .val (.int 0), .val (.int (x2 &&& 255)), .val (.int x70007), .val (.ref p0), .val (.ref a218), .val (.int 0)]) at_148 (pc' := 150) rfl rfl ?_
    refine G.aload H214 at_150 (pc' := 152) rfl rfl rfl ?_
    refine G.callS H214 (m31_apply V a218 a219 k220 e0 e1 e2 e3 e4 e5 e6 e7 e8 e9 h214_ H214.old F224) (wd27 V) (wd28 V) (wd29 V) (wd30 V) (by decide) (argsL := [(.ref a218)]) (rest := []) (W := 0) rfl rfl (lenOf (pd_3) rfl) rfl rfl at_152 (pc' := 155) rfl (by decide) (by decide) (by decide) (by decide) (allS (mG (i := 0) rfl) (allS (mG (i := 1) rfl) all0)) ?_
    intro T225 h225_ v226 s227 H225 Q228
    obtain ⟨rfl, rfl, K229⟩ := Q228
    show Go p e below _ (T225.setTop (mkF m 155 #[.val (.int x70000), .val (.int x70001), .val (.int x70002), .val (.int x70003), .val (.int 10), .val (.int 0), .val (.int (x2 &&& 255)), .val (.int x70007), .val (.ref p0), .val (.ref a218), .val (.int 0)] [(.int 1)]))
    refine G.iload H225 at_155 (pc' := 157) rfl rfl ?_
    refine G.ifNo H225 at_157 (pc' := 160) rfl (by decide) ?_
    refine G.iconst H225 at_160 (pc' := 161) rfl (v := 1) rfl ?_
    refine G.goto H225 at_161 (by decide) (pc' := 165) rfl ?_
    refine G.icmpNo H225 at_165 (pc' := 168) rfl (by decide) ?_
    refine G.iconst H225 at_168 (pc' := 169) rfl (v := 1) rfl ?_
    refine G.goto H225 at_169 (by decide) (pc' := 173) rfl ?_
    exact G.retN H225 (t := .boolean) rfl (by decide) at_173 (so := []) all0 (by decide) (by decide) rfl
set_option maxRecDepth 65536 in
set_option maxHeartbeats 40000000 in
theorem m33_checkIndex (V : Env1 Z a0 n0 uu0 uu1)  (h0 : Heap) (hO : Old Z n0 h0)  :
    Met Z a0 ELs True n0 l (⟨"jdk/internal/util/Preconditions", "checkIndex", "(IILjava/util/function/BiFunction;)I"⟩ : MethodName) jdk_41_method_11_code 3 (Option.some FieldType.int) ({ frames := 0, cells := 0, slots := 0, locals := 0 } : Room) #[(.int 1), (.int 9), uu1] h0 [] (fun v h so => (v = some (.int 1) ∧ so = [] ∧ h0 = h)) := by
  refine Met.of (EWl V) (by first | decide +kernel | rfl) hO (L0 := #[.val (.int 1), .val (.int 9), .val uu1]) (by rcases XT.refc (hv3 V) with rfl | ⟨_, rfl⟩ <;> rfl) ?_
  intro p e s m below meth c T H
  show Go p e below _ (T.setTop (mkF m 0 #[.val (.int 1), .val (.int 9), .val uu1] []))
  refine G.iloadN H D0_0 (pc' := 1) rfl rfl ?_
  refine G.ifNo H D0_1 (pc' := 4) rfl (by decide) ?_
  refine G.iloadN H D0_4 (pc' := 5) rfl rfl ?_
  refine G.iloadN H D0_5 (pc' := 6) rfl rfl ?_
  refine G.icmpYes H D0_6 (by decide) (by decide) (pc' := 16) rfl ?_
  refine G.iloadN H D0_16 (pc' := 17) rfl rfl ?_
  exact G.retI H rfl D0_17 (so := []) all0 (by decide) (by decide) ⟨rfl, rfl, rfl⟩
set_option maxRecDepth 65536 in
set_option maxHeartbeats 40000000 in
theorem m34_checkIndex (V : Env1 Z a0 n0 uu0 uu1)  (h0 : Heap) (hO : Old Z n0 h0)  :
    Met Z a0 ELs True n0 l (⟨"java/lang/String", "checkIndex", "(II)V"⟩ : MethodName) jdk_42_method_155_code 2 (Option.none : Option FieldType) ({ frames := 1, cells := 0, slots := 0, locals := 14 } : Room) #[(.int 1), (.int 9)] h0 [] (fun v h so => (v = none ∧ so = [] ∧ h0 = h)) := by
  refine Met.of (EWl V) (by first | decide +kernel | rfl) hO (L0 := #[.val (.int 1), .val (.int 9)]) rfl ?_
  intro p e s m below meth c T H
  show Go p e below _ (T.setTop (mkF m 0 #[.val (.int 1), .val (.int 9)] []))
  refine G.iloadN H D3_0 (pc' := 1) rfl rfl ?_
  refine G.iloadN H D3_1 (pc' := 2) rfl rfl ?_
  refine G.getS H (wd71 V) Via.refl (Sta.ext H.old.2 (hv2 V)) D3_2 (pc' := 5) rfl ?_
  intro T1 H2
  refine G.callS H2 (m33_checkIndex V h0 H2.old) (wd73 V) (wd74 V) (wd72 V) (wd75 V) (by decide) (argsL := [(.int 1), (.int 9), uu1]) (rest := []) (W := 0) rfl rfl (lenOf (pd_5) rfl) rfl rfl D3_5 (pc' := 8) rfl (by decide) (by decide) (by decide) (by decide) all0 ?_
  intro T3 h3_ v4 s5 H3 Q6
  obtain ⟨rfl, rfl, rfl⟩ := Q6
  show Go p e below _ (T3.setTop (mkF m 8 #[.val (.int 1), .val (.int 9)] [(.int 1)]))
  refine G.pop H3 D3_8 (pc' := 9) rfl rfl ?_
  exact G.retV H3 rfl D3_9 (so := []) all0 (by decide) (by decide) ⟨rfl, rfl, rfl⟩
set_option maxRecDepth 65536 in
set_option maxHeartbeats 40000000 in
theorem m35_charAt (V : Env1 Z a0 n0 uu0 uu1) (p0 : Addr) (c0 : ClassId) (h0 : Heap) (hO : Old Z n0 h0) (f0 : Arv Z h0 p0 c0 .byte 9 [(.int 67), (.int 79), (.int 78), (.int 78), (.int 69), (.int 67), (.int 84), (.int 69), (.int 68)] (.int 0)) :
    Met Z a0 ELs True n0 l (⟨"java/lang/StringLatin1", "charAt", "([BI)C"⟩ : MethodName) jdk_43_method_2_code 2 (Option.some FieldType.char) ({ frames := 2, cells := 0, slots := 0, locals := 27 } : Room) #[(.ref p0), (.int 1)] h0 [] (fun v h so => (v = some (.int 79) ∧ so = [] ∧ h0 = h)) := by
  refine Met.of (EWl V) (by first | decide +kernel | rfl) hO (L0 := #[.val (.ref p0), .val (.int 1)]) rfl ?_
  intro p e s m below meth c T H
  show Go p e below _ (T.setTop (mkF m 0 #[.val (.ref p0), .val (.int 1)] []))
  refine G.iloadN H D6_0 (pc' := 1) rfl rfl ?_
  refine G.aloadN H D6_1 (pc' := 2) rfl rfl rfl ?_
  refine G.arrlen H f0 D6_2 (pc' := 3) rfl ?_
  refine G.callS H (m34_checkIndex V h0 H.old) (wd68 V) (wd69 V) (wd8 V) (wd70 V) (by decide) (argsL := [(.int 1), (.int 9)]) (rest := []) (W := 0) rfl rfl (lenOf (pd_6) rfl) rfl rfl D6_3 (pc' := 6) rfl (by decide) (by decide) (by decide) (by decide) all0 ?_
  intro T1 h1_ v2 s3 H1 Q4
  obtain ⟨rfl, rfl, rfl⟩ := Q4
  show Go p e below _ (T1.setTop (mkF m 6 #[.val (.ref p0), .val (.int 1)] []))
  refine G.aloadN H1 D6_6 (pc' := 7) rfl rfl rfl ?_
  refine G.iloadN H1 D6_7 (pc' := 8) rfl rfl ?_
  refine G.baloadG H1 f0 (j := 1) (v := (.int 79)) (by decide) rfl D6_8 (pc' := 9) rfl ?_
  refine G.sipush H1 D6_9 (pc' := 12) rfl (v := 255) rfl ?_
  refine G.iand H1 D6_12 (pc' := 13) rfl ?_
  show Go p e below _ (T1.setTop (mkF m 13 #[.val (.ref p0), .val (.int 1)] [(.int 79)]))
  refine G.i2c H1 (y := 79) D6_13 (pc' := 14) rfl rfl ?_
  exact G.retN H1 (t := .char) rfl (by decide) D6_14 (so := []) all0 (by decide) (by decide) ⟨rfl, rfl, rfl⟩
set_option maxRecDepth 65536 in
set_option maxHeartbeats 40000000 in
theorem m36_charAt (V : Env1 Z a0 n0 uu0 uu1) (p0 : Addr) (p1 : Addr) (c0 : ClassId) (h0 : Heap) (hO : Old Z n0 h0) (f0 : Exa Z h0 p0 "java/lang/String") (f1 : Fld Z h0 p0 "java/lang/String" "coder" "B" (.int 0)) (f2 : Fld Z h0 p0 "java/lang/String" "value" "[B" (.ref p1)) (f3 : Arv Z h0 p1 c0 .byte 9 [(.int 67), (.int 79), (.int 78), (.int 78), (.int 69), (.int 67), (.int 84), (.int 69), (.int 68)] (.int 0)) :
    Met Z a0 ELs True n0 l (⟨"java/lang/String", "charAt", "(I)C"⟩ : MethodName) jdk_42_method_56_code 2 (Option.some FieldType.char) ({ frames := 3, cells := 0, slots := 0, locals := 40 } : Room) #[(.ref p0), (.int 1)] h0 [] (fun v h so => (v = some (.int 79) ∧ so = [] ∧ h0 = h)) := by
  refine Met.of (EWl V) (by first | decide +kernel | rfl) hO (L0 := #[.val (.ref p0), .val (.int 1)]) rfl ?_
  intro p e s m below meth c T H
  show Go p e below _ (T.setTop (mkF m 0 #[.val (.ref p0), .val (.int 1)] []))
  refine G.aloadN H D5_0 (pc' := 1) rfl rfl rfl ?_
  refine G.callV H (m18_isLatin1 V p0 h0 H.old f1) (wd60 V) (wd61 V) (nf_sel (wd63 V)) (wd63 V) (wd62 V) (wd8 V) (wd64 V) (by decide) f0 (argsL := []) (rest := []) (W := 0) rfl rfl (lenOf (pd_4) rfl) rfl rfl D5_1 (pc' := 4) rfl (by decide) (by decide) (by decide) (by decide) all0 ?_
  intro T1 h1_ v2 s3 H1 Q4
  obtain ⟨rfl, rfl, rfl⟩ := Q4
  show Go p e below _ (T1.setTop (mkF m 4 #[.val (.ref p0), .val (.int 1)] [(.int 1)]))
  refine G.ifNo H1 D5_4 (pc' := 7) rfl (by decide) ?_
  refine G.aloadN H1 D5_7 (pc' := 8) rfl rfl rfl ?_
  refine G.getF H1 (wd25 V) Via.refl f2 D5_8 (pc' := 11) rfl ?_
  intro T5 H6
  refine G.iloadN H6 D5_11 (pc' := 12) rfl rfl ?_
  refine G.callS H6 (m35_charAt V p1 c0 h0 H6.old f3) (wd65 V) (wd66 V) (wd41 V) (wd67 V) (by decide) (argsL := [(.ref p1), (.int 1)]) (rest := []) (W := 0) rfl rfl (lenOf (pd_7) rfl) rfl rfl D5_12 (pc' := 15) rfl (by decide) (by decide) (by decide) (by decide) all0 ?_
  intro T7 h7_ v8 s9 H7 Q10
  obtain ⟨rfl, rfl, rfl⟩ := Q10
  show Go p e below _ (T7.setTop (mkF m 15 #[.val (.ref p0), .val (.int 1)] [(.int 79)]))
  exact G.retN H7 (t := .char) rfl (by decide) D5_15 (so := []) all0 (by decide) (by decide) ⟨rfl, rfl, rfl⟩
set_option maxRecDepth 65536 in
set_option maxHeartbeats 40000000 in
theorem m37_apply (V : Env1 Z a0 n0 uu0 uu1) (p0 : Addr) (p1 : Addr) (c0 : ClassId) (x0 : Int32) (x1 : Int32) (x2 : Int32) (x3 : Int32) (x4 : Int32) (x5 : Int32) (x6 : Int32) (h0 : Heap) (hO : Old Z n0 h0) (f0 : Str Z h0 p0 p1 c0 [x0, x1, x2, x3, x4, x5, x6]) (cc1 : x0 = 67) (cc2 : ¬ x1 = 79) (cc3 : x2 = 78) (cc4 : x3 = 78) (cc5 : x4 = 69) (cc6 : x5 = 67) (cc7 : x6 = 84) :
    Met Z a0 ELs True n0 l (⟨"bindery/server/stomp/HeaderEscapes", "apply", "(Ljava/lang/String;)Z"⟩ : MethodName) prog_84_method_2_code 1 (Option.some FieldType.boolean) ({ frames := 2, cells := 4, slots := 72, locals := 28 } : Room) #[(.ref p0)] h0 [p0, p1] (fun v h so => (¬ [x0, x1, x2, x3, x4, x5, x6] = [67, 79, 78, 78, 69, 67, 84] ∧ v = some (.int 1) ∧ so = [] ∧ Keep h0 h [])) := by
  refine Met.of (EWl V) (by first | decide +kernel | rfl) hO (L0 := #[.val (.ref p0)]) rfl ?_
  intro p e s m below meth c T H
  show Go p e below _ (T.setTop (mkF m 0 #[.val (.ref p0)] []))
  refine G.aloadN H D8_0 (pc' := 1) rfl rfl rfl ?_
  refine G.ldcS H trivial (wS V) (wd31 V) (by decide) (vs := [(.int 67), (.int 79), (.int 78), (.int 78), (.int 69), (.int 67), (.int 84)]) (z := 7) (by decide) (by decide) rfl (n := 28) (by decide) (by decide) (by decide) (by decide) D8_1 (pc' := 3) rfl ?_
  intro T1 h1_ a2 b4 k5 H1 E3 X6 F7 F8 A9 Q10
  have S11 : Str Z h1_ a2 b4 k5 [67, 79, 78, 78, 69, 67, 84] := ⟨X6, F7, F8, A9, by decide, by decide⟩
  have F12 := (Str.ext E3 f0)
  refine G.strEq H1 (strwEq V) (wd7 V) (wd32 V) (wd33 V) (wd35 V) (wd34 V) F12 S11 (hv0 V) (hv1 V) (rest := []) (W := 0) rfl rfl D8_3 (pc' := 6) rfl (by decide) (by decide) (by decide) (by decide) ?_ ?_
  ·
    intro T13 H14 c15
    exact absurd (List.cons.inj (List.cons.inj c15).2).1 cc2
  ·
    intro T16 H17 c18
    refine G.ifNo H17 D8_6 (pc' := 9) rfl (by decide) ?_
    refine G.aloadN H17 D8_9 (pc' := 10) rfl rfl rfl ?_
    refine G.ldcS H17 trivial (wS V) (wd43 V) (by decide) (vs := [(.int 67), (.int 79), (.int 78), (.int 78), (.int 69), (.int 67), (.int 84), (.int 69), (.int 68)]) (z := 9) (by decide) (by decide) rfl (n := 36) (by decide) (by decide) (by decide) (by decide) D8_10 (pc' := 12) rfl ?_
    intro T19 h19_ a20 b22 k23 H19 E21 X24 F25 F26 A27 Q28
    have S29 : Str Z h19_ a20 b22 k23 [67, 79, 78, 78, 69, 67, 84, 69, 68] := ⟨X24, F25, F26, A27, by decide, by decide⟩
    have F30 := (Str.ext E21 F12)
    refine G.strEq H19 (strwEq V) (wd7 V) (wd32 V) (wd33 V) (wd35 V) (wd34 V) F30 S29 (hv0 V) (hv1 V) (rest := []) (W := 0) rfl rfl D8_12 (pc' := 15) rfl (by decide) (by decide) (by decide) (by decide) ?_ ?_
    ·
      intro T31 H32 c33
      exact absurd c33 (by intro qq; simp at qq)
    ·
      intro T34 H35 c36
      refine G.ifNo H35 D8_15 (pc' := 18) rfl (by decide) ?_
      refine G.iconst H35 D8_18 (pc' := 19) rfl (v := 1) rfl ?_
      refine G.goto H35 D8_19 (by decide) (pc' := 23) rfl ?_
      have K37 : Keep h0 h19_ [] := (Keep.ext (Keep.ext (Keep.refl h0 []) E3) E21)
      exact G.retN H35 (t := .boolean) rfl (by decide) D8_23 (so := []) all0 (by decide) (by decide) ⟨c18, rfl, rfl, K37⟩
set_option maxRecDepth 65536 in
set_option maxHeartbeats 40000000 in
theorem m38_apply (V : Env1 Z a0 n0 uu0 uu1) (p0 : Addr) (p1 : Addr) (c0 : ClassId) (x0 : Int32) (x1 : Int32) (x2 : Int32) (x3 : Int32) (x4 : Int32) (x5 : Int32) (x6 : Int32) (x7 : Int32) (x8 : Int32) (h0 : Heap) (hO : Old Z n0 h0) (f0 : Str Z h0 p0 p1 c0 [x0, x1, x2, x3, x4, x5, x6, x7, x8]) (cc1 : x0 = 67) (cc2 : ¬ x1 = 79) (cc3 : x2 = 78) (cc4 : x3 = 78) (cc5 : x4 = 69) (cc6 : x5 = 67) (cc7 : x6 = 84) (cc8 : x7 = 69) (cc9 : x8 = 68) :
    Met Z a0 ELs True n0 l (⟨"bindery/server/stomp/HeaderEscapes", "apply", "(Ljava/lang/String;)Z"⟩ : MethodName) prog_84_method_2_code 1 (Option.some FieldType.boolean) ({ frames := 2, cells := 4, slots := 72, locals := 28 } : Room) #[(.ref p0)] h0 [p0, p1] (fun v h so => (¬ [x0, x1, x2, x3, x4, x5, x6, x7, x8] = [67, 79, 78, 78, 69, 67, 84, 69, 68] ∧ v = some (.int 1) ∧ so = [] ∧ Keep h0 h [])) := by
  refine Met.of (EWl V) (by first | decide +kernel | rfl) hO (L0 := #[.val (.ref p0)]) rfl ?_
  intro p e s m below meth c T H
  show Go p e below _ (T.setTop (mkF m 0 #[.val (.ref p0)] []))
  refine G.aloadN H D8_0 (pc' := 1) rfl rfl rfl ?_
  refine G.ldcS H trivial (wS V) (wd31 V) (by decide) (vs := [(.int 67), (.int 79), (.int 78), (.int 78), (.int 69), (.int 67), (.int 84)]) (z := 7) (by decide) (by decide) rfl (n := 28) (by decide) (by decide) (by decide) (by decide) D8_1 (pc' := 3) rfl ?_
  intro T1 h1_ a2 b4 k5 H1 E3 X6 F7 F8 A9 Q10
  have S11 : Str Z h1_ a2 b4 k5 [67, 79, 78, 78, 69, 67, 84] := ⟨X6, F7, F8, A9, by decide, by decide⟩
  have F12 := (Str.ext E3 f0)
  refine G.strEq H1 (strwEq V) (wd7 V) (wd32 V) (wd33 V) (wd35 V) (wd34 V) F12 S11 (hv0 V) (hv1 V) (rest := []) (W := 0) rfl rfl D8_3 (pc' := 6) rfl (by decide) (by decide) (by decide) (by decide) ?_ ?_
  ·
    intro T13 H14 c15
    exact absurd c15 (by intro qq; simp at qq)
  ·
    intro T16 H17 c18
    refine G.ifNo H17 D8_6 (pc' := 9) rfl (by decide) ?_
    refine G.aloadN H17 D8_9 (pc' := 10) rfl rfl rfl ?_
    refine G.ldcS H17 trivial (wS V) (wd43 V) (by decide) (vs := [(.int 67), (.int 79), (.int 78), (.int 78), (.int 69), (.int 67), (.int 84), (.int 69), (.int 68)]) (z := 9) (by decide) (by decide) rfl (n := 36) (by decide) (by decide) (by decide) (by decide) D8_10 (pc' := 12) rfl ?_
    intro T19 h19_ a20 b22 k23 H19 E21 X24 F25 F26 A27 Q28
    have S29 : Str Z h19_ a20 b22 k23 [67, 79, 78, 78, 69, 67, 84, 69, 68] := ⟨X24, F25, F26, A27, by decide, by decide⟩
    have F30 := (Str.ext E21 F12)
    refine G.strEq H19 (strwEq V) (wd7 V) (wd32 V) (wd33 V) (wd35 V) (wd34 V) F30 S29 (hv0 V) (hv1 V) (rest := []) (W := 0) rfl rfl D8_12 (pc' := 15) rfl (by decide) (by decide) (by decide) (by decide) ?_ ?_
    ·
      intro T31 H32 c33
      exact absurd (List.cons.inj (List.cons.inj c33).2).1 cc2
    ·
      intro T34 H35 c36
      refine G.ifNo H35 D8_15 (pc' := 18) rfl (by decide) ?_
      refine G.iconst H35 D8_18 (pc' := 19) rfl (v := 1) rfl ?_
      refine G.goto H35 D8_19 (by decide) (pc' := 23) rfl ?_
      have K37 : Keep h0 h19_ [] := (Keep.ext (Keep.ext (Keep.refl h0 []) E3) E21)
      exact G.retN H35 (t := .boolean) rfl (by decide) D8_23 (so := []) all0 (by decide) (by decide) ⟨c36, rfl, rfl, K37⟩
set_option maxRecDepth 65536 in
set_option maxHeartbeats 40000000 in
theorem cut39_101 (V : Env1 Z a0 n0 uu0 uu1) (x90101 : Int32) (x70000 : Int32) (x70001 : Int32) (x70002 : Int32) (x70003 : Int32) (x2 : Int32) (x70007 : Int32) (p0 : Addr) (c0 : ClassId) (e0 : Int32) (e1 : Int32) (e2 : Int32) (e3 : Int32) (e4 : Int32) (e5 : Int32) (e6 : Int32) (e7 : Int32) (e8 : Int32) (e9 : Int32) (x3 : Int32) (H : Hs p l e room_1 s m as' below meth c Z a0 ELs True x.cls n0 code maxLocals ret x.name T h0 1 10 []) (re0 : ¬ e0 < 0 ∧ ¬ 255 < e0) (qe0 : e0 = 67) (re1 : ¬ e1 < 0 ∧ ¬ 255 < e1) (qe1 : e1 = (x2 &&& 255)) (re2 : ¬ e2 < 0 ∧ ¬ 255 < e2) (qe2 : e2 = 78) (re3 : ¬ e3 < 0 ∧ ¬ 255 < e3) (qe3 : e3 = 78) (re4 : ¬ e4 < 0 ∧ ¬ 255 < e4) (qe4 : e4 = 69) (re5 : ¬ e5 < 0 ∧ ¬ 255 < e5) (qe5 : e5 = 67) (re6 : ¬ e6 < 0 ∧ ¬ 255 < e6) (qe6 : e6 = 84) (re7 : ¬ e7 < 0 ∧ ¬ 255 < e7) (qe7 : e7 = 69) (re8 : ¬ e8 < 0 ∧ ¬ 255 < e8) (qe8 : e8 = 68) (re9 : ¬ e9 < 0 ∧ ¬ 255 < e9) (qe9 : e9 = (x3 &&& 255)) (fA8 : Arv Z h0 p0 c0 .char 10 [(.int e0), (.int e1), (.int e2), (.int e3), (.int e4), (.int e5), (.int e6), (.int e7), (.int e8), (.int e9)] (.int 0)) (sp : x90101 = 0 ∨ x90101 = 1 ∨ x90101 = 2 ∨ x90101 = 3 ∨ x90101 = 4 ∨ x90101 = 5 ∨ x90101 = 6 ∨ x90101 = 7 ∨ x90101 = 8 ∨ x90101 = 9 ∨ x90101 = 10) :
    Go p e below (FinP s below Z ELs True n0 room_1.cells room_1.slots (fun v h so => v = some (.int 1))) (T.setTop (mkF m 101 #[.val (.int x70000), .val (.int x70001), .val (.int x70002), .val (.int x70003), .val (.int x90101), .val (.int 1), .val (.int (x2 &&& 255)), .val (.int x70007), .val (.ref p0), .unset, .unset] [])) := by
  rcases sp with rfl | rfl | rfl | rfl | rfl | rfl | rfl | rfl | rfl | rfl | rfl
  ·
    refine G.aload H at_101 (pc' := 103) rfl rfl rfl ?_
    refine G.iload H at_103 (pc' := 105) rfl rfl ?_
    refine G.callS H (m3_cut V p0 h0 H.old) (wd2 V) (wd3 V) (wd4 V) (wd5 V) (by decide) (argsL := [(.ref p0), (.int 0)]) (rest := []) (W := 0) rfl rfl (lenOf (pd_2) rfl) rfl rfl at_105 (pc' := 108) rfl (by decide) (by decide) (by decide) (by decide) all0 ?_
    intro T1 h1_ v2 s3 H1 Q4
    obtain ⟨a5, a6, k7, rfl, rfl, K8, g9, F10, F11, F12, F13⟩ := Q4
    have na5 : n0 ≤ a5 := Nat.le_trans H.le g9
    show Go p e below _ (T1.setTop (mkF m 108 #[.val (.int x70000), .val (.int x70001), .val (.int x70002), .val (.int x70003), .val (.int 0), .val (.int 1), .val (.int (x2 &&& 255)), .val (.int x70007), .val (.ref p0), .unset, .unset] [(.ref a5)]))
    refine G.astore H1 (L' := #[.val (.int x70000), .val (.int x70001), .val (.int x70002), .val (.int x70003), .val (.int 0), .val (.int 1), .val (.int (x2 &&& 255)), .val (.int x70007), .val (.ref p0), .val (.ref a5), .unset]) at_108 (pc' := 110) rfl rfl rfl ?_
    refine G.iload H1 at_110 (pc' := 112) rfl rfl ?_
    refine G.bipush H1 at_112 (pc' := 114) rfl (v := 7) rfl ?_
    refine G.icmpNo H1 at_114 (pc' := 117) rfl (by decide) ?_
    refine G.iload H1 at_117 (pc' := 119) rfl rfl ?_
    refine G.bipush H1 at_119 (pc' := 121) rfl (v := 9) rfl ?_
    refine G.icmpYes H1 at_121 (by decide) (by decide) (pc' := 147) rfl ?_
    refine G.iconst H1 at_147 (pc' := 148) rfl (v := 0) rfl ?_
    refine G.istore H1 (L' := #[.val (.int x70000), .val (.int x70001), .val (.int x70002), .val (.int x70003), .val (.int 0), .val (.int 1), .val (.int (x2 &&& 255)), .val (.int x70007), .val (.ref p0), .val (.ref a5), .val (.int 0)]) at_148 (pc' := 150) rfl rfl ?_
    refine G.aload H1 at_150 (pc' := 152) rfl rfl rfl ?_
    have S14 : Str Z h1_ a5 a6 k7 [] := ⟨F10, F12, F11, F13, cb0, Nat.le_of_ble_eq_true rfl⟩
    refine G.callS H1 (m4_apply V a5 a6 k7 h1_ H1.old S14) (wd27 V) (wd28 V) (wd29 V) (wd30 V) (by decide) (argsL := [(.ref a5)]) (rest := []) (W := 0) rfl rfl (lenOf (pd_3) rfl) rfl rfl at_152 (pc' := 155) rfl (by decide) (by decide) (by decide) (by decide) (allS (mG (i := 0) rfl) all0) ?_
    intro T15 h15_ v16 s17 H15 Q18
    obtain ⟨rfl, rfl, K19⟩ := Q18
    show Go p e below _ (T15.setTop (mkF m 155 #[.val (.int x70000), .val (.int x70001), .val (.int x70002), .val (.int x70003), .val (.int 0), .val (.int 1), .val (.int (x2 &&& 255)), .val (.int x70007), .val (.ref p0), .val (.ref a5), .val (.int 0)] [(.int 1)]))
    refine G.iload H15 at_155 (pc' := 157) rfl rfl ?_
    refine G.ifNo H15 at_157 (pc' := 160) rfl (by decide) ?_
    refine G.iconst H15 at_160 (pc' := 161) rfl (v := 1) rfl ?_
    refine G.goto H15 at_161 (by decide) (pc' := 165) rfl ?_
    refine G.icmpNo H15 at_165 (pc' := 168) rfl (by decide) ?_
    refine G.iconst H15 at_168 (pc' := 169) rfl (v := 1) rfl ?_
    refine G.goto H15 at_169 (by decide) (pc' := 173) rfl ?_
    exact G.retN H15 (t := .boolean) rfl (by decide) at_173 (so := []) all0 (by decide) (by decide) rfl
  ·
    refine G.aload H at_101 (pc' := 103) rfl rfl rfl ?_
    refine G.iload H at_103 (pc' := 105) rfl rfl ?_
    refine G.callS H (m5_cut V p0 c0 e0 e1 e2 e3 e4 e5 e6 e7 e8 e9 h0 H.old fA8 (own_u16 re0) re0) (wd2 V) (wd3 V) (wd4 V) (wd5 V) (by decide) (argsL := [(.ref p0), (.int 1)]) (rest := []) (W := 0) rfl rfl (lenOf (pd_2) rfl) rfl rfl at_105 (pc' := 108) rfl (by decide) (by decide) (by decide) (by decide) all0 ?_
    intro T20 h20_ v21 s22 H20 Q23
    obtain ⟨a24, a25, k26, rfl, rfl, K27, g28, g29, F30⟩ := Q23
    have na24 : n0 ≤ a24 := Nat.le_trans H.le g28
    have na25 : n0 ≤ a25 := Nat.le_trans H.le (Nat.le_of_lt (Nat.lt_of_le_of_lt g28 g29))
    show Go p e below _ (T20.setTop (mkF m 108 #[.val (.int x70000), .val (.int x70001), .val (.int x70002), .val (.int x70003), .val (.int 1), .val (.int 1), .val (.int (x2 &&& 255)), .val (.int x70007), .val (.ref p0), .unset, .unset] [(.ref a24)]))
    refine G.astore H20 (L' := #[.val (.int x70000), .val (.int x70001), .val (.int x70002), .val (.int x70003), .val (.int 1), .val (.int 1), .val (.int (x2 &&& 255)), .val (.int x70007), .val (.ref p0), .val (.ref a24), .unset]) at_108 (pc' := 110) rfl rfl rfl ?_
    refine G.iload H20 at_110 (pc' := 112) rfl rfl ?_
    refine G.bipush H20 at_112 (pc' := 114) rfl (v := 7) rfl ?_
    refine G.icmpNo H20 at_114 (pc' := 117) rfl (by decide) ?_
    refine G.iload H20 at_117 (pc' := 119) rfl rfl ?_
    refine G.bipush H20 at_119 (pc' := 121) rfl (v := 9) rfl ?_
    refine G.icmpYes H20 at_121 (by decide) (by decide) (pc' := 147) rfl ?_
    refine G.iconst H20 at_147 (pc' := 148) rfl (v := 0) rfl ?_
    refine G.istore H20 (L' := #[.val (.int x70000), .val (.int x70001), .val (.int x70002), .val (.int x70003), .val (.int 1), .val (.int 1), .val (.int (x2 &&& 255)), .val (.int x70007), .val (.ref p0), .val (.ref a24), .val (.int 0)]) at_148 (pc' := 150) rfl rfl ?_
    refine G.aload H20 at_150 (pc' := 152) rfl rfl rfl ?_
    refine G.callS H20 (m6_apply V a24 a25 k26 e0 h20_ H20.old F30) (wd27 V) (wd28 V) (wd29 V) (wd30 V) (by decide) (argsL := [(.ref a24)]) (rest := []) (W := 0) rfl rfl (lenOf (pd_3) rfl) rfl rfl at_152 (pc' := 155) rfl (by decide) (by decide) (by decide) (by decide) (allS (mG (i := 0) rfl) (allS (mG (i := 1) rfl) all0)) ?_
    intro T31 h31_ v32 s33 H31 Q34
    obtain ⟨rfl, rfl, K35⟩ := Q34
    show Go p e below _ (T31.setTop (mkF m 155 #[.val (.int x70000), .val (.int x70001), .val (.int x70002), .val (.int x70003), .val (.int 1), .val (.int 1), .val (.int (x2 &&& 255)), .val (.int x70007), .val (.ref p0), .val (.ref a24), .val (.int 0)] [(.int 1)]))
    refine G.iload H31 at_155 (pc' := 157) rfl rfl ?_
    refine G.ifNo H31 at_157 (pc' := 160) rfl (by decide) ?_
    refine G.iconst H31 at_160 (pc' := 161) rfl (v := 1) rfl ?_
    refine G.goto H31 at_161 (by decide) (pc' := 165) rfl ?_
    refine G.icmpNo H31 at_165 (pc' := 168) rfl (by decide) ?_
    refine G.iconst H31 at_168 (pc' := 169) rfl (v := 1) rfl ?_
    refine G.goto H31 at_169 (by decide) (pc' := 173) rfl ?_
    exact G.retN H31 (t := .boolean) rfl (by decide) at_173 (so := []) all0 (by decide) (by decide) rfl
  ·
    refine G.aload H at_101 (pc' := 103) rfl rfl rfl ?_
    refine G.iload H at_103 (pc' := 105) rfl rfl ?_
    refine G.callS H (m7_cut V p0 c0 e0 e1 e2 e3 e4 e5 e6 e7 e8 e9 h0 H.old fA8 (own_u16 re0) (own_u16 re1) re1 re0) (wd2 V) (wd3 V) (wd4 V) (wd5 V) (by decide) (argsL := [(.ref p0), (.int 2)]) (rest := []) (W := 0) rfl rfl (lenOf (pd_2) rfl) rfl rfl at_105 (pc' := 108) rfl (by decide) (by decide) (by decide) (by decide) all0 ?_
    intro T36 h36_ v37 s38 H36 Q39
    obtain ⟨a40, a41, k42, rfl, rfl, K43, g44, g45, F46⟩ := Q39
    have na40 : n0 ≤ a40 := Nat.le_trans H.le g44
    have na41 : n0 ≤ a41 := Nat.le_trans H.le (Nat.le_of_lt (Nat.lt_of_le_of_lt g44 g45))
    show Go p e below _ (T36.setTop (mkF m 108 #[.val (.int x70000), .val (.int x70001), .val (.int x70002), .val (.int x70003), .val (.int 2), .val (.int 1), .val (.int (x2 &&& 255)), .val (.int x70007), .val (.ref p0), .unset, .unset] [(.ref a40)]))
    refine G.astore H36 (L' := #[.val (.int x70000), .val (.int x70001), .val (.int x70002), .val (.int x70003), .val (.int 2), .val (.int 1), .val (.int (x2 &&& 255)), .val (.int x70007), .val (.ref p0), .val (.ref a40), .unset]) at_108 (pc' := 110) rfl rfl rfl ?_
    refine G.iload H36 at_110 (pc' := 112) rfl rfl ?_
    refine G.bipush H36 at_112 (pc' := 114) rfl (v := 7) rfl ?_
    refine G.icmpNo H36 at_114 (pc' := 117) rfl (by decide) ?_
    refine G.iload H36 at_117 (pc' := 119) rfl rfl ?_
    refine G.bipush H36 at_119 (pc' := 121) rfl (v := 9) rfl ?_
    refine G.icmpYes H36 at_121 (by decide) (by decide) (pc' := 147) rfl ?_
    refine G.iconst H36 at_147 (pc' := 148) rfl (v := 0) rfl ?_
    refine G.istore H36 (L' := #[.val (.int x70000), .val (.int x70001), .val (.int x70002), .val (.int x70003), .val (.int 2), .val (.int 1), .val (.int (x2 &&& 255)), .val (.int x70007), .val (.ref p0), .val (.ref a40), .val (.int 0)]) at_148 (pc' := 150) rfl rfl ?_
    refine G.aload H36 at_150 (pc' := 152) rfl rfl rfl ?_
    refine G.callS H36 (m8_apply V a40 a41 k42 e0 e1 h36_ H36.old F46) (wd27 V) (wd28 V) (wd29 V) (wd30 V) (by decide) (argsL := [(.ref a40)]) (rest := []) (W := 0) rfl rfl (lenOf (pd_3) rfl) rfl rfl at_152 (pc' := 155) rfl (by decide) (by decide) (by decide) (by decide) (allS (mG (i := 0) rfl) (allS (mG (i := 1) rfl) all0)) ?_
    intro T47 h47_ v48 s49 H47 Q50
    obtain ⟨rfl, rfl, K51⟩ := Q50
    show Go p e below _ (T47.setTop (mkF m 155 #[.val (.int x70000), .val (.int x70001), .val (.int x70002), .val (.int x70003), .val (.int 2), .val (.int 1), .val (.int (x2 &&& 255)), .val (.int x70007), .val (.ref p0), .val (.ref a40), .val (.int 0)] [(.int 1)]))
    refine G.iload H47 at_155 (pc' := 157) rfl rfl ?_
    refine G.ifNo H47 at_157 (pc' := 160) rfl (by decide) ?_
    refine G.iconst H47 at_160 (pc' := 161) rfl (v := 1) rfl ?_
    refine G.goto H47 at_161 (by decide) (pc' := 165) rfl ?_
    refine G.icmpNo H47 at_165 (pc' := 168) rfl (by decide) ?_
    refine G.iconst H47 at_168 (pc' := 169) rfl (v := 1) rfl ?_
    refine G.goto H47 at_169 (by decide) (pc' := 173) rfl ?_
    exact G.retN H47 (t := .boolean) rfl (by decide) at_173 (so := []) all0 (by decide) (by decide) rfl
  ·
    refine G.aload H at_101 (pc' := 103) rfl rfl rfl ?_
    refine G.iload H at_103 (pc' := 105) rfl rfl ?_
    refine G.callS H (m9_cut V p0 c0 e0 e1 e2 e3 e4 e5 e6 e7 e8 e9 h0 H.old fA8 (own_u16 re0) (own_u16 re1) (own_u16 re2) re2 re1 re0) (wd2 V) (wd3 V) (wd4 V) (wd5 V) (by decide) (argsL := [(.ref p0), (.int 3)]) (rest := []) (W := 0) rfl rfl (lenOf (pd_2) rfl) rfl rfl at_105 (pc' := 108) rfl (by decide) (by decide) (by decide) (by decide) all0 ?_
    intro T52 h52_ v53 s54 H52 Q55
    obtain ⟨a56, a57, k58, rfl, rfl, K59, g60, g61, F62⟩ := Q55
    have na56 : n0 ≤ a56 := Nat.le_trans H.le g60
    have na57 : n0 ≤ a57 := Nat.le_trans H.le (Nat.le_of_lt (Nat.lt_of_le_of_lt g60 g61))
    show Go p e below _ (T52.setTop (mkF m 108 #[.val (.int x70000), .val (.int x70001), .val (.int x70002), .val (.int x70003), .val (.int 3), .val (.int 1), .val (.int (x2 &&& 255)), .val (.int x70007), .val (.ref p0), .unset, .unset] [(.ref a56)]))
    refine G.astore H52 (L' := #[.val (.int x70000), .val (.int x70001), .val (.int x70002), .val (.int x70003), .val (.int 3), .val (.int 1), .val (.int (x2 &&& 255)), .val (.int x70007), .val (.ref p0), .val (.ref a56), .unset]) at_108 (pc' := 110) rfl rfl rfl ?_
    refine G.iload H52 at_110 (pc' := 112) rfl rfl ?_
    refine G.bipush H52 at_112 (pc' := 114) rfl (v := 7) rfl ?_
    refine G.icmpNo H52 at_114 (pc' := 117) rfl (by decide) ?_
    refine G.iload H52 at_117 (pc' := 119) rfl rfl ?_
    refine G.bipush H52 at_119 (pc' := 121) rfl (v := 9) rfl ?_
    refine G.icmpYes H52 at_121 (by decide) (by decide) (pc' := 147) rfl ?_
    refine G.iconst H52 at_147 (pc' := 148) rfl (v := 0) rfl ?_
    refine G.istore H52 (L' := #[.val (.int x70000), .val (.int x70001), .val (.int x70002), .val (.int x70003), .val (.int 3), .val (.int 1), .val (.int (x2 &&& 255)), .val (.int x70007), .val (.ref p0), .val (.ref a56), .val (.int 0)]) at_148 (pc' := 150) rfl rfl ?_
    refine G.aload H52 at_150 (pc' := 152) rfl rfl rfl ?_
    refine G.callS H52 (m10_apply V a56 a57 k58 e0 e1 e2 h52_ H52.old F62) (wd27 V) (wd28 V) (wd29 V) (wd30 V) (by decide) (argsL := [(.ref a56)]) (rest := []) (W := 0) rfl rfl (lenOf (pd_3) rfl) rfl rfl at_152 (pc' := 155) rfl (by decide) (by decide) (by decide) (by decide) (allS (mG (i := 0) rfl) (allS (mG (i := 1) rfl) all0)) ?_
    intro T63 h63_ v64 s65 H63 Q66
    obtain ⟨rfl, rfl, K67⟩ := Q66
    show Go p e below _ (T63.setTop (mkF m 155 #[.val (.int x70000), .val (.int x70001), .val (.int x70002), .val (.int x70003), .val (.int 3), .val (.int 1), .val (.int (x2 &&& 255)), .val (.int x70007), .val (.ref p0), .val (.ref a56), .val (.int 0)] [(.int 1)]))
    refine G.iload H63 at_155 (pc' := 157) rfl rfl ?_
    refine G.ifNo H63 at_157 (pc' := 160) rfl (by decide) ?_
    refine G.iconst H63 at_160 (pc' := 161) rfl (v := 1) rfl ?_
    refine G.goto H63 at_161 (by decide) (pc' := 165) rfl ?_
    refine G.icmpNo H63 at_165 (pc' := 168) rfl (by decide) ?_
    refine G.iconst H63 at_168 (pc' := 169) rfl (v := 1) rfl ?_
    refine G.goto H63 at_169 (by decide) (pc' := 173) rfl ?_
    exact G.retN H63 (t := .boolean) rfl (by decide) at_173 (so := []) all0 (by decide) (by decide) rfl
  ·
    refine G.aload H at_101 (pc' := 103) rfl rfl rfl ?_
    refine G.iload H at_103 (pc' := 105) rfl rfl ?_
    refine G.callS H (m11_cut V p0 c0 e0 e1 e2 e3 e4 e5 e6 e7 e8 e9 h0 H.old fA8 (own_u16 re0) (own_u16 re1) (own_u16 re2) (own_u16 re3) re3 re2 re1 re0) (wd2 V) (wd3 V) (wd4 V) (wd5 V) (by decide) (argsL := [(.ref p0), (.int 4)]) (rest := []) (W := 0) rfl rfl (lenOf (pd_2) rfl) rfl rfl at_105 (pc' := 108) rfl (by decide) (by decide) (by decide) (by decide) all0 ?_
    intro T68 h68_ v69 s70 H68 Q71
    obtain ⟨a72, a73, k74, rfl, rfl, K75, g76, g77, F78⟩ := Q71
    have na72 : n0 ≤ a72 := Nat.le_trans H.le g76
    have na73 : n0 ≤ a73 := Nat.le_trans H.le (Nat.le_of_lt (Nat.lt_of_le_of_lt g76 g77))
    show Go p e below _ (T68.setTop (mkF m 108 #[.val (.int x70000), .val (.int x70001), .val (.int x70002), .val (.int x70003), .val (.int 4), .val (.int 1), .val (.int (x2 &&& 255)), .val (.int x70007), .val (.ref p0), .unset, .unset] [(.ref a72)]))
    refine G.astore H68 (L' := #[.val (.int x70000), .val (.int x70001), .val (.int x70002), .val (.int x70003), .val (.int 4), .val (.int 1), .val (.int (x2 &&& 255)), .val (.int x70007), .val (.ref p0), .val (.ref a72), .unset]) at_108 (pc' := 110) rfl rfl rfl ?_
    refine G.iload H68 at_110 (pc' := 112) rfl rfl ?_
    refine G.bipush H68 at_112 (pc' := 114) rfl (v := 7) rfl ?_
    refine G.icmpNo H68 at_114 (pc' := 117) rfl (by decide) ?_
    refine G.iload H68 at_117 (pc' := 119) rfl rfl ?_
    refine G.bipush H68 at_119 (pc' := 121) rfl (v := 9) rfl ?_
    refine G.icmpYes H68 at_121 (by decide) (by decide) (pc' := 147) rfl ?_
    refine G.iconst H68 at_147 (pc' := 148) rfl (v := 0) rfl ?_
    refine G.istore H68 (L' := #[.val (.int x70000), .val (.int x70001), .val (.int x70002), .val (.int x70003), .val (.int 4), .val (.int 1), .val (.int (x2 &&& 255)), .val (.int x70007), .val (.ref p0), .val (.ref a72), .val (.int 0)]) at_148 (pc' := 150) rfl rfl ?_
    refine G.aload H68 at_150 (pc' := 152) rfl rfl rfl ?_
    refine G.callS H68 (m12_apply V a72 a73 k74 e0 e1 e2 e3 h68_ H68.old F78) (wd27 V) (wd28 V) (wd29 V) (wd30 V) (by decide) (argsL := [(.ref a72)]) (rest := []) (W := 0) rfl rfl (lenOf (pd_3) rfl) rfl rfl at_152 (pc' := 155) rfl (by decide) (by decide) (by decide) (by decide) (allS (mG (i := 0) rfl) (allS (mG (i := 1) rfl) all0)) ?_
    intro T79 h79_ v80 s81 H79 Q82
    obtain ⟨rfl, rfl, K83⟩ := Q82
    show Go p e below _ (T79.setTop (mkF m 155 #[.val (.int x70000), .val (.int x70001), .val (.int x70002), .val (.int x70003), .val (.int 4), .val (.int 1), .val (.int (x2 &&& 255)), .val (.int x70007), .val (.ref p0), .val (.ref a72), .val (.int 0)] [(.int 1)]))
    refine G.iload H79 at_155 (pc' := 157) rfl rfl ?_
    refine G.ifNo H79 at_157 (pc' := 160) rfl (by decide) ?_
    refine G.iconst H79 at_160 (pc' := 161) rfl (v := 1) rfl ?_
    refine G.goto H79 at_161 (by decide) (pc' := 165) rfl ?_
    refine G.icmpNo H79 at_165 (pc' := 168) rfl (by decide) ?_
    refine G.iconst H79 at_168 (pc' := 169) rfl (v := 1) rfl ?_
    refine G.goto H79 at_169 (by decide) (pc' := 173) rfl ?_
    exact G.retN H79 (t := .boolean) rfl (by decide) at_173 (so := []) all0 (by decide) (by decide) rfl
  ·
    refine G.aload H at_101 (pc' := 103) rfl rfl rfl ?_
    refine G.iload H at_103 (pc' := 105) rfl rfl ?_
    refine G.callS H (m13_cut V p0 c0 e0 e1 e2 e3 e4 e5 e6 e7 e8 e9 h0 H.old fA8 (own_u16 re0) (own_u16 re1) (own_u16 re2) (own_u16 re3) (own_u16 re4) re4 re3 re2 re1 re0) (wd2 V) (wd3 V) (wd4 V) (wd5 V) (by decide) (argsL := [(.ref p0), (.int 5)]) (rest := []) (W := 0) rfl rfl (lenOf (pd_2) rfl) rfl rfl at_105 (pc' := 108) rfl (by decide) (by decide) (by decide) (by decide) all0 ?_
    intro T84 h84_ v85 s86 H84 Q87
    obtain ⟨a88, a89, k90, rfl, rfl, K91, g92, g93, F94⟩ := Q87
    have na88 : n0 ≤ a88 := Nat.le_trans H.le g92
    have na89 : n0 ≤ a89 := Nat.le_trans H.le (Nat.le_of_lt (Nat.lt_of_le_of_lt g92 g93))
    show Go p e below _ (T84.setTop (mkF m 108 #[.val (.int x70000), .val (.int x70001), .val (.int x70002), .val (.int x70003), .val (.int 5), .val (.int 1), .val (.int (x2 &&& 255)), .val (.int x70007), .val (.ref p0), .unset, .unset] [(.ref a88)]))
    refine G.astore H84 (L' := #[.val (.int x70000), .val (.int x70001), .val (.int x70002), .val (.int x70003), .val (.int 5), .val (.int 1), .val (.int (x2 &&& 255)), .val (.int x70007), .val (.ref p0), .val (.ref a88), .unset]) at_108 (pc' := 110) rfl rfl rfl ?_
    refine G.iload H84 at_110 (pc' := 112) rfl rfl ?_
    refine G.bipush H84 at_112 (pc' := 114) rfl (v := 7) rfl ?_
    refine G.icmpNo H84 at_114 (pc' := 117) rfl (by decide) ?_
    refine G.iload H84 at_117 (pc' := 119) rfl rfl ?_
    refine G.bipush H84 at_119 (pc' := 121) rfl (v := 9) rfl ?_
    refine G.icmpYes H84 at_121 (by decide) (by decide) (pc' := 147) rfl ?_
    refine G.iconst H84 at_147 (pc' := 148) rfl (v := 0) rfl ?_
    refine G.istore H84 (L' := #[.val (.int x70000), .val (.int x70001), .val (.int x70002), .val (.int x70003), .val (.int 5), .val (.int 1), .val (.int (x2 &&& 255)), .val (.int x70007), .val (.ref p0), .val (.ref a88), .val (.int 0)]) at_148 (pc' := 150) rfl rfl ?_
    refine G.aload H84 at_150 (pc' := 152) rfl rfl rfl ?_
    refine G.callS H84 (m14_apply V a88 a89 k90 e0 e1 e2 e3 e4 h84_ H84.old F94) (wd27 V) (wd28 V) (wd29 V) (wd30 V) (by decide) (argsL := [(.ref a88)]) (rest := []) (W := 0) rfl rfl (lenOf (pd_3) rfl) rfl rfl at_152 (pc' := 155) rfl (by decide) (by decide) (by decide) (by decide) (allS (mG (i := 0) rfl) (allS (mG (i := 1) rfl) all0)) ?_
    intro T95 h95_ v96 s97 H95 Q98
    obtain ⟨rfl, rfl, K99⟩ := Q98
    show Go p e below _ (T95.setTop (mkF m 155 #[.val (.int x70000), .val (.int x70001), .val (.int x70002), .val (.int x70003), .val (.int 5), .val (.int 1), .val (.int (x2 &&& 255)), .val (.int x70007), .val (.ref p0), .val (.ref a88), .val (.int 0)] [(.int 1)]))
    refine G.iload H95 at_155 (pc' := 157) rfl rfl ?_
    refine G.ifNo H95 at_157 (pc' := 160) rfl (by decide) ?_
    refine G.iconst H95 at_160 (pc' := 161) rfl (v := 1) rfl ?_
    refine G.goto H95 at_161 (by decide) (pc' := 165) rfl ?_
    refine G.icmpNo H95 at_165 (pc' := 168) rfl (by decide) ?_
    refine G.iconst H95 at_168 (pc' := 169) rfl (v := 1) rfl ?_
    refine G.goto H95 at_169 (by decide) (pc' := 173) rfl ?_
    exact G.retN H95 (t := .boolean) rfl (by decide) at_173 (so := []) all0 (by decide) (by decide) rfl
  ·
    refine G.aload H at_101 (pc' := 103) rfl rfl rfl ?_
    refine G.iload H at_103 (pc' := 105) rfl rfl ?_
    refine G.callS H (m15_cut V p0 c0 e0 e1 e2 e3 e4 e5 e6 e7 e8 e9 h0 H.old fA8 (own_u16 re0) (own_u16 re1) (own_u16 re2) (own_u16 re3) (own_u16 re4) (own_u16 re5) re5 re4 re3 re2 re1 re0) (wd2 V) (wd3 V) (wd4 V) (wd5 V) (by decide) (argsL := [(.ref p0), (.int 6)]) (rest := []) (W := 0) rfl rfl (lenOf (pd_2) rfl) rfl rfl at_105 (pc' := 108) rfl (by decide) (by decide) (by decide) (by decide) all0 ?_
    intro T100 h100_ v101 s102 H100 Q103
    obtain ⟨a104, a105, k106, rfl, rfl, K107, g108, g109, F110⟩ := Q103
    have na104 : n0 ≤ a104 := Nat.le_trans H.le g108
    have na105 : n0 ≤ a105 := Nat.le_trans H.le (Nat.le_of_lt (Nat.lt_of_le_of_lt g108 g109))
    show Go p e below _ (T100.setTop (mkF m 108 #[.val (.int x70000), .val (.int x70001), .val (.int x70002), .val (.int x70003), .val (.int 6), .val (.int 1), .val (.int (x2 &&& 255)), .val (.int x70007), .val (.ref p0), .unset, .unset] [(.ref a104)]))
    refine G.astore H100 (L' := #[.val (.int x70000), .val (.int x70001), .val (.int x70002), .val (.int x70003), .val (.int 6), .val (.int 1), .val (.int (x2 &&& 255)), .val (.int x70007), .val (.ref p0), .val (.ref a104), .unset]) at_108 (pc' := 110) rfl rfl rfl ?_
    refine G.iload H100 at_110 (pc' := 112) rfl rfl ?_
    refine G.bipush H100 at_112 (pc' := 114) rfl (v := 7) rfl ?_
    refine G.icmpNo H100 at_114 (pc' := 117) rfl (by decide) ?_
    refine G.iload H100 at_117 (pc' := 119) rfl rfl ?_
    refine G.bipush H100 at_119 (pc' := 121) rfl (v := 9) rfl ?_
    refine G.icmpYes H100 at_121 (by decide) (by decide) (pc' := 147) rfl ?_
    refine G.iconst H100 at_147 (pc' := 148) rfl (v := 0) rfl ?_
    refine G.istore H100 (L' := #[.val (.int x70000), .val (.int x70001), .val (.int x70002), .val (.int x70003), .val (.int 6), .val (.int 1), .val (.int (x2 &&& 255)), .val (.int x70007), .val (.ref p0), .val (.ref a104), .val (.int 0)]) at_148 (pc' := 150) rfl rfl ?_
    refine G.aload H100 at_150 (pc' := 152) rfl rfl rfl ?_
    refine G.callS H100 (m16_apply V a104 a105 k106 e0 e1 e2 e3 e4 e5 h100_ H100.old F110) (wd27 V) (wd28 V) (wd29 V) (wd30 V) (by decide) (argsL := [(.ref a104)]) (rest := []) (W := 0) rfl rfl (lenOf (pd_3) rfl) rfl rfl at_152 (pc' := 155) rfl (by decide) (by decide) (by decide) (by decide) (allS (mG (i := 0) rfl) (allS (mG (i := 1) rfl) all0)) ?_
    intro T111 h111_ v112 s113 H111 Q114
    obtain ⟨rfl, rfl, K115⟩ := Q114
    show Go p e below _ (T111.setTop (mkF m 155 #[.val (.int x70000), .val (.int x70001), .val (.int x70002), .val (.int x70003), .val (.int 6), .val (.int 1), .val (.int (x2 &&& 255)), .val (.int x70007), .val (.ref p0), .val (.ref a104), .val (.int 0)] [(.int 1)]))
    refine G.iload H111 at_155 (pc' := 157) rfl rfl ?_
    refine G.ifNo H111 at_157 (pc' := 160) rfl (by decide) ?_
    refine G.iconst H111 at_160 (pc' := 161) rfl (v := 1) rfl ?_
    refine G.goto H111 at_161 (by decide) (pc' := 165) rfl ?_
    refine G.icmpNo H111 at_165 (pc' := 168) rfl (by decide) ?_
    refine G.iconst H111 at_168 (pc' := 169) rfl (v := 1) rfl ?_
    refine G.goto H111 at_169 (by decide) (pc' := 173) rfl ?_
    exact G.retN H111 (t := .boolean) rfl (by decide) at_173 (so := []) all0 (by decide) (by decide) rfl
  ·
    refine G.aload H at_101 (pc' := 103) rfl rfl rfl ?_
    refine G.iload H at_103 (pc' := 105) rfl rfl ?_
    refine G.callS H (m17_cut V p0 c0 e0 e1 e2 e3 e4 e5 e6 e7 e8 e9 h0 H.old fA8 (own_u16 re0) (own_u16 re1) (own_u16 re2) (own_u16 re3) (own_u16 re4) (own_u16 re5) (own_u16 re6) re6 re5 re4 re3 re2 re1 re0) (wd2 V) (wd3 V) (wd4 V) (wd5 V) (by decide) (argsL := [(.ref p0), (.int 7)]) (rest := []) (W := 0) rfl rfl (lenOf (pd_2) rfl) rfl rfl at_105 (pc' := 108) rfl (by decide) (by decide) (by decide) (by decide) all0 ?_
    intro T116 h116_ v117 s118 H116 Q119
    obtain ⟨a120, a121, k122, rfl, rfl, K123, g124, g125, F126⟩ := Q119
    have na120 : n0 ≤ a120 := Nat.le_trans H.le g124
    have na121 : n0 ≤ a121 := Nat.le_trans H.le (Nat.le_of_lt (Nat.lt_of_le_of_lt g124 g125))
    show Go p e below _ (T116.setTop (mkF m 108 #[.val (.int x70000), .val (.int x70001), .val (.int x70002), .val (.int x70003), .val (.int 7), .val (.int 1), .val (.int (x2 &&& 255)), .val (.int x70007), .val (.ref p0), .unset, .unset] [(.ref a120)]))
    refine G.astore H116 (L' := #[.val (.int x70000), .val (.int x70001), .val (.int x70002), .val (.int x70003), .val (.int 7), .val (.int 1), .val (.int (x2 &&& 255)), .val (.int x70007), .val (.ref p0), .val (.ref a120), .unset]) at_108 (pc' := 110) rfl rfl rfl ?_
    refine G.iload H116 at_110 (pc' := 112) rfl rfl ?_
    refine G.bipush H116 at_112 (pc' := 114) rfl (v := 7) rfl ?_
    refine G.icmpYes H116 at_114 (by decide) (by decide) (pc' := 124) rfl ?_
    refine G.iload H116 at_124 (pc' := 126) rfl rfl ?_
    refine G.iload H116 at_126 (pc' := 128) rfl rfl ?_
    refine G.icmpNo H116 at_128 (pc' := 131) rfl (by decide) ?_
    refine G.iload H116 at_131 (pc' := 133) rfl rfl ?_
    refine G.ldcS H116 trivial (wS V) (wd54 V) (by decide) (vs := [(.int 67), (.int 79), (.int 78), (.int 78), (.int 69), (.int 67), (.int 84), (.int 69), (.int 68)]) (z := 9) (by decide) (by decide) rfl (n := 36) (by decide) (by decide) (by decide) (by decide) at_133 (pc' := 135) rfl ?_
    intro T127 h127_ a128 b130 k131 H127 E129 X132 F133 F134 A135 Q136
    have S137 : Str Z h127_ a128 b130 k131 [67, 79, 78, 78, 69, 67, 84, 69, 68] := ⟨X132, F133, F134, A135, by decide, by decide⟩
    refine G.iload H127 at_135 (pc' := 137) rfl rfl ?_
    refine G.callV H127 (m36_charAt V a128 b130 k131 h127_ H127.old X132 F133 F134 A135) (wd55 V) (wd56 V) (nf_sel (wd58 V)) (wd58 V) (wd57 V) (wd8 V) (wd59 V) (by decide) X132 (argsL := [(.int 1)]) (rest := [(.int (x2 &&& 255))]) (W := 1) rfl rfl (lenOf (pd_8) rfl) rfl rfl at_137 (pc' := 140) rfl (by decide) (by decide) (by decide) (by decide) all0 ?_
    intro T138 h138_ v139 s140 H138 Q141
    obtain ⟨rfl, rfl, rfl⟩ := Q141
    show Go p e below _ (T138.setTop (mkF m 140 #[.val (.int x70000), .val (.int x70001), .val (.int x70002), .val (.int x70003), .val (.int 7), .val (.int 1), .val (.int (x2 &&& 255)), .val (.int x70007), .val (.ref p0), .val (.ref a120), .unset] [(.int 79), (.int (x2 &&& 255))]))
    by_cases c142 : (x2 &&& 255) = 79
    ·
      refine G.icmpNo H138 at_140 (pc' := 143) rfl (XT.ii_ne_f c142) ?_
      refine G.iconst H138 at_143 (pc' := 144) rfl (v := 1) rfl ?_
      refine G.goto H138 at_144 (by decide) (pc' := 148) rfl ?_
      refine G.istore H138 (L' := #[.val (.int x70000), .val (.int x70001), .val (.int x70002), .val (.int x70003), .val (.int 7), .val (.int 1), .val (.int (x2 &&& 255)), .val (.int x70007), .val (.ref p0), .val (.ref a120), .val (.int 1)]) at_148 (pc' := 150) rfl rfl ?_
      refine G.aload H138 at_150 (pc' := 152) rfl rfl rfl ?_
      have F143 := (Str.ext E129 F126)
      refine G.callS H138 (m23_apply V a120 a121 k122 e0 e1 e2 e3 e4 e5 e6 h127_ H138.old F143 qe0 (Eq.trans qe1 c142) qe2 qe3 qe4 qe5 qe6) (wd27 V) (wd28 V) (wd29 V) (wd30 V) (by decide) (argsL := [(.ref a120)]) (rest := []) (W := 0) rfl rfl (lenOf (pd_3) rfl) rfl rfl at_152 (pc' := 155) rfl (by decide) (by decide) (by decide) (by decide) all0 ?_
      intro T144 h144_ v145 s146 H144 Q147
      obtain ⟨c148, rfl, rfl, K149⟩ := Q147
      show Go p e below _ (T144.setTop (mkF m 155 #[.val (.int x70000), .val (.int x70001), .val (.int x70002), .val (.int x70003), .val (.int 7), .val (.int 1), .val (.int (x2 &&& 255)), .val (.int x70007), .val (.ref p0), .val (.ref a120), .val (.int 1)] [(.int 0)]))
      refine G.iload H144 at_155 (pc' := 157) rfl rfl ?_
      refine G.ifYes H144 at_157 (by decide) (by decide) (pc' := 164) rfl ?_
      refine G.iconst H144 at_164 (pc' := 165) rfl (v := 0) rfl ?_
      refine G.icmpNo H144 at_165 (pc' := 168) rfl (by decide) ?_
      refine G.iconst H144 at_168 (pc' := 169) rfl (v := 1) rfl ?_
      refine G.goto H144 at_169 (by decide) (pc' := 173) rfl ?_
      exact G.retN H144 (t := .boolean) rfl (by decide) at_173 (so := []) all0 (by decide) (by decide) rfl
    ·
      refine G.icmpYes H138 at_140 (XT.ii_ne_t c142) (by decide) (pc' := 147) rfl ?_
      refine G.iconst H138 at_147 (pc' := 148) rfl (v := 0) rfl ?_
      refine G.istore H138 (L' := #[.val (.int x70000), .val (.int x70001), .val (.int x70002), .val (.int x70003), .val (.int 7), .val (.int 1), .val (.int (x2 &&& 255)), .val (.int x70007), .val (.ref p0), .val (.ref a120), .val (.int 0)]) at_148 (pc' := 150) rfl rfl ?_
      refine G.aload H138 at_150 (pc' := 152) rfl rfl rfl ?_
      have F150 := (Str.ext E129 F126)
      refine G.callS H138 (m37_apply V a120 a121 k122 e0 e1 e2 e3 e4 e5 e6 h127_ H138.old F150 qe0 (fun qq => c142 (Eq.trans (Eq.symm qe1) qq)) qe2 qe3 qe4 qe5 qe6) (wd27 V) (wd28 V) (wd29 V) (wd30 V) (by decide) (argsL := [(.ref a120)]) (rest := []) (W := 0) rfl rfl (lenOf (pd_3) rfl) rfl rfl at_152 (pc' := 155) rfl (by decide) (by decide) (by decide) (by decide) (allS (mG (i := 0) rfl) (allS (mG (i := 1) rfl) all0)) ?_
      intro T151 h151_ v152 s153 H151 Q154
      obtain ⟨c155, rfl, rfl, K156⟩ := Q154
      show Go p e below _ (T151.setTop (mkF m 155 #[.val (.int x70000), .val (.int x70001), .val (.int x70002), .val (.int x70003), .val (.int 7), .val (.int 1), .val (.int (x2 &&& 255)), .val (.int x70007), .val (.ref p0), .val (.ref a120), .val (.int 0)] [(.int 1)]))
      refine G.iload H151 at_155 (pc' := 157) rfl rfl ?_
      refine G.ifNo H151 at_157 (pc' := 160) rfl (by decide) ?_
      refine G.iconst H151 at_160 (pc' := 161) rfl (v := 1) rfl ?_
      refine G.goto H151 at_161 (by decide) (pc' := 165) rfl ?_
      refine G.icmpNo H151 at_165 (pc' := 168) rfl (by decide) ?_
      refine G.iconst H151 at_168 (pc' := 169) rfl (v := 1) rfl ?_
      refine G.goto H151 at_169 (by decide) (pc' := 173) rfl ?_
      exact G.retN H151 (t := .boolean) rfl (by decide) at_173 (so := []) all0 (by decide) (by decide) rfl
  ·
    refine G.aload H at_101 (pc' := 103) rfl rfl rfl ?_
    refine G.iload H at_103 (pc' := 105) rfl rfl ?_
    refine G.callS H (m25_cut V p0 c0 e0 e1 e2 e3 e4 e5 e6 e7 e8 e9 h0 H.old fA8 (own_u16 re0) (own_u16 re1) (own_u16 re2) (own_u16 re3) (own_u16 re4) (own_u16 re5) (own_u16 re6) (own_u16 re7) re7 re6 re5 re4 re3 re2 re1 re0) (wd2 V) (wd3 V) (wd4 V) (wd5 V) (by decide) (argsL := [(.ref p0), (.int 8)]) (rest := []) (W := 0) rfl rfl (lenOf (pd_2) rfl) rfl rfl at_105 (pc' := 108) rfl (by decide) (by decide) (by decide) (by decide) all0 ?_
    intro T157 h157_ v158 s159 H157 Q160
    obtain ⟨a161, a162, k163, rfl, rfl, K164, g165, g166, F167⟩ := Q160
    have na161 : n0 ≤ a161 := Nat.le_trans H.le g165
    have na162 : n0 ≤ a162 := Nat.le_trans H.le (Nat.le_of_lt (Nat.lt_of_le_of_lt g165 g166))
    show Go p e below _ (T157.setTop (mkF m 108 #[.val (.int x70000), .val (.int x70001), .val (.int x70002), .val (.int x70003), .val (.int 8), .val (.int 1), .val (.int (x2 &&& 255)), .val (.int x70007), .val (.ref p0), .unset, .unset] [(.ref a161)]))
    refine G.astore H157 (L' := #[.val (.int x70000), .val (.int x70001), .val (.int x70002), .val (.int x70003), .val (.int 8), .val (.int 1), .val (.int (x2 &&& 255)), .val (.int x70007), .val (.ref p0), .val (.ref a161), .unset]) at_108 (pc' := 110) rfl rfl rfl ?_
    refine G.iload H157 at_110 (pc' := 112) rfl rfl ?_
    refine G.bipush H157 at_112 (pc' := 114) rfl (v := 7) rfl ?_
    refine G.icmpNo H157 at_114 (pc' := 117) rfl (by decide) ?_
    refine G.iload H157 at_117 (pc' := 119) rfl rfl ?_
    refine G.bipush H157 at_119 (pc' := 121) rfl (v := 9) rfl ?_
    refine G.icmpYes H157 at_121 (by decide) (by decide) (pc' := 147) rfl ?_
    refine G.iconst H157 at_147 (pc' := 148) rfl (v := 0) rfl ?_
    refine G.istore H157 (L' := #[.val (.int x70000), .val (.int x70001), .val (.int x70002), .val (.int x70003), .val (.int 8), .val (.int 1), .val (.int (x2 &&& 255)), .val (.int x70007), .val (.ref p0), .val (.ref a161), .val (.int 0)]) at_148 (pc' := 150) rfl rfl ?_
    refine G.aload H157 at_150 (pc' := 152) rfl rfl rfl ?_
    refine G.callS H157 (m26_apply V a161 a162 k163 e0 e1 e2 e3 e4 e5 e6 e7 h157_ H157.old F167) (wd27 V) (wd28 V) (wd29 V) (wd30 V) (by decide) (argsL := [(.ref a161)]) (rest := []) (W := 0) rfl rfl (lenOf (pd_3) rfl) rfl rfl at_152 (pc' := 155) rfl (by decide) (by decide) (by decide) (by decide) (allS (mG (i := 0) rfl) (allS (mG (i := 1) rfl) all0)) ?_
    intro T168 h168_ v169 s170 H168 Q171
    obtain ⟨rfl, rfl, K172⟩ := Q171
    show Go p e below _ (T168.setTop (mkF m 155 #[.val (.int x70000), .val (.int x70001), .val (.int x70002), .val (.int x70003), .val (.int 8), .val (.int 1), .val (.int (x2 &&& 255)), .val (.int x70007), .val (.ref p0), .val (.ref a161), .val (.int 0)] [(.int 1)]))
    refine G.iload H168 at_155 (pc' := 157) rfl rfl ?_
    refine G.ifNo H168 at_157 (pc' := 160) rfl (by decide) ?_
    refine G.iconst H168 at_160 (pc' := 161) rfl (v := 1) rfl ?_
    refine G.goto H168 at_161 (by decide) (pc' := 165) rfl ?_
    refine G.icmpNo H168 at_165 (pc' := 168) rfl (by decide) ?_
    refine G.iconst H168 at_168 (pc' := 169) rfl (v := 1) rfl ?_
    refine G.goto H168 at_169 (by decide) (pc' := 173) rfl ?_
    exact G.retN H168 (t := .boolean) rfl (by decide) at_173 (so := []) all0 (by decide) (by decide) rfl
  ·
    refine G.aload H at_101 (pc' := 103) rfl rfl rfl ?_
    refine G.iload H at_103 (pc' := 105) rfl rfl ?_
    refine G.callS H (m27_cut V p0 c0 e0 e1 e2 e3 e4 e5 e6 e7 e8 e9 h0 H.old fA8 (own_u16 re0) (own_u16 re1) (own_u16 re2) (own_u16 re3) (own_u16 re4) (own_u16 re5) (own_u16 re6) (own_u16 re7) (own_u16 re8) re8 re7 re6 re5 re4 re3 re2 re1 re0) (wd2 V) (wd3 V) (wd4 V) (wd5 V) (by decide) (argsL := [(.ref p0), (.int 9)]) (rest := []) (W := 0) rfl rfl (lenOf (pd_2) rfl) rfl rfl at_105 (pc' := 108) rfl (by decide) (by decide) (by decide) (by decide) all0 ?_
    intro T173 h173_ v174 s175 H173 Q176
    obtain ⟨a177, a178, k179, rfl, rfl, K180, g181, g182, F183⟩ := Q176
    have na177 : n0 ≤ a177 := Nat.le_trans H.le g181
    have na178 : n0 ≤ a178 := Nat.le_trans H.le (Nat.le_of_lt (Nat.lt_of_le_of_lt g181 g182))
    show Go p e below _ (T173.setTop (mkF m 108 #[.val (.int x70000), .val (.int x70001), .val (.int x70002), .val (.int x70003), .val (.int 9), .val (.int 1), .val (.int (x2 &&& 255)), .val (.int x70007), .val (.ref p0), .unset, .unset] [(.ref a177)]))
    refine G.astore H173 (L' := #[.val (.int x70000), .val (.int x70001), .val (.int x70002), .val (.int x70003), .val (.int 9), .val (.int 1), .val (.int (x2 &&& 255)), .val (.int x70007), .val (.ref p0), .val (.ref a177), .unset]) at_108 (pc' := 110) rfl rfl rfl ?_
    refine G.iload H173 at_110 (pc' := 112) rfl rfl ?_
    refine G.bipush H173 at_112 (pc' := 114) rfl (v := 7) rfl ?_
    refine G.icmpNo H173 at_114 (pc' := 117) rfl (by decide) ?_
    refine G.iload H173 at_117 (pc' := 119) rfl rfl ?_
    refine G.bipush H173 at_119 (pc' := 121) rfl (v := 9) rfl ?_
    refine G.icmpNo H173 at_121 (pc' := 124) rfl (by decide) ?_
    refine G.iload H173 at_124 (pc' := 126) rfl rfl ?_
    refine G.iload H173 at_126 (pc' := 128) rfl rfl ?_
    refine G.icmpNo H173 at_128 (pc' := 131) rfl (by decide) ?_
    refine G.iload H173 at_131 (pc' := 133) rfl rfl ?_
    refine G.ldcS H173 trivial (wS V) (wd54 V) (by decide) (vs := [(.int 67), (.int 79), (.int 78), (.int 78), (.int 69), (.int 67), (.int 84), (.int 69), (.int 68)]) (z := 9) (by decide) (by decide) rfl (n := 36) (by decide) (by decide) (by decide) (by decide) at_133 (pc' := 135) rfl ?_
    intro T184 h184_ a185 b187 k188 H184 E186 X189 F190 F191 A192 Q193
    have S194 : Str Z h184_ a185 b187 k188 [67, 79, 78, 78, 69, 67, 84, 69, 68] := ⟨X189, F190, F191, A192, by decide, by decide⟩
    refine G.iload H184 at_135 (pc' := 137) rfl rfl ?_
    refine G.callV H184 (m36_charAt V a185 b187 k188 h184_ H184.old X189 F190 F191 A192) (wd55 V) (wd56 V) (nf_sel (wd58 V)) (wd58 V) (wd57 V) (wd8 V) (wd59 V) (by decide) X189 (argsL := [(.int 1)]) (rest := [(.int (x2 &&& 255))]) (W := 1) rfl rfl (lenOf (pd_8) rfl) rfl rfl at_137 (pc' := 140) rfl (by decide) (by decide) (by decide) (by decide) all0 ?_
    intro T195 h195_ v196 s197 H195 Q198
    obtain ⟨rfl, rfl, rfl⟩ := Q198
    show Go p e below _ (T195.setTop (mkF m 140 #[.val (.int x70000), .val (.int x70001), .val (.int x70002), .val (.int x70003), .val (.int 9), .val (.int 1), .val (.int (x2 &&& 255)), .val (.int x70007), .val (.ref p0), .val (.ref a177), .unset] [(.int 79), (.int (x2 &&& 255))]))
    by_cases c199 : (x2 &&& 255) = 79
    ·
      refine G.icmpNo H195 at_140 (pc' := 143) rfl (XT.ii_ne_f c199) ?_
      refine G.iconst H195 at_143 (pc' := 144) rfl (v := 1) rfl ?_
      refine G.goto H195 at_144 (by decide) (pc' := 148) rfl ?_
      refine G.istore H195 (L' := #[.val (.int x70000), .val (.int x70001), .val (.int x70002), .val (.int x70003), .val (.int 9), .val (.int 1), .val (.int (x2 &&& 255)), .val (.int x70007), .val (.ref p0), .val (.ref a177), .val (.int 1)]) at_148 (pc' := 150) rfl rfl ?_
      refine G.aload H195 at_150 (pc' := 152) rfl rfl rfl ?_
      have F200 := (Str.ext E186 F183)
      refine G.callS H195 (m28_apply V a177 a178 k179 e0 e1 e2 e3 e4 e5 e6 e7 e8 h184_ H195.old F200 qe0 (Eq.trans qe1 c199) qe2 qe3 qe4 qe5 qe6 qe7 qe8) (wd27 V) (wd28 V) (wd29 V) (wd30 V) (by decide) (argsL := [(.ref a177)]) (rest := []) (W := 0) rfl rfl (lenOf (pd_3) rfl) rfl rfl at_152 (pc' := 155) rfl (by decide) (by decide) (by decide) (by decide) (allS (mG (i := 0) rfl) (allS (mG (i := 1) rfl) all0)) ?_
      intro T201 h201_ v202 s203 H201 Q204
      obtain ⟨c205, rfl, rfl, K206⟩ := Q204
      show Go p e below _ (T201.setTop (mkF m 155 #[.val (.int x70000), .val (.int x70001), .val (.int x70002), .val (.int x70003), .val (.int 9), .val (.int 1), .val (.int (x2 &&& 255)), .val (.int x70007), .val (.ref p0), .val (.ref a177), .val (.int 1)] [(.int 0)]))
      refine G.iload H201 at_155 (pc' := 157) rfl rfl ?_
      refine G.ifYes H201 at_157 (by decide) (by decide) (pc' := 164) rfl ?_
      refine G.iconst H201 at_164 (pc' := 165) rfl (v := 0) rfl ?_
      refine G.icmpNo H201 at_165 (pc' := 168) rfl (by decide) ?_
      refine G.iconst H201 at_168 (pc' := 169) rfl (v := 1) rfl ?_
      refine G.goto H201 at_169 (by decide) (pc' := 173) rfl ?_
      exact G.retN H201 (t := .boolean) rfl (by decide) at_173 (so := []) all0 (by decide) (by decide) rfl
    ·
      refine G.icmpYes H195 at_140 (XT.ii_ne_t c199) (by decide) (pc' := 147) rfl ?_
      refine G.iconst H195 at_147 (pc' := 148) rfl (v := 0) rfl ?_
      refine G.istore H195 (L' := #[.val (.int x70000), .val (.int x70001), .val (.int x70002), .val (.int x70003), .val (.int 9), .val (.int 1), .val (.int (x2 &&& 255)), .val (.int x70007), .val (.ref p0), .val (.ref a177), .val (.int 0)]) at_148 (pc' := 150) rfl rfl ?_
      refine G.aload H195 at_150 (pc' := 152) rfl rfl rfl ?_
      have F207 := (Str.ext E186 F183)
      refine G.callS H195 (m38_apply V a177 a178 k179 e0 e1 e2 e3 e4 e5 e6 e7 e8 h184_ H195.old F207 qe0 (fun qq => c199 (Eq.trans (Eq.symm qe1) qq)) qe2 qe3 qe4 qe5 qe6 qe7 qe8) (wd27 V) (wd28 V) (wd29 V) (wd30 V) (by decide) (argsL := [(.ref a177)]) (rest := []) (W := 0) rfl rfl (lenOf (pd_3) rfl) rfl rfl at_152 (pc' := 155) rfl (by decide) (by decide) (by decide) (by decide) (allS (mG (i := 0) rfl) (allS (mG (i := 1) rfl) all0)) ?_
      intro T208 h208_ v209 s210 H208 Q211
      obtain ⟨c212, rfl, rfl, K213⟩ := Q211
      show Go p e below _ (T208.setTop (mkF m 155 #[.val (.int x70000), .val (.int x70001), .val (.int x70002), .val (.int x70003), .val (.int 9), .val (.int 1), .val (.int (x2 &&& 255)), .val (.int x70007), .val (.ref p0), .val (.ref a177), .val (.int 0)] [(.int 1)]))
      refine G.iload H208 at_155 (pc' := 157) rfl rfl ?_
      refine G.ifNo H208 at_157 (pc' := 160) rfl (by decide) ?_
      refine G.iconst H208 at_160 (pc' := 161) rfl (v := 1) rfl ?_
      refine G.goto H208 at_161 (by decide) (pc' := 165) rfl ?_
      refine G.icmpNo H208 at_165 (pc' := 168) rfl (by decide) ?_
      refine G.iconst H208 at_168 (pc' := 169) rfl (v := 1) rfl ?_
      refine G.goto H208 at_169 (by decide) (pc' := 173) rfl ?_
      exact G.retN H208 (t := .boolean) rfl (by decide) at_173 (so := []) all0 (by decide) (by decide) rfl
  ·
    refine G.aload H at_101 (pc' := 103) rfl rfl rfl ?_
    refine G.iload H at_103 (pc' := 105) rfl rfl ?_
    refine G.callS H (m30_cut V p0 c0 e0 e1 e2 e3 e4 e5 e6 e7 e8 e9 h0 H.old fA8 (own_u16 re0) (own_u16 re1) (own_u16 re2) (own_u16 re3) (own_u16 re4) (own_u16 re5) (own_u16 re6) (own_u16 re7) (own_u16 re8) (own_u16 re9) re9 re8 re7 re6 re5 re4 re3 re2 re1 re0) (wd2 V) (wd3 V) (wd4 V) (wd5 V) (by decide) (argsL := [(.ref p0), (.int 10)]) (rest := []) (W := 0) rfl rfl (lenOf (pd_2) rfl) rfl rfl at_105 (pc' := 108) rfl (by decide) (by decide) (by decide) (by decide) all0 ?_
    intro T214 h214_ v215 s216 H214 Q217
    obtain ⟨a218, a219, k220, rfl, rfl, K221, g222, g223, F224⟩ := Q217
    have na218 : n0 ≤ a218 := Nat.le_trans H.le g222
    have na219 : n0 ≤ a219 := Nat.le_trans H.le (Nat.le_of_lt (Nat.lt_of_le_of_lt g222 g223))
    show Go p e below _ (T214.setTop (mkF m 108 #[.val (.int x70000), .val (.int x70001), .val (.int x70002), .val (.int x70003), .val (.int 10), .val (.int 1), .val (.int (x2 &&& 255)), .val (.int x70007), .val (.ref p0), .unset, .unset] [(.ref a218)]))
    refine G.astore H214 (L' := #[.val (.int x70000), .val (.int x70001), .val (.int x70002), .val (.int x70003), .val (.int 10), .val (.int 1), .val (.int (x2 &&& 255)), .val (.int x70007), .val (.ref p0), .val (.ref a218), .unset]) at_108 (pc' := 110) rfl rfl rfl ?_
    refine G.iload H214 at_110 (pc' := 112) rfl rfl ?_
    refine G.bipush H214 at_112 (pc' := 114) rfl (v := 7) rfl ?_
    refine G.icmpNo H214 at_114 (pc' := 117) rfl (by decide) ?_
    refine G.iload H214 at_117 (pc' := 119) rfl rfl ?_
    refine G.bipush H214 at_119 (pc' := 121) rfl (v := 9) rfl ?_
    refine G.icmpYes H214 at_121 (by decide) (by decide) (pc' := 147) rfl ?_
    refine G.iconst H214 at_147 (pc' := 148) rfl (v := 0) rfl ?_
    refine G.istore H214 (L' := #[.val (.int x70000), .val (.int x70001), .val (.int x70002), .val (.int x70003), .val (.int 10), .val (.int 1), .val (.int (x2 &&& 255)), .val (.int x70007), .val (.ref p0), .val (.ref a218), .val (.int 0)]) at_148 (pc' := 150) rfl rfl ?_
    refine G.aload H214 at_150 (pc' := 152) rfl rfl rfl ?_
    refine G.callS H214 (m31_apply V a218 a219 k220 e0 e1 e2 e3 e4 e5 e6 e7 e8 e9 h214_ H214.old F224) (wd27 V) (wd28 V) (wd29 V) (wd30 V) (by decide) (argsL := [(.ref a218)]) (rest := []) (W := 0) rfl rfl (lenOf (pd_3) rfl) rfl rfl at_152 (pc' := 155) rfl (by decide) (by decide) (by decide) (by decide) (allS (mG (i := 0) rfl) (allS (mG (i := 1) rfl) all0)) ?_
    intro T225 h225_ v226 s227 H225 Q228
    obtain ⟨rfl, rfl, K229⟩ := Q228
    show Go p e below _ (T225.setTop (mkF m 155 #[.val (.int x70000), .val (.int x70001), .val (.int x70002), .val (.int x70003), .val (.int 10), .val (.int 1), .val (.int (x2 &&& 255)), .val (.int x70007), .val (.ref p0), .val (.ref a218), .val (.int 0)] [(.int 1)]))
    refine G.iload H225 at_155 (pc' := 157) rfl rfl ?_
    refine G.ifNo H225 at_157 (pc' := 160) rfl (by decide) ?_
    refine G.iconst H225 at_160 (pc' := 161) rfl (v := 1) rfl ?_
    refine G.goto H225 at_161 (by decide) (pc' := 165) rfl ?_
    refine G.icmpNo H225 at_165 (pc' := 168) rfl (by decide) ?_
    refine G.iconst H225 at_168 (pc' := 169) rfl (v := 1) rfl ?_
    refine G.goto H225 at_169 (by decide) (pc' := 173) rfl ?_
    exact G.retN H225 (t := .boolean) rfl (by decide) at_173 (so := []) all0 (by decide) (by decide) rfl
set_option maxRecDepth 65536 in
set_option maxHeartbeats 40000000 in
theorem m40_checkIndex (V : Env1 Z a0 n0 uu0 uu1)  (h0 : Heap) (hO : Old Z n0 h0)  :
    Met Z a0 ELs True n0 l (⟨"jdk/internal/util/Preconditions", "checkIndex", "(IILjava/util/function/BiFunction;)I"⟩ : MethodName) jdk_41_method_11_code 3 (Option.some FieldType.int) ({ frames := 0, cells := 0, slots := 0, locals := 0 } : Room) #[(.int 2), (.int 9), uu1] h0 [] (fun v h so => (v = some (.int 2) ∧ so = [] ∧ h0 = h)) := by
  refine Met.of (EWl V) (by first | decide +kernel | rfl) hO (L0 := #[.val (.int 2), .val (.int 9), .val uu1]) (by rcases XT.refc (hv3 V) with rfl | ⟨_, rfl⟩ <;> rfl) ?_
  intro p e s m below meth c T H
  show Go p e below _ (T.setTop (mkF m 0 #[.val (.int 2), .val (.int 9), .val uu1] []))
  refine G.iloadN H D0_0 (pc' := 1) rfl rfl ?_
  refine G.ifNo H D0_1 (pc' := 4) rfl (by decide) ?_
  refine G.iloadN H D0_4 (pc' := 5) rfl rfl ?_
  refine G.iloadN H D0_5 (pc' := 6) rfl rfl ?_
  refine G.icmpYes H D0_6 (by decide) (by decide) (pc' := 16) rfl ?_
  refine G.iloadN H D0_16 (pc' := 17) rfl rfl ?_
  exact G.retI H rfl D0_17 (so := []) all0 (by decide) (by decide) ⟨rfl, rfl, rfl⟩
set_option maxRecDepth 65536 in
set_option maxHeartbeats 40000000 in
theorem m41_checkIndex (V : Env1 Z a0 n0 uu0 uu1)  (h0 : Heap) (hO : Old Z n0 h0)  :
    Met Z a0 ELs True n0 l (⟨"java/lang/String", "checkIndex", "(II)V"⟩ : MethodName) jdk_42_method_155_code 2 (Option.none : Option FieldType) ({ frames := 1, cells := 0, slots := 0, locals := 14 } : Room) #[(.int 2), (.int 9)] h0 [] (fun v h so => (v = none ∧ so = [] ∧ h0 = h)) := by
  refine Met.of (EWl V) (by first | decide +kernel | rfl) hO (L0 := #[.val (.int 2), .val (.int 9)]) rfl ?_
  intro p e s m below meth c T H
  show Go p e below _ (T.setTop (mkF m 0 #[.val (.int 2), .val (.int 9)] []))
  refine G.iloadN H D3_0 (pc' := 1) rfl rfl ?_
  refine G.iloadN H D3_1 (pc' := 2) rfl rfl ?_
  refine G.getS H (wd71 V) Via.refl (Sta.ext H.old.2 (hv2 V)) D3_2 (pc' := 5) rfl ?_
  intro T1 H2
  refine G.callS H2 (m40_checkIndex V h0 H2.old) (wd73 V) (wd74 V) (wd72 V) (wd75 V) (by decide) (argsL := [(.int 2), (.int 9), uu1]) (rest := []) (W := 0) rfl rfl (lenOf (pd_5) rfl) rfl rfl D3_5 (pc' := 8) rfl (by decide) (by decide) (by decide) (by decide) all0 ?_
  intro T3 h3_ v4 s5 H3 Q6
  obtain ⟨rfl, rfl, rfl⟩ := Q6
  show Go p e below _ (T3.setTop (mkF m 8 #[.val (.int 2), .val (.int 9)] [(.int 2)]))
  refine G.pop H3 D3_8 (pc' := 9) rfl rfl ?_
  exact G.retV H3 rfl D3_9 (so := []) all0 (by decide) (by decide) ⟨rfl, rfl, rfl⟩
set_option maxRecDepth 65536 in
set_option maxHeartbeats 40000000 in
theorem m42_charAt (V : Env1 Z a0 n0 uu0 uu1) (p0 : Addr) (c0 : ClassId) (h0 : Heap) (hO : Old Z n0 h0) (f0 : Arv Z h0 p0 c0 .byte 9 [(.int 67), (.int 79), (.int 78), (.int 78), (.int 69), (.int 67), (.int 84), (.int 69), (.int 68)] (.int 0)) :
    Met Z a0 ELs True n0 l (⟨"java/lang/StringLatin1", "charAt", "([BI)C"⟩ : MethodName) jdk_43_method_2_code 2 (Option.some FieldType.char) ({ frames := 2, cells := 0, slots := 0, locals := 27 } : Room) #[(.ref p0), (.int 2)] h0 [] (fun v h so => (v = some (.int 78) ∧ so = [] ∧ h0 = h)) := by
  refine Met.of (EWl V) (by first | decide +kernel | rfl) hO (L0 := #[.val (.ref p0), .val (.int 2)]) rfl ?_
  intro p e s m below meth c T H
  show Go p e below _ (T.setTop (mkF m 0 #[.val (.ref p0), .val (.int 2)] []))
  refine G.iloadN H D6_0 (pc' := 1) rfl rfl ?_
  refine G.aloadN H D6_1 (pc' := 2) rfl rfl rfl ?_
  refine G.arrlen H f0 D6_2 (pc' := 3) rfl ?_
  refine G.callS H (m41_checkIndex V h0 H.old) (wd68 V) (wd69 V) (wd8 V) (wd70 V) (by decide) (argsL := [(.int 2), (.int 9)]) (rest := []) (W := 0) rfl rfl (lenOf (pd_6) rfl) rfl rfl D6_3 (pc' := 6) rfl (by decide) (by decide) (by decide) (by decide) all0 ?_
  intro T1 h1_ v2 s3 H1 Q4
  obtain ⟨rfl, rfl, rfl⟩ := Q4
  show Go p e below _ (T1.setTop (mkF m 6 #[.val (.ref p0), .val (.int 2)] []))
  refine G.aloadN H1 D6_6 (pc' := 7) rfl rfl rfl ?_
  refine G.iloadN H1 D6_7 (pc' := 8) rfl rfl ?_
  refine G.baloadG H1 f0 (j := 2) (v := (.int 78)) (by decide) rfl D6_8 (pc' := 9) rfl ?_
  refine G.sipush H1 D6_9 (pc' := 12) rfl (v := 255) rfl ?_
  refine G.iand H1 D6_12 (pc' := 13) rfl ?_
  show Go p e below _ (T1.setTop (mkF m 13 #[.val (.ref p0), .val (.int 2)] [(.int 78)]))
  refine G.i2c H1 (y := 78) D6_13 (pc' := 14) rfl rfl ?_
  exact G.retN H1 (t := .char) rfl (by decide) D6_14 (so := []) all0 (by decide) (by decide) ⟨rfl, rfl, rfl⟩
set_option maxRecDepth 65536 in
set_option maxHeartbeats 40000000 in
theorem m43_charAt (V : Env1 Z a0 n0 uu0 uu1) (p0 : Addr) (p1 : Addr) (c0 : ClassId) (h0 : Heap) (hO : Old Z n0 h0) (f0 : Exa Z h0 p0 "java/lang/String") (f1 : Fld Z h0 p0 "java/lang/String" "coder" "B" (.int 0)) (f2 : Fld Z h0 p0 "java/lang/String" "value" "[B" (.ref p1)) (f3 : Arv Z h0 p1 c0 .byte 9 [(.int 67), (.int 79), (.int 78), (.int 78), (.int 69), (.int 67), (.int 84), (.int 69), (.int 68)] (.int 0)) :
    Met Z a0 ELs True n0 l (⟨"java/lang/String", "charAt", "(I)C"⟩ : MethodName) jdk_42_method_56_code 2 (Option.some FieldType.char) ({ frames := 3, cells := 0, slots := 0, locals := 40 } : Room) #[(.ref p0), (.int 2)] h0 [] (fun v h so => (v = some (.int 78) ∧ so = [] ∧ h0 = h)) := by
  refine Met.of (EWl V) (by first | decide +kernel | rfl) hO (L0 := #[.val (.ref p0), .val (.int 2)]) rfl ?_
  intro p e s m below meth c T H
  show Go p e below _ (T.setTop (mkF m 0 #[.val (.ref p0), .val (.int 2)] []))
  refine G.aloadN H D5_0 (pc' := 1) rfl rfl rfl ?_
  refine G.callV H (m18_isLatin1 V p0 h0 H.old f1) (wd60 V) (wd61 V) (nf_sel (wd63 V)) (wd63 V) (wd62 V) (wd8 V) (wd64 V) (by decide) f0 (argsL := []) (rest := []) (W := 0) rfl rfl (lenOf (pd_4) rfl) rfl rfl D5_1 (pc' := 4) rfl (by decide) (by decide) (by decide) (by decide) all0 ?_
  intro T1 h1_ v2 s3 H1 Q4
  obtain ⟨rfl, rfl, rfl⟩ := Q4
  show Go p e below _ (T1.setTop (mkF m 4 #[.val (.ref p0), .val (.int 2)] [(.int 1)]))
  refine G.ifNo H1 D5_4 (pc' := 7) rfl (by decide) ?_
  refine G.aloadN H1 D5_7 (pc' := 8) rfl rfl rfl ?_
  refine G.getF H1 (wd25 V) Via.refl f2 D5_8 (pc' := 11) rfl ?_
  intro T5 H6
  refine G.iloadN H6 D5_11 (pc' := 12) rfl rfl ?_
  refine G.callS H6 (m42_charAt V p1 c0 h0 H6.old f3) (wd65 V) (wd66 V) (wd41 V) (wd67 V) (by decide) (argsL := [(.ref p1), (.int 2)]) (rest := []) (W := 0) rfl rfl (lenOf (pd_7) rfl) rfl rfl D5_12 (pc' := 15) rfl (by decide) (by decide) (by decide) (by decide) all0 ?_
  intro T7 h7_ v8 s9 H7 Q10
  obtain ⟨rfl, rfl, rfl⟩ := Q10
  show Go p e below _ (T7.setTop (mkF m 15 #[.val (.ref p0), .val (.int 2)] [(.int 78)]))
  exact G.retN H7 (t := .char) rfl (by decide) D5_15 (so := []) all0 (by decide) (by decide) ⟨rfl, rfl, rfl⟩
set_option maxRecDepth 65536 in
set_option maxHeartbeats 40000000 in
theorem m44_apply (V : Env1 Z a0 n0 uu0 uu1) (p0 : Addr) (p1 : Addr) (c0 : ClassId) (x0 : Int32) (x1 : Int32) (x2 : Int32) (x3 : Int32) (x4 : Int32) (x5 : Int32) (x6 : Int32) (h0 : Heap) (hO : Old Z n0 h0) (f0 : Str Z h0 p0 p1 c0 [x0, x1, x2, x3, x4, x5, x6]) (cc1 : x0 = 67) (cc2 : x1 = 79) (cc3 : ¬ x2 = 78) (cc4 : x3 = 78) (cc5 : x4 = 69) (cc6 : x5 = 67) (cc7 : x6 = 84) :
    Met Z a0 ELs True n0 l (⟨"bindery/server/stomp/HeaderEscapes", "apply", "(Ljava/lang/String;)Z"⟩ : MethodName) prog_84_method_2_code 1 (Option.some FieldType.boolean) ({ frames := 2, cells := 4, slots := 72, locals := 28 } : Room) #[(.ref p0)] h0 [p0, p1] (fun v h so => (¬ [x0, x1, x2, x3, x4, x5, x6] = [67, 79, 78, 78, 69, 67, 84] ∧ v = some (.int 1) ∧ so = [] ∧ Keep h0 h [])) := by
  refine Met.of (EWl V) (by first | decide +kernel | rfl) hO (L0 := #[.val (.ref p0)]) rfl ?_
  intro p e s m below meth c T H
  show Go p e below _ (T.setTop (mkF m 0 #[.val (.ref p0)] []))
  refine G.aloadN H D8_0 (pc' := 1) rfl rfl rfl ?_
  refine G.ldcS H trivial (wS V) (wd31 V) (by decide) (vs := [(.int 67), (.int 79), (.int 78), (.int 78), (.int 69), (.int 67), (.int 84)]) (z := 7) (by decide) (by decide) rfl (n := 28) (by decide) (by decide) (by decide) (by decide) D8_1 (pc' := 3) rfl ?_
  intro T1 h1_ a2 b4 k5 H1 E3 X6 F7 F8 A9 Q10
  have S11 : Str Z h1_ a2 b4 k5 [67, 79, 78, 78, 69, 67, 84] := ⟨X6, F7, F8, A9, by decide, by decide⟩
  have F12 := (Str.ext E3 f0)
  refine G.strEq H1 (strwEq V) (wd7 V) (wd32 V) (wd33 V) (wd35 V) (wd34 V) F12 S11 (hv0 V) (hv1 V) (rest := []) (W := 0) rfl rfl D8_3 (pc' := 6) rfl (by decide) (by decide) (by decide) (by decide) ?_ ?_
  ·
    intro T13 H14 c15
    exact absurd (List.cons.inj (List.cons.inj (List.cons.inj c15).2).2).1 cc3
  ·
    intro T16 H17 c18
    refine G.ifNo H17 D8_6 (pc' := 9) rfl (by decide) ?_
    refine G.aloadN H17 D8_9 (pc' := 10) rfl rfl rfl ?_
    refine G.ldcS H17 trivial (wS V) (wd43 V) (by decide) (vs := [(.int 67), (.int 79), (.int 78), (.int 78), (.int 69), (.int 67), (.int 84), (.int 69), (.int 68)]) (z := 9) (by decide) (by decide) rfl (n := 36) (by decide) (by decide) (by decide) (by decide) D8_10 (pc' := 12) rfl ?_
    intro T19 h19_ a20 b22 k23 H19 E21 X24 F25 F26 A27 Q28
    have S29 : Str Z h19_ a20 b22 k23 [67, 79, 78, 78, 69, 67, 84, 69, 68] := ⟨X24, F25, F26, A27, by decide, by decide⟩
    have F30 := (Str.ext E21 F12)
    refine G.strEq H19 (strwEq V) (wd7 V) (wd32 V) (wd33 V) (wd35 V) (wd34 V) F30 S29 (hv0 V) (hv1 V) (rest := []) (W := 0) rfl rfl D8_12 (pc' := 15) rfl (by decide) (by decide) (by decide) (by decide) ?_ ?_
    ·
      intro T31 H32 c33
      exact absurd c33 (by intro qq; simp at qq)
    ·
      intro T34 H35 c36
      refine G.ifNo H35 D8_15 (pc' := 18) rfl (by decide) ?_
      refine G.iconst H35 D8_18 (pc' := 19) rfl (v := 1) rfl ?_
      refine G.goto H35 D8_19 (by decide) (pc' := 23) rfl ?_
      have K37 : Keep h0 h19_ [] := (Keep.ext (Keep.ext (Keep.refl h0 []) E3) E21)
      exact G.retN H35 (t := .boolean) rfl (by decide) D8_23 (so := []) all0 (by decide) (by decide) ⟨c18, rfl, rfl, K37⟩
set_option maxRecDepth 65536 in
set_option maxHeartbeats 40000000 in
theorem m45_apply (V : Env1 Z a0 n0 uu0 uu1) (p0 : Addr) (p1 : Addr) (c0 : ClassId) (x0 : Int32) (x1 : Int32) (x2 : Int32) (x3 : Int32) (x4 : Int32) (x5 : Int32) (x6 : Int32) (x7 : Int32) (x8 : Int32) (h0 : Heap) (hO : Old Z n0 h0) (f0 : Str Z h0 p0 p1 c0 [x0, x1, x2, x3, x4, x5, x6, x7, x8]) (cc1 : x0 = 67) (cc2 : x1 = 79) (cc3 : ¬ x2 = 78) (cc4 : x3 = 78) (cc5 : x4 = 69) (cc6 : x5 = 67) (cc7 : x6 = 84) (cc8 : x7 = 69) (cc9 : x8 = 68) :
    Met Z a0 ELs True n0 l (⟨"bindery/server/stomp/HeaderEscapes", "apply", "(Ljava/lang/String;)Z"⟩ : MethodName) prog_84_method_2_code 1 (Option.some FieldType.boolean) ({ frames := 2, cells := 4, slots := 72, locals := 28 } : Room) #[(.ref p0)] h0 [p0, p1] (fun v h so => (¬ [x0, x1, x2, x3, x4, x5, x6, x7, x8] = [67, 79, 78, 78, 69, 67, 84, 69, 68] ∧ v = some (.int 1) ∧ so = [] ∧ Keep h0 h [])) := by
  refine Met.of (EWl V) (by first | decide +kernel | rfl) hO (L0 := #[.val (.ref p0)]) rfl ?_
  intro p e s m below meth c T H
  show Go p e below _ (T.setTop (mkF m 0 #[.val (.ref p0)] []))
  refine G.aloadN H D8_0 (pc' := 1) rfl rfl rfl ?_
  refine G.ldcS H trivial (wS V) (wd31 V) (by decide) (vs := [(.int 67), (.int 79), (.int 78), (.int 78), (.int 69), (.int 67), (.int 84)]) (z := 7) (by decide) (by decide) rfl (n := 28) (by decide) (by decide) (by decide) (by decide) D8_1 (pc' := 3) rfl ?_
  intro T1 h1_ a2 b4 k5 H1 E3 X6 F7 F8 A9 Q10
  have S11 : Str Z h1_ a2 b4 k5 [67, 79, 78, 78, 69, 67, 84] := ⟨X6, F7, F8, A9, by decide, by decide⟩
  have F12 := (Str.ext E3 f0)
  refine G.strEq H1 (strwEq V) (wd7 V) (wd32 V) (wd33 V) (wd35 V) (wd34 V) F12 S11 (hv0 V) (hv1 V) (rest := []) (W := 0) rfl rfl D8_3 (pc' := 6) rfl (by decide) (by decide) (by decide) (by decide) ?_ ?_
  ·
    intro T13 H14 c15
    exact absurd c15 (by intro qq; simp at qq)
  ·
    intro T16 H17 c18
    refine G.ifNo H17 D8_6 (pc' := 9) rfl (by decide) ?_
    refine G.aloadN H17 D8_9 (pc' := 10) rfl rfl rfl ?_
    refine G.ldcS H17 trivial (wS V) (wd43 V) (by decide) (vs := [(.int 67), (.int 79), (.int 78), (.int 78), (.int 69), (.int 67), (.int 84), (.int 69), (.int 68)]) (z := 9) (by decide) (by decide) rfl (n := 36) (by decide) (by decide) (by decide) (by decide) D8_10 (pc' := 12) rfl ?_
    intro T19 h19_ a20 b22 k23 H19 E21 X24 F25 F26 A27 Q28
    have S29 : Str Z h19_ a20 b22 k23 [67, 79, 78, 78, 69, 67, 84, 69, 68] := ⟨X24, F25, F26, A27, by decide, by decide⟩
    have F30 := (Str.ext E21 F12)
    refine G.strEq H19 (strwEq V) (wd7 V) (wd32 V) (wd33 V) (wd35 V) (wd34 V) F30 S29 (hv0 V) (hv1 V) (rest := []) (W := 0) rfl rfl D8_12 (pc' := 15) rfl (by decide) (by decide) (by decide) (by decide) ?_ ?_
    ·
      intro T31 H32 c33
      exact absurd (List.cons.inj (List.cons.inj (List.cons.inj c33).2).2).1 cc3
    ·
      intro T34 H35 c36
      refine G.ifNo H35 D8_15 (pc' := 18) rfl (by decide) ?_
      refine G.iconst H35 D8_18 (pc' := 19) rfl (v := 1) rfl ?_
      refine G.goto H35 D8_19 (by decide) (pc' := 23) rfl ?_
      have K37 : Keep h0 h19_ [] := (Keep.ext (Keep.ext (Keep.refl h0 []) E3) E21)
      exact G.retN H35 (t := .boolean) rfl (by decide) D8_23 (so := []) all0 (by decide) (by decide) ⟨c36, rfl, rfl, K37⟩
set_option maxRecDepth 65536 in
set_option maxHeartbeats 40000000 in
theorem cut46_101 (V : Env1 Z a0 n0 uu0 uu1) (x90101 : Int32) (x70000 : Int32) (x70001 : Int32) (x70002 : Int32) (x70003 : Int32) (x2 : Int32) (x70007 : Int32) (p0 : Addr) (c0 : ClassId) (e0 : Int32) (e1 : Int32) (e2 : Int32) (e3 : Int32) (e4 : Int32) (e5 : Int32) (e6 : Int32) (e7 : Int32) (e8 : Int32) (e9 : Int32) (x3 : Int32) (H : Hs p l e room_1 s m as' below meth c Z a0 ELs True x.cls n0 code maxLocals ret x.name T h0 1 10 []) (re0 : ¬ e0 < 0 ∧ ¬ 255 < e0) (qe0 : e0 = 67) (re1 : ¬ e1 < 0 ∧ ¬ 255 < e1) (qe1 : e1 = 79) (re2 : ¬ e2 < 0 ∧ ¬ 255 < e2) (qe2 : e2 = (x2 &&& 255)) (re3 : ¬ e3 < 0 ∧ ¬ 255 < e3) (qe3 : e3 = 78) (re4 : ¬ e4 < 0 ∧ ¬ 255 < e4) (qe4 : e4 = 69) (re5 : ¬ e5 < 0 ∧ ¬ 255 < e5) (qe5 : e5 = 67) (re6 : ¬ e6 < 0 ∧ ¬ 255 < e6) (qe6 : e6 = 84) (re7 : ¬ e7 < 0 ∧ ¬ 255 < e7) (qe7 : e7 = 69) (re8 : ¬ e8 < 0 ∧ ¬ 255 < e8) (qe8 : e8 = 68) (re9 : ¬ e9 < 0 ∧ ¬ 255 < e9) (qe9 : e9 = (x3 &&& 255)) (fA8 : Arv Z h0 p0 c0 .char 10 [(.int e0), (.int e1), (.int e2), (.int e3), (.int e4), (.int e5), (.int e6), (.int e7), (.int e8), (.int e9)] (.int 0)) (sp : x90101 = 0 ∨ x90101 = 1 ∨ x90101 = 2 ∨ x90101 = 3 ∨ x90101 = 4 ∨ x90101 = 5 ∨ x90101 = 6 ∨ x90101 = 7 ∨ x90101 = 8 ∨ x90101 = 9 ∨ x90101 = 10) :
    Go p e below (FinP s below Z ELs True n0 room_1.cells room_1.slots (fun v h so => v = some (.int 1))) (T.setTop (mkF m 101 #[.val (.int x70000), .val (.int x70001), .val (.int x70002), .val (.int x70003), .val (.int x90101), .val (.int 2), .val (.int (x2 &&& 255)), .val (.int x70007), .val (.ref p0), .unset, .unset] [])) := by
  rcases sp with rfl | rfl | rfl | rfl | rfl | rfl | rfl | rfl | rfl | rfl | rfl
  ·
    refine G.aload H at_101 (pc' := 103) rfl rfl rfl ?_
    refine G.iload H at_103 (pc' := 105) rfl rfl ?_
    refine G.callS H (m3_cut V p0 h0 H.old) (wd2 V) (wd3 V) (wd4 V) (wd5 V) (by decide) (argsL := [(.ref p0), (.int 0)]) (rest := []) (W := 0) rfl rfl (lenOf (pd_2) rfl) rfl rfl at_105 (pc' := 108) rfl (by decide) (by decide) (by decide) (by decide) all0 ?_
    intro T1 h1_ v2 s3 H1 Q4
    obtain ⟨a5, a6, k7, rfl, rfl, K8, g9, F10, F11, F12, F13⟩ := Q4
    have na5 : n0 ≤ a5 := Nat.le_trans H.le g9
    show Go p e below _ (T1.setTop (mkF m 108 #[.val (.int x70000), .val (.int x70001), .val (.int x70002), .val (.int x70003), .val (.int 0), .val (.int 2), .val (.int (x2 &&& 255)), .val (.int x70007), .val (.ref p0), .unset, .unset] [(.ref a5)]))
    refine G.astore H1 (L' := #[.val (.int x70000), .val (.int x70001), .val (.int x70002), .val (.int x70003), .val (.int 0), .val (.int 2), .val (.int (x2 &&& 255)), .val (.int x70007), .val (.ref p0), .val (.ref a5), .unset]) at_108 (pc' := 110) rfl rfl rfl ?_
    refine G.iload H1 at_110 (pc' := 112) rfl rfl ?_
    refine G.bipush H1 at_112 (pc' := 114) rfl (v := 7) rfl ?_
    refine G.icmpNo H1 at_114 (pc' := 117) rfl (by decide) ?_
    refine G.iload H1 at_117 (pc' := 119) rfl rfl ?_
    refine G.bipush H1 at_119 (pc' := 121) rfl (v := 9) rfl ?_
    refine G.icmpYes H1 at_121 (by decide) (by decide) (pc' := 147) rfl ?_
    refine G.iconst H1 at_147 (pc' := 148) rfl (v := 0) rfl ?_
    refine G.istore H1 (L' := #[.val (.int x70000), .val (.int x70001), .val (.int x70002), .val (.int x70003), .val (.int 0), .val (.int 2), .val (.int (x2 &&& 255)), .val (.int x70007), .val (.ref p0), .val (.ref a5), .val (.int 0)]) at_148 (pc' := 150) rfl rfl ?_
    refine G.aload H1 at_150 (pc' := 152) rfl rfl rfl ?_
    have S14 : Str Z h1_ a5 a6 k7 [] := ⟨F10, F12, F11, F13, cb0, Nat.le_of_ble_eq_true rfl⟩
    refine G.callS H1 (m4_apply V a5 a6 k7 h1_ H1.old S14) (wd27 V) (wd28 V) (wd29 V) (wd30 V) (by decide) (argsL := [(.ref a5)]) (rest := []) (W := 0) rfl rfl (lenOf (pd_3) rfl) rfl rfl at_152 (pc' := 155) rfl (by decide) (by decide) (by decide) (by decide) (allS (mG (i := 0) rfl) all0) ?_
    intro T15 h15_ v16 s17 H15 Q18
    obtain ⟨rfl, rfl, K19⟩ := Q18
    show Go p e below _ (T15.setTop (mkF m 155 #[.val (.int x70000), .val (.int x70001), .val (.int x70002), .val (.int x70003), .val (.int 0), .val (.int 2), .val (.int (x2 &&& 255)), .val (.int x70007), .val (.ref p0), .val (.ref a5), .val (.int 0)] [(.int 1)]))
    refine G.iload H15 at_155 (pc' := 157) rfl rfl ?_
    refine G.ifNo H15 at_157 (pc' := 160) rfl (by decide) ?_
    refine G.iconst H15 at_160 (pc' := 161) rfl (v := 1) rfl ?_
    refine G.goto H15 at_161 (by decide) (pc' := 165) rfl ?_
    refine G.icmpNo H15 at_165 (pc' := 168) rfl (by decide) ?_
    refine G.iconst H15 at_168 (pc' := 169) rfl (v := 1) rfl ?_
    refine G.goto H15 at_169 (by decide) (pc' := 173) rfl ?_
    exact G.retN H15 (t := .boolean) rfl (by decide) at_173 (so := []) all0 (by decide) (by decide) rfl
  ·
    refine G.aload H at_101 (pc' := 103) rfl rfl rfl ?_
    refine G.iload H at_103 (pc' := 105) rfl rfl ?_
    refine G.callS H (m5_cut V p0 c0 e0 e1 e2 e3 e4 e5 e6 e7 e8 e9 h0 H.old fA8 (own_u16 re0) re0) (wd2 V) (wd3 V) (wd4 V) (wd5 V) (by decide) (argsL := [(.ref p0), (.int 1)]) (rest := []) (W := 0) rfl rfl (lenOf (pd_2) rfl) rfl rfl at_105 (pc' := 108) rfl (by decide) (by decide) (by decide) (by decide) all0 ?_
    intro T20 h20_ v21 s22 H20 Q23
    obtain ⟨a24, a25, k26, rfl, rfl, K27, g28, g29, F30⟩ := Q23
    have na24 : n0 ≤ a24 := Nat.le_trans H.le g28
    have na25 : n0 ≤ a25 := Nat.le_trans H.le (Nat.le_of_lt (Nat.lt_of_le_of_lt g28 g29))
    show Go p e below _ (T20.setTop (mkF m 108 #[.val (.int x70000), .val (.int x70001), .val (.int x70002), .val (.int x70003), .val (.int 1), .val (.int 2), .val (.int (x2 &&& 255)), .val (.int x70007), .val (.ref p0), .unset, .unset] [(.ref a24)]))
    refine G.astore H20 (L' := #[.val (.int x70000), .val (.int x70001), .val (.int x70002), .val (.int x70003), .val (.int 1), .val (.int 2), .val (.int (x2 &&& 255)), .val (.int x70007), .val (.ref p0), .val (.ref a24), .unset]) at_108 (pc' := 110) rfl rfl rfl ?_
    refine G.iload H20 at_110 (pc' := 112) rfl rfl ?_
    refine G.bipush H20 at_112 (pc' := 114) rfl (v := 7) rfl ?_
    refine G.icmpNo H20 at_114 (pc' := 117) rfl (by decide) ?_
    refine G.iload H20 at_117 (pc' := 119) rfl rfl ?_
    refine G.bipush H20 at_119 (pc' := 121) rfl (v := 9) rfl ?_
    refine G.icmpYes H20 at_121 (by decide) (by decide) (pc' := 147) rfl ?_
    refine G.iconst H20 at_147 (pc' := 148) rfl (v := 0) rfl ?_
    refine G.istore H20 (L' := #[.val (.int x70000), .val (.int x70001), .val (.int x70002), .val (.int x70003), .val (.int 1), .val (.int 2), .val (.int (x2 &&& 255)), .val (.int x70007), .val (.ref p0), .val (.ref a24), .val (.int 0)]) at_148 (pc' := 150) rfl rfl ?_
    refine G.aload H20 at_150 (pc' := 152) rfl rfl rfl ?_
    refine G.callS H20 (m6_apply V a24 a25 k26 e0 h20_ H20.old F30) (wd27 V) (wd28 V) (wd29 V) (wd30 V) (by decide) (argsL := [(.ref a24)]) (rest := []) (W := 0) rfl rfl (lenOf (pd_3) rfl) rfl rfl at_152 (pc' := 155) rfl (by decide) (by decide) (by decide) (by decide) (allS (mG (i := 0) rfl) (allS (mG (i := 1) rfl) all0)) ?_
    intro T31 h31_ v32 s33 H31 Q34
    obtain ⟨rfl, rfl, K35⟩ := Q34
    show Go p e below _ (T31.setTop (mkF m 155 #[.val (.int x70000), .val (.int x70001), .val (.int x70002), .val (.int x70003), .val (.int 1), .val (.int 2), .val (.int (x2 &&& 255)), .val (.int x70007), .val (.ref p0), .val (.ref a24), .val (.int 0)] [(.int 1)]))
    refine G.iload H31 at_155 (pc' := 157) rfl rfl ?_
    refine G.ifNo H31 at_157 (pc' := 160) rfl (by decide) ?_
    refine G.iconst H31 at_160 (pc' := 161) rfl (v := 1) rfl ?_
    refine G.goto H31 at_161 (by decide) (pc' := 165) rfl ?_
    refine G.icmpNo H31 at_165 (pc' := 168) rfl (by decide) ?_
    refine G.iconst H31 at_168 (pc' := 169) rfl (v := 1) rfl ?_
    refine G.goto H31 at_169 (by decide) (pc' := 173) rfl ?_
    exact G.retN H31 (t := .boolean) rfl (by decide) at_173 (so := []) all0 (by decide) (by decide) rfl
  ·
    refine G.aload H at_101 (pc' := 103) rfl rfl rfl ?_
    refine G.iload H at_103 (pc' := 105) rfl rfl ?_
    refine G.callS H (m7_cut V p0 c0 e0 e1 e2 e3 e4 e5 e6 e7 e8 e9 h0 H.old fA8 (own_u16 re0) (own_u16 re1) re1 re0) (wd2 V) (wd3 V) (wd4 V) (wd5 V) (by decide) (argsL := [(.ref p0), (.int 2)]) (rest := []) (W := 0) rfl rfl (lenOf (pd_2) rfl) rfl rfl at_105 (pc' := 108) rfl (by decide) (by decide) (by decide) (by decide) all0 ?_
    intro T36 h36_ v37 s38 H36 Q39
    obtain ⟨a40, a41, k42, rfl, rfl, K43, g44, g45, F46⟩ := Q39
    have na40 : n0 ≤ a40 := Nat.le_trans H.le g44
    have na41 : n0 ≤ a41 := Nat.le_trans H.le (Nat.le_of_lt (Nat.lt_of_le_of_lt g44 g45))
    show Go p e below _ (T36.setTop (mkF m 108 #[.val (.int x70000), .val (.int x70001), .val (.int x70002), .val (.int x70003), .val (.int 2), .val (.int 2), .val (.int (x2 &&& 255)), .val (.int x70007), .val (.ref p0), .unset, .unset] [(.ref a40)]))
    refine G.astore H36 (L' := #[.val (.int x70000), .val (.int x70001), .val (.int x70002), .val (.int x70003), .val (.int 2), .val (.int 2), .val (.int (x2 &&& 255)), .val (.int x70007), .val (.ref p0), .val (.ref a40), .unset]) at_108 (pc' := 110) rfl rfl rfl ?_
    refine G.iload H36 at_110 (pc' := 112) rfl rfl ?_
    refine G.bipush H36 at_112 (pc' := 114) rfl (v := 7) rfl ?_
    refine G.icmpNo H36 at_114 (pc' := 117) rfl (by decide) ?_
    refine G.iload H36 at_117 (pc' := 119) rfl rfl ?_
    refine G.bipush H36 at_119 (pc' := 121) rfl (v := 9) rfl ?_
    refine G.icmpYes H36 at_121 (by decide) (by decide) (pc' := 147) rfl ?_
    refine G.iconst H36 at_147 (pc' := 148) rfl (v := 0) rfl ?_
    refine G.istore H36 (L' := #[.val (.int x70000), .val (.int x70001), .val (.int x70002), .val (.int x70003), .val (.int 2), .val (.int 2), .val (.int (x2 &&& 255)), .val (.int x70007), .val (.ref p0), .val (.ref a40), .val (.int 0)]) at_148 (pc' := 150) rfl rfl ?_
    refine G.aload H36 at_150 (pc' := 152) rfl rfl rfl ?_
    refine G.callS H36 (m8_apply V a40 a41 k42 e0 e1 h36_ H36.old F46) (wd27 V) (wd28 V) (wd29 V) (wd30 V) (by decide) (argsL := [(.ref a40)]) (rest := []) (W := 0) rfl rfl (lenOf (pd_3) rfl) rfl rfl at_152 (pc' := 155) rfl (by decide) (by decide) (by decide) (by decide) (allS (mG (i := 0) rfl) (allS (mG (i := 1) rfl) all0)) ?_
    intro T47 h47_ v48 s49 H47 Q50
    obtain ⟨rfl, rfl, K51⟩ := Q50
    show Go p e below _ (T47.setTop (mkF m 155 #[.val (.int x70000), .val (.int x70001), .val (.int x70002), .val (.int x70003), .val (.int 2), .val (.int 2), .val (.int (x2 &&& 255)), .val (.int x70007), .val (.ref p0), .val (.ref a40), .val (.int 0)] [(.int 1)]))
    refine G.iload H47 at_155 (pc' := 157) rfl rfl ?_
    refine G.ifNo H47 at_157 (pc' := 160) rfl (by decide) ?_
    refine G.iconst H47 at_160 (pc' := 161) rfl (v := 1) rfl ?_
    refine G.goto H47 at_161 (by decide) (pc' := 165) rfl ?_
    refine G.icmpNo H47 at_165 (pc' := 168) rfl (by decide) ?_
    refine G.iconst H47 at_168 (pc' := 169) rfl (v := 1) rfl ?_
    refine G.goto H47 at_169 (by decide) (pc' := 173) rfl ?_
    exact G.retN H47 (t := .boolean) rfl (by decide) at_173 (so := []) all0 (by decide) (by decide) rfl
  ·
    refine G.aload H at_101 (pc' := 103) rfl rfl rfl ?_
    refine G.iload H at_103 (pc' := 105) rfl rfl ?_
    refine G.callS H (m9_cut V p0 c0 e0 e1 e2 e3 e4 e5 e6 e7 e8 e9 h0 H.old fA8 (own_u16 re0) (own_u16 re1) (own_u16 re2) re2 re1 re0) (wd2 V) (wd3 V) (wd4 V) (wd5 V) (by decide) (argsL := [(.ref p0), (.int 3)]) (rest := []) (W := 0) rfl rfl (lenOf (pd_2) rfl) rfl rfl at_105 (pc' := 108) rfl (by decide) (by decide) (by decide) (by decide) all0 ?_
    intro T52 h52_ v53 s54 H52 Q55
    obtain ⟨a56, a57, k58, rfl, rfl, K59, g60, g61, F62⟩ := Q55
    have na56 : n0 ≤ a56 := Nat.le_trans H.le g60
    have na57 : n0 ≤ a57 := Nat.le_trans H.le (Nat.le_of_lt (Nat.lt_of_le_of_lt g60 g61))
    show Go p e below _ (T52.setTop (mkF m 108 #[.val (.int x70000), .val (.int x70001), .val (.int x70002), .val (.int x70003), .val (.int 3), .val (.int 2), .val (.int (x2 &&& 255)), .val (.int x70007), .val (.ref p0), .unset, .unset] [(.ref a56)]))
    refine G.astore H52 (L' := #[.val (.int x70000), .val (.int x70001), .val (.int x70002), .val (.int x70003), .val (.int 3), .val (.int 2), .val (.int (x2 &&& 255)), .val (.int x70007), .val (.ref p0), .val (.ref a56), .unset]) at_108 (pc' := 110) rfl rfl rfl ?_
    refine G.iload H52 at_110 (pc' := 112) rfl rfl ?_
    refine G.bipush H52 at_112 (pc' := 114) rfl (v := 7) rfl ?_
    refine G.icmpNo H52 at_114 (pc' := 117) rfl (by decide) ?_
    refine G.iload H52 at_117 (pc' := 119) rfl rfl ?_
    refine G.bipush H52 at_119 (pc' := 121) rfl (v := 9) rfl ?_
    refine G.icmpYes H52 at_121 (by decide) (by decide) (pc' := 147) rfl ?_
    refine G.iconst H52 at_147 (pc' := 148) rfl (v := 0) rfl ?_
    refine G.istore H52 (L' := #[.val (.int x70000), .val (.int x70001), .val (.int x70002), .val (.int x70003), .val (.int 3), .val (.int 2), .val (.int (x2 &&& 255)), .val (.int x70007), .val (.ref p0), .val (.ref a56), .val (.int 0)]) at_148 (pc' := 150) rfl rfl ?_
    refine G.aload H52 at_150 (pc' := 152) rfl rfl rfl ?_
    refine G.callS H52 (m10_apply V a56 a57 k58 e0 e1 e2 h52_ H52.old F62) (wd27 V) (wd28 V) (wd29 V) (wd30 V) (by decide) (argsL := [(.ref a56)]) (rest := []) (W := 0) rfl rfl (lenOf (pd_3) rfl) rfl rfl at_152 (pc' := 155) rfl (by decide) (by decide) (by decide) (by decide) (allS (mG (i := 0) rfl) (allS (mG (i := 1) rfl) all0)) ?_
    intro T63 h63_ v64 s65 H63 Q66
    obtain ⟨rfl, rfl, K67⟩ := Q66
    show Go p e below _ (T63.setTop (mkF m 155 #[.val (.int x70000), .val (.int x70001), .val (.int x70002), .val (.int x70003), .val (.int 3), .val (.int 2), .val (.int (x2 &&& 255)), .val (.int x70007), .val (.ref p0), .val (.ref a56), .val (.int 0)] [(.int 1)]))
    refine G.iload H63 at_155 (pc' := 157) rfl rfl ?_
    refine G.ifNo H63 at_157 (pc' := 160) rfl (by decide) ?_
    refine G.iconst H63 at_160 (pc' := 161) rfl (v := 1) rfl ?_
    refine G.goto H63 at_161 (by decide) (pc' := 165) rfl ?_
    refine G.icmpNo H63 at_165 (pc' := 168) rfl (by decide) ?_
    refine G.iconst H63 at_168 (pc' := 169) rfl (v := 1) rfl ?_
    refine G.goto H63 at_169 (by decide) (pc' := 173) rfl ?_
    exact G.retN H63 (t := .boolean) rfl (by decide) at_173 (so := []) all0 (by decide) (by decide) rfl
  ·
    refine G.aload H at_101 (pc' := 103) rfl rfl rfl ?_
    refine G.iload H at_103 (pc' := 105) rfl rfl ?_
    refine G.callS H (m11_cut V p0 c0 e0 e1 e2 e3 e4 e5 e6 e7 e8 e9 h0 H.old fA8 (own_u16 re0) (own_u16 re1) (own_u16 re2) (own_u16 re3) re3 re2 re1 re0) (wd2 V) (wd3 V) (wd4 V) (wd5 V) (by decide) (argsL := [(.ref p0), (.int 4)]) (rest := []) (W := 0) rfl rfl (lenOf (pd_2) rfl) rfl rfl at_105 (pc' := 108) rfl (by decide) (by decide) (by decide) (by decide) all0 ?_
    intro T68 h68_ v69 s70 H68 Q71
    obtain ⟨a72, a73, k74, rfl, rfl, K75, g76, g77, F78⟩ := Q71
    have na72 : n0 ≤ a72 := Nat.le_trans H.le g76
    have na73 : n0 ≤ a73 := Nat.le_trans H.le (Nat.le_of_lt (Nat.lt_of_le_of_lt g76 g77))
    show Go p e below _ (T68.setTop (mkF m 108 #[.val (.int x70000), .val (.int x70001), .val (.int x70002), .val (.int x70003), .val (.int 4), .val (.int 2), .val (.int (x2 &&& 255)), .val (.int x70007), .val (.ref p0), .unset, .unset] [(.ref a72)]))
    refine G.astore H68 (L' := #[.val (.int x70000), .val (.int x70001), .val (.int x70002), .val (.int x70003), .val (.int 4), .val (.int 2), .val (.int (x2 &&& 255)), .val (.int x70007), .val (.ref p0), .val (.ref a72), .unset]) at_108 (pc' := 110) rfl rfl rfl ?_
    refine G.iload H68 at_110 (pc' := 112) rfl rfl ?_
    refine G.bipush H68 at_112 (pc' := 114) rfl (v := 7) rfl ?_
    refine G.icmpNo H68 at_114 (pc' := 117) rfl (by decide) ?_
    refine G.iload H68 at_117 (pc' := 119) rfl rfl ?_
    refine G.bipush H68 at_119 (pc' := 121) rfl (v := 9) rfl ?_
    refine G.icmpYes H68 at_121 (by decide) (by decide) (pc' := 147) rfl ?_
    refine G.iconst H68 at_147 (pc' := 148) rfl (v := 0) rfl ?_
    refine G.istore H68 (L' := #[.val (.int x70000), .val (.int x70001), .val (.int x70002), .val (.int x70003), .val (.int 4), .val (.int 2), .val (.int (x2 &&& 255)), .val (.int x70007), .val (.ref p0), .val (.ref a72), .val (.int 0)]) at_148 (pc' := 150) rfl rfl ?_
    refine G.aload H68 at_150 (pc' := 152) rfl rfl rfl ?_
    refine G.callS H68 (m12_apply V a72 a73 k74 e0 e1 e2 e3 h68_ H68.old F78) (wd27 V) (wd28 V) (wd29 V) (wd30 V) (by decide) (argsL := [(.ref a72)]) (rest := []) (W := 0) rfl rfl (lenOf (pd_3) rfl) rfl rfl at_152 (pc' := 155) rfl (by decide) (by decide) (by decide) (by decide) (allS (mG (i := 0) rfl) (allS (mG (i := 1) rfl) all0)) ?_
    intro T79 h79_ v80 s81 H79 Q82
    obtain ⟨rfl, rfl, K83⟩ := Q82
    show Go p e below _ (T79.setTop (mkF m 155 #[.val (.int x70000), .val (.int x70001), .val (.int x70002), .val (.int x70003), .val (.int 4), .val (.int 2), .val (.int (x2 &&& 255)), .val (.int x70007), .val (.ref p0), .val (.ref a72), .val (.int 0)] [(.int 1)]))
    refine G.iload H79 at_155 (pc' := 157) rfl rfl ?_
    refine G.ifNo H79 at_157 (pc' := 160) rfl (by decide) ?_
    refine G.iconst H79 at_160 (pc' := 161) rfl (v := 1) rfl ?_
    refine G.goto H79 at_161 (by decide) (pc' := 165) rfl ?_
    refine G.icmpNo H79 at_165 (pc' := 168) rfl (by decide) ?_
    refine G.iconst H79 at_168 (pc' := 169) rfl (v := 1) rfl ?_
    refine G.goto H79 at_169 (by decide) (pc' := 173) rfl ?_
    exact G.retN H79 (t := .boolean) rfl (by decide) at_173 (so := []) all0 (by decide) (by decide) rfl
  ·
    refine G.aload H at_101 (pc' := 103) rfl rfl rfl ?_
    refine G.iload H at_103 (pc' := 105) rfl rfl ?_
    refine G.callS H (m13_cut V p0 c0 e0 e1 e2 e3 e4 e5 e6 e7 e8 e9 h0 H.old fA8 (own_u16 re0) (own_u16 re1) (own_u16 re2) (own_u16 re3) (own_u16 re4) re4 re3 re2 re1 re0) (wd2 V) (wd3 V) (wd4 V) (wd5 V) (by decide) (argsL := [(.ref p0), (.int 5)]) (rest := []) (W := 0) rfl rfl (lenOf (pd_2) rfl) rfl rfl at_105 (pc' := 108) rfl (by decide) (by decide) (by decide) (by decide) all0 ?_
    intro T84 h84_ v85 s86 H84 Q87
    obtain ⟨a88, a89, k90, rfl, rfl, K91, g92, g93, F94⟩ := Q87
    have na88 : n0 ≤ a88 := Nat.le_trans H.le g92
    have na89 : n0 ≤ a89 := Nat.le_trans H.le (Nat.le_of_lt (Nat.lt_of_le_of_lt g92 g93))
    show Go p e below _ (T84.setTop (mkF m 108 #[.val (.int x70000), .val (.int x70001), .val (.int x70002), .val (.int x70003), .val (.int 5), .val (.int 2), .val (.int (x2 &&& 255)), .val (.int x70007), .val (.ref p0), .unset, .unset] [(.ref a88)]))
    refine G.astore H84 (L' := #[.val (.int x70000), .val (.int x70001), .val (.int x70002), .val (.int x70003), .val (.int 5), .val (.int 2), .val (.int (x2 &&& 255)), .val (.int x70007), .val (.ref p0), .val (.ref a88), .unset]) at_108 (pc' := 110) rfl rfl rfl ?_
    refine G.iload H84 at_110 (pc' := 112) rfl rfl ?_
    refine G.bipush H84 at_112 (pc' := 114) rfl (v := 7) rfl ?_
    refine G.icmpNo H84 at_114 (pc' := 117) rfl (by decide) ?_
    refine G.iload H84 at_117 (pc' := 119) rfl rfl ?_
    refine G.bipush H84 at_119 (pc' := 121) rfl (v := 9) rfl ?_
    refine G.icmpYes H84 at_121 (by decide) (by decide) (pc' := 147) rfl ?_
    refine G.iconst H84 at_147 (pc' := 148) rfl (v := 0) rfl ?_
    refine G.istore H84 (L' := #[.val (.int x70000), .val (.int x70001), .val (.int x70002), .val (.int x70003), .val (.int 5), .val (.int 2), .val (.int (x2 &&& 255)), .val (.int x70007), .val (.ref p0), .val (.ref a88), .val (.int 0)]) at_148 (pc' := 150) rfl rfl ?_
    refine G.aload H84 at_150 (pc' := 152) rfl rfl rfl ?_
    refine G.callS H84 (m14_apply V a88 a89 k90 e0 e1 e2 e3 e4 h84_ H84.old F94) (wd27 V) (wd28 V) (wd29 V) (wd30 V) (by decide) (argsL := [(.ref a88)]) (rest := []) (W := 0) rfl rfl (lenOf (pd_3) rfl) rfl rfl at_152 (pc' := 155) rfl (by decide) (by decide) (by decide) (by decide) (allS (mG (i := 0) rfl) (allS (mG (i := 1) rfl) all0)) ?_
    intro T95 h95_ v96 s97 H95 Q98
    obtain ⟨rfl, rfl, K99⟩ := Q98
    show Go p e below _ (T95.setTop (mkF m 155 #[.val (.int x70000), .val (.int x70001), .val (.int x70002), .val (.int x70003), .val (.int 5), .val (.int 2), .val (.int (x2 &&& 255)), .val (.int x70007), .val (.ref p0), .val (.ref a88), .val (.int 0)] [(.int 1)]))
    refine G.iload H95 at_155 (pc' := 157) rfl rfl ?_
    refine G.ifNo H95 at_157 (pc' := 160) rfl (by decide) ?_
    refine G.iconst H95 at_160 (pc' := 161) rfl (v := 1) rfl ?_
    refine G.goto H95 at_161 (by decide) (pc' := 165) rfl ?_
    refine G.icmpNo H95 at_165 (pc' := 168) rfl (by decide) ?_
    refine G.iconst H95 at_168 (pc' := 169) rfl (v := 1) rfl ?_
    refine G.goto H95 at_169 (by decide) (pc' := 173) rfl ?_
    exact G.retN H95 (t := .boolean) rfl (by decide) at_173 (so := []) all0 (by decide) (by decide) rfl
  ·
    refine G.aload H at_101 (pc' := 103) rfl rfl rfl ?_
    refine G.iload H at_103 (pc' := 105) rfl rfl ?_
    refine G.callS H (m15_cut V p0 c0 e0 e1 e2 e3 e4 e5 e6 e7 e8 e9 h0 H.old fA8 (own_u16 re0) (own_u16 re1) (own_u16 re2) (own_u16 re3) (own_u16 re4) (own_u16 re5) re5 re4 re3 re2 re1 re0) (wd2 V) (wd3 V) (wd4 V) (wd5 V) (by decide) (argsL := [(.ref p0), (.int 6)]) (rest := []) (W := 0) rfl rfl (lenOf (pd_2) rfl) rfl rfl at_105 (pc' := 108) rfl (by decide) (by decide) (by decide) (by decide) all0 ?_
    intro T100 h100_ v101 s102 H100 Q103
    obtain ⟨a104, a105, k106, rfl, rfl, K107, g108, g109, F110⟩ := Q103
    have na104 : n0 ≤ a104 := Nat.le_trans H.le g108
    have na105 : n0 ≤ a105 := Nat.le_trans H.le (Nat.le_of_lt (Nat.lt_of_le_of_lt g108 g109))
    show Go p e below _ (T100.setTop (mkF m 108 #[.val (.int x70000), .val (.int x70001), .val (.int x70002), .val (.int x70003), .val (.int 6), .val (.int 2), .val (.int (x2 &&& 255)), .val (.int x70007), .val (.ref p0), .unset, .unset] [(.ref a104)]))
    refine G.astore H100 (L' := #[.val (.int x70000), .val (.int x70001), .val (.int x70002), .val (.int x70003), .val (.int 6), .val (.int 2), .val (.int (x2 &&& 255)), .val (.int x70007), .val (.ref p0), .val (.ref a104), .unset]) at_108 (pc' := 110) rfl rfl rfl ?_
    refine G.iload H100 at_110 (pc' := 112) rfl rfl ?_
    refine G.bipush H100 at_112 (pc' := 114) rfl (v := 7) rfl ?_
    refine G.icmpNo H100 at_114 (pc' := 117) rfl (by decide) ?_
    refine G.iload H100 at_117 (pc' := 119) rfl rfl ?_
    refine G.bipush H100 at_119 (pc' := 121) rfl (v := 9) rfl ?_
    refine G.icmpYes H100 at_121 (by decide) (by decide) (pc' := 147) rfl ?_
    refine G.iconst H100 at_147 (pc' := 148) rfl (v := 0) rfl ?_
    refine G.istore H100 (L' := #[.val (.int x70000), .val (.int x70001), .val (.int x70002), .val (.int x70003), .val (.int 6), .val (.int 2), .val (.int (x2 &&& 255)), .val (.int x70007), .val (.ref p0), .val (.ref a104), .val (.int 0)]) at_148 (pc' := 150) rfl rfl ?_
    refine G.aload H100 at_150 (pc' := 152) rfl rfl rfl ?_
    refine G.callS H100 (m16_apply V a104 a105 k106 e0 e1 e2 e3 e4 e5 h100_ H100.old F110) (wd27 V) (wd28 V) (wd29 V) (wd30 V) (by decide) (argsL := [(.ref a104)]) (rest := []) (W := 0) rfl rfl (lenOf (pd_3) rfl) rfl rfl at_152 (pc' := 155) rfl (by decide) (by decide) (by decide) (by decide) (allS (mG (i := 0) rfl) (allS (mG (i := 1) rfl) all0)) ?_
    intro T111 h111_ v112 s113 H111 Q114
    obtain ⟨rfl, rfl, K115⟩ := Q114
    show Go p e below _ (T111.setTop (mkF m 155 #[.val (.int x70000), .val (.int x70001), .val (.int x70002), .val (.int x70003), .val (.int 6), .val (.int 2), .val (.int (x2 &&& 255)), .val (.int x70007), .val (.ref p0), .val (.ref a104), .val (.int 0)] [(.int 1)]))
    refine G.iload H111 at_155 (pc' := 157) rfl rfl ?_
    refine G.ifNo H111 at_157 (pc' := 160) rfl (by decide) ?_
    refine G.iconst H111 at_160 (pc' := 161) rfl (v := 1) rfl ?_
    refine G.goto H111 at_161 (by decide) (pc' := 165) rfl ?_
    refine G.icmpNo H111 at_165 (pc' := 168) rfl (by decide) ?_
    refine G.iconst H111 at_168 (pc' := 169) rfl (v := 1) rfl ?_
    refine G.goto H111 at_169 (by decide) (pc' := 173) rfl ?_
    exact G.retN H111 (t := .boolean) rfl (by decide) at_173 (so := []) all0 (by decide) (by decide) rfl
  ·
    refine G.aload H at_101 (pc' := 103) rfl rfl rfl ?_
    refine G.iload H at_103 (pc' := 105) rfl rfl ?_
    refine G.callS H (m17_cut V p0 c0 e0 e1 e2 e3 e4 e5 e6 e7 e8 e9 h0 H.old fA8 (own_u16 re0) (own_u16 re1) (own_u16 re2) (own_u16 re3) (own_u16 re4) (own_u16 re5) (own_u16 re6) re6 re5 re4 re3 re2 re1 re0) (wd2 V) (wd3 V) (wd4 V) (wd5 V) (by decide) (argsL := [(.ref p0), (.int 7)]) (rest := []) (W := 0) rfl rfl (lenOf (pd_2) rfl) rfl rfl at_105 (pc' := 108) rfl (by decide) (by decide) (by decide) (by decide) all0 ?_
    intro T116 h116_ v117 s118 H116 Q119
    obtain ⟨a120, a121, k122, rfl, rfl, K123, g124, g125, F126⟩ := Q119
    have na120 : n0 ≤ a120 := Nat.le_trans H.le g124
    have na121 : n0 ≤ a121 := Nat.le_trans H.le (Nat.le_of_lt (Nat.lt_of_le_of_lt g124 g125))
    show Go p e below _ (T116.setTop (mkF m 108 #[.val (.int x70000), .val (.int x70001), .val (.int x70002), .val (.int x70003), .val (.int 7), .val (.int 2), .val (.int (x2 &&& 255)), .val (.int x70007), .val (.ref p0), .unset, .unset] [(.ref a120)]))
    refine G.astore H116 (L' := #[.val (.int x70000), .val (.int x70001), .val (.int x70002), .val (.int x70003), .val (.int 7), .val (.int 2), .val (.int (x2 &&& 255)), .val (.int x70007), .val (.ref p0), .val (.ref a120), .unset]) at_108 (pc' := 110) rfl rfl rfl ?_
    refine G.iload H116 at_110 (pc' := 112) rfl rfl ?_
    refine G.bipush H116 at_112 (pc' := 114) rfl (v := 7) rfl ?_
    refine G.icmpYes H116 at_114 (by decide) (by decide) (pc' := 124) rfl ?_
    refine G.iload H116 at_124 (pc' := 126) rfl rfl ?_
    refine G.iload H116 at_126 (pc' := 128) rfl rfl ?_
    refine G.icmpNo H116 at_128 (pc' := 131) rfl (by decide) ?_
    refine G.iload H116 at_131 (pc' := 133) rfl rfl ?_
    refine G.ldcS H116 trivial (wS V) (wd54 V) (by decide) (vs := [(.int 67), (.int 79), (.int 78), (.int 78), (.int 69), (.int 67), (.int 84), (.int 69), (.int 68)]) (z := 9) (by decide) (by decide) rfl (n := 36) (by decide) (by decide) (by decide) (by decide) at_133 (pc' := 135) rfl ?_
    intro T127 h127_ a128 b130 k131 H127 E129 X132 F133 F134 A135 Q136
    have S137 : Str Z h127_ a128 b130 k131 [67, 79, 78, 78, 69, 67, 84, 69, 68] := ⟨X132, F133, F134, A135, by decide, by decide⟩
    refine G.iload H127 at_135 (pc' := 137) rfl rfl ?_
    refine G.callV H127 (m43_charAt V a128 b130 k131 h127_ H127.old X132 F133 F134 A135) (wd55 V) (wd56 V) (nf_sel (wd58 V)) (wd58 V) (wd57 V) (wd8 V) (wd59 V) (by decide) X132 (argsL := [(.int 2)]) (rest := [(.int (x2 &&& 255))]) (W := 1) rfl rfl (lenOf (pd_8) rfl) rfl rfl at_137 (pc' := 140) rfl (by decide) (by decide) (by decide) (by decide) all0 ?_
    intro T138 h138_ v139 s140 H138 Q141
    obtain ⟨rfl, rfl, rfl⟩ := Q141
    show Go p e below _ (T138.setTop (mkF m 140 #[.val (.int x70000), .val (.int x70001), .val (.int x70002), .val (.int x70003), .val (.int 7), .val (.int 2), .val (.int (x2 &&& 255)), .val (.int x70007), .val (.ref p0), .val (.ref a120), .unset] [(.int 78), (.int (x2 &&& 255))]))
    by_cases c142 : (x2 &&& 255) = 78
    ·
      refine G.icmpNo H138 at_140 (pc' := 143) rfl (XT.ii_ne_f c142) ?_
      refine G.iconst H138 at_143 (pc' := 144) rfl (v := 1) rfl ?_
      refine G.goto H138 at_144 (by decide) (pc' := 148) rfl ?_
      refine G.istore H138 (L' := #[.val (.int x70000), .val (.int x70001), .val (.int x70002), .val (.int x70003), .val (.int 7), .val (.int 2), .val (.int (x2 &&& 255)), .val (.int x70007), .val (.ref p0), .val (.ref a120), .val (.int 1)]) at_148 (pc' := 150) rfl rfl ?_
      refine G.aload H138 at_150 (pc' := 152) rfl rfl rfl ?_
      have F143 := (Str.ext E129 F126)
      refine G.callS H138 (m23_apply V a120 a121 k122 e0 e1 e2 e3 e4 e5 e6 h127_ H138.old F143 qe0 qe1 (Eq.trans qe2 c142) qe3 qe4 qe5 qe6) (wd27 V) (wd28 V) (wd29 V) (wd30 V) (by decide) (argsL := [(.ref a120)]) (rest := []) (W := 0) rfl rfl (lenOf (pd_3) rfl) rfl rfl at_152 (pc' := 155) rfl (by decide) (by decide) (by decide) (by decide) all0 ?_
      intro T144 h144_ v145 s146 H144 Q147
      obtain ⟨c148, rfl, rfl, K149⟩ := Q147
      show Go p e below _ (T144.setTop (mkF m 155 #[.val (.int x70000), .val (.int x70001), .val (.int x70002), .val (.int x70003), .val (.int 7), .val (.int 2), .val (.int (x2 &&& 255)), .val (.int x70007), .val (.ref p0), .val (.ref a120), .val (.int 1)] [(.int 0)]))
      refine G.iload H144 at_155 (pc' := 157) rfl rfl ?_
      refine G.ifYes H144 at_157 (by decide) (by decide) (pc' := 164) rfl ?_
      refine G.iconst H144 at_164 (pc' := 165) rfl (v := 0) rfl ?_
      refine G.icmpNo H144 at_165 (pc' := 168) rfl (by decide) ?_
      refine G.iconst H144 at_168 (pc' := 169) rfl (v := 1) rfl ?_
      refine G.goto H144 at_169 (by decide) (pc' := 173) rfl ?_
      exact G.retN H144 (t := .boolean) rfl (by decide) at_173 (so := []) all0 (by decide) (by decide) rfl
    ·
      refine G.icmpYes H138 at_140 (XT.ii_ne_t c142) (by decide) (pc' := 147) rfl ?_
      refine G.iconst H138 at_147 (pc' := 148) rfl (v := 0) rfl ?_
      refine G.istore H138 (L' := #[.val (.int x70000), .val (.int x70001), .val (.int x70002), .val (.int x70003), .val (.int 7), .val (.int 2), .val (.int (x2 &&& 255)), .val (.int x70007), .val (.ref p0), .val (.ref a120), .val (.int 0)]) at_148 (pc' := 150) rfl rfl ?_
      refine G.aload H138 at_150 (pc' := 152) rfl rfl rfl ?_
      have F150 := (Str.ext E129 F126)
      refine G.callS H138 (m44_apply V a120 a121 k122 e0 e1 e2 e3 e4 e5 e6 h127_ H138.old F150 qe0 qe1 (fun qq => c142 (Eq.trans (Eq.symm qe2) qq)) qe3 qe4 qe5 qe6) (wd27 V) (wd28 V) (wd29 V) (wd30 V) (by decide) (argsL := [(.ref a120)]) (rest := []) (W := 0) rfl rfl (lenOf (pd_3) rfl) rfl rfl at_152 (pc' := 155) rfl (by decide) (by decide) (by decide) (by decide) (allS (mG (i := 0) rfl) (allS (mG (i := 1) rfl) all0)) ?_
      intro T151 h151_ v152 s153 H151 Q154
      obtain ⟨c155, rfl, rfl, K156⟩ := Q154
      show Go p e below _ (T151.setTop (mkF m 155 #[.val (.int x70000), .val (.int x70001), .val (.int x70002), .val (.int x70003), .val (.int 7), .val (.int 2), .val (.int (x2 &&& 255)), .val (.int x70007), .val (.ref p0), .val (.ref a120), .val (.int 0)] [(.int 1)]))
      refine G.iload H151 at_155 (pc' := 157) rfl rfl ?_
      refine G.ifNo H151 at_157 (pc' := 160) rfl (by decide) ?_
      refine G.iconst H151 at_160 (pc' := 161) rfl (v := 1) rfl ?_
      refine G.goto H151 at_161 (by decide) (pc' := 165) rfl ?_
      refine G.icmpNo H151 at_165 (pc' := 168) rfl (by decide) ?_
      refine G.iconst H151 at_168 (pc' := 169) rfl (v := 1) rfl ?_
      refine G.goto H151 at_169 (by decide) (pc' := 173) rfl ?_
      exact G.retN H151 (t := .boolean) rfl (by decide) at_173 (so := []) all0 (by decide) (by decide) rfl
  ·
    refine G.aload H at_101 (pc' := 103) rfl rfl rfl ?_
    refine G.iload H at_103 (pc' := 105) rfl rfl ?_
    refine G.callS H (m25_cut V p0 c0 e0 e1 e2 e3 e4 e5 e6 e7 e8 e9 h0 H.old fA8 (own_u16 re0) (own_u16 re1) (own_u16 re2) (own_u16 re3) (own_u16 re4) (own_u16 re5) (own_u16 re6) (own_u16 re7) re7 re6 re5 re4 re3 re2 re1 re0) (wd2 V) (wd3 V) (wd4 V) (wd5 V) (by decide) (argsL := [(.ref p0), (.int 8)]) (rest := []) (W := 0) rfl rfl (lenOf (pd_2) rfl) rfl rfl at_105 (pc' := 108) rfl (by decide) (by decide) (by decide) (by decide) all0 ?_
    intro T157 h157_ v158 s159 H157 Q160
    obtain ⟨a161, a162, k163, rfl, rfl, K164, g165, g166, F167⟩ := Q160
    have na161 : n0 ≤ a161 := Nat.le_trans H.le g165
    have na162 : n0 ≤ a162 := Nat.le_trans H.le (Nat.le_of_lt (Nat.lt_of_le_of_lt g165 g166))
    show Go p e below _ (T157.setTop (mkF m 108 #[.val (.int x70000), .val (.int x70001), .val (.int x70002), .val (.int x70003), .val (.int 8), .val (.int 2), .val (.int (x2 &&& 255)), .val (.int x70007), .val (.ref p0), .unset, .unset] [(.ref a161)]))
    refine G.astore H157 (L' := #[.val (.int x70000), .val (.int x70001), .val (.int x70002), .val (.int x70003), .val (.int 8), .val (.int 2), .val (.int (x2 &&& 255)), .val (.int x70007), .val (.ref p0), .val (.ref a161), .unset]) at_108 (pc' := 110) rfl rfl rfl ?_
    refine G.iload H157 at_110 (pc' := 112) rfl rfl ?_
    refine G.bipush H157 at_112 (pc' := 114) rfl (v := 7) rfl ?_
    refine G.icmpNo H157 at_114 (pc' := 117) rfl (by decide) ?_
    refine G.iload H157 at_117 (pc' := 119) rfl rfl ?_
    refine G.bipush H157 at_119 (pc' := 121) rfl (v := 9) rfl ?_
    refine G.icmpYes H157 at_121 (by decide) (by decide) (pc' := 147) rfl ?_
    refine G.iconst H157 at_147 (pc' := 148) rfl (v := 0) rfl ?_
    refine G.istore H157 (L' := #[.val (.int x70000), .val (.int x70001), .val (.int x70002), .val (.int x70003), .val (.int 8), .val (.int 2), .val (.int (x2 &&& 255)), .val (.int x70007), .val (.ref p0), .val (.ref a161), .val (.int 0)]) at_148 (pc' := 150) rfl rfl ?_
    refine G.aload H157 at_150 (pc' := 152) rfl rfl rfl ?_
    refine G.callS H157 (m26_apply V a161 a162 k163 e0 e1 e2 e3 e4 e5 e6 e7 h157_ H157.old F167) (wd27 V) (wd28 V) (wd29 V) (wd30 V) (by decide) (argsL := [(.ref a161)]) (rest := []) (W := 0) rfl rfl (lenOf (pd_3) rfl) rfl rfl at_152 (pc' := 155) rfl (by decide) (by decide) (by decide) (by decide) (allS (mG (i := 0) rfl) (allS (mG (i := 1) rfl) all0)) ?_
    intro T168 h168_ v169 s170 H168 Q171
    obtain ⟨rfl, rfl, K172⟩ := Q171
    show Go p e below _ (T168.setTop (mkF m 155 #[.val (.int x70000), .val (.int x70001), .val (.int x70002), .val (.int x70003), .val (.int 8), .val (.int 2), .val (.int (x2 &&& 255)), .val (.int x70007), .val (.ref p0), .val (.ref a161), .val (.int 0)] [(.int 1)]))
    refine G.iload H168 at_155 (pc' := 157) rfl rfl ?_
    refine G.ifNo H168 at_157 (pc' := 160) rfl (by decide) ?_
    refine G.iconst H168 at_160 (pc' := 161) rfl (v := 1) rfl ?_
    refine G.goto H168 at_161 (by decide) (pc' := 165) rfl ?_
    refine G.icmpNo H168 at_165 (pc' := 168) rfl (by decide) ?_
    refine G.iconst H168 at_168 (pc' := 169) rfl (v := 1) rfl ?_
    refine G.goto H168 at_169 (by decide) (pc' := 173) rfl ?_
    exact G.retN H168 (t := .boolean) rfl (by decide) at_173 (so := []) all0 (by decide) (by decide) rfl
  ·
    refine G.aload H at_101 (pc' := 103) rfl rfl rfl ?_
    refine G.iload H at_103 (pc' := 105) rfl rfl ?_
    refine G.callS H (m27_cut V p0 c0 e0 e1 e2 e3 e4 e5 e6 e7 e8 e9 h0 H.old fA8 (own_u16 re0) (own_u16 re1) (own_u16 re2) (own_u16 re3) (own_u16 re4) (own_u16 re5) (own_u16 re6) (own_u16 re7) (own_u16 re8) re8 re7 re6 re5 re4 re3 re2 re1 re0) (wd2 V) (wd3 V) (wd4 V) (wd5 V) (by decide) (argsL := [(.ref p0), (.int 9)]) (rest := []) (W := 0) rfl rfl (lenOf (pd_2) rfl) rfl rfl at_105 (pc' := 108) rfl (by decide) (by decide) (by decide) (by decide) all0 ?_
    intro T173 h173_ v174 s175 H173 Q176
    obtain ⟨a177, a178, k179, rfl, rfl, K180, g181, g182, F183⟩ := Q176
    have na177 : n0 ≤ a177 := Nat.le_trans H.le g181
    have na178 : n0 ≤ a178 := Nat.le_trans H.le (Nat.le_of_lt (Nat.lt_of_le_of_lt g181 g182))
    show Go p e below _ (T173.setTop (mkF m 108 #[.val (.int x70000), .val (.int x70001), .val (.int x70002), .val (.int x70003), .val (.int 9), .val (.int 2), .val (.int (x2 &&& 255)), .val (.int x70007), .val (.ref p0), .unset, .unset] [(.ref a177)]))
    refine G.astore H173 (L' := #[.val (.int x70000), .val (.int x70001), .val (.int x70002), .val (.int x70003), .val (.int 9), .val (.int 2), .val (.int (x2 &&& 255)), .val (.int x70007), .val (.ref p0), .val (.ref a177), .unset]) at_108 (pc' := 110) rfl rfl rfl ?_
    refine G.iload H173 at_110 (pc' := 112) rfl rfl ?_
    refine G.bipush H173 at_112 (pc' := 114) rfl (v := 7) rfl ?_
    refine G.icmpNo H173 at_114 (pc' := 117) rfl (by decide) ?_
    refine G.iload H173 at_117 (pc' := 119) rfl rfl ?_
    refine G.bipush H173 at_119 (pc' := 121) rfl (v := 9) rfl ?_
    refine G.icmpNo H173 at_121 (pc' := 124) rfl (by decide) ?_
    refine G.iload H173 at_124 (pc' := 126) rfl rfl ?_
    refine G.iload H173 at_126 (pc' := 128) rfl rfl ?_
    refine G.icmpNo H173 at_128 (pc' := 131) rfl (by decide) ?_
    refine G.iload H173 at_131 (pc' := 133) rfl rfl ?_
    refine G.ldcS H173 trivial (wS V) (wd54 V) (by decide) (vs := [(.int 67), (.int 79), (.int 78), (.int 78), (.int 69), (.int 67), (.int 84), (.int 69), (.int 68)]) (z := 9) (by decide) (by decide) rfl (n := 36) (by decide) (by decide) (by decide) (by decide) at_133 (pc' := 135) rfl ?_
    intro T184 h184_ a185 b187 k188 H184 E186 X189 F190 F191 A192 Q193
    have S194 : Str Z h184_ a185 b187 k188 [67, 79, 78, 78, 69, 67, 84, 69, 68] := ⟨X189, F190, F191, A192, by decide, by decide⟩
    refine G.iload H184 at_135 (pc' := 137) rfl rfl ?_
    refine G.callV H184 (m43_charAt V a185 b187 k188 h184_ H184.old X189 F190 F191 A192) (wd55 V) (wd56 V) (nf_sel (wd58 V)) (wd58 V) (wd57 V) (wd8 V) (wd59 V) (by decide) X189 (argsL := [(.int 2)]) (rest := [(.int (x2 &&& 255))]) (W := 1) rfl rfl (lenOf (pd_8) rfl) rfl rfl at_137 (pc' := 140) rfl (by decide) (by decide) (by decide) (by decide) all0 ?_
    intro T195 h195_ v196 s197 H195 Q198
    obtain ⟨rfl, rfl, rfl⟩ := Q198
    show Go p e below _ (T195.setTop (mkF m 140 #[.val (.int x70000), .val (.int x70001), .val (.int x70002), .val (.int x70003), .val (.int 9), .val (.int 2), .val (.int (x2 &&& 255)), .val (.int x70007), .val (.ref p0), .val (.ref a177), .unset] [(.int 78), (.int (x2 &&& 255))]))
    by_cases c199 : (x2 &&& 255) = 78
    ·
      refine G.icmpNo H195 at_140 (pc' := 143) rfl (XT.ii_ne_f c199) ?_
      refine G.iconst H195 at_143 (pc' := 144) rfl (v := 1) rfl ?_
      refine G.goto H195 at_144 (by decide) (pc' := 148) rfl ?_
      refine G.istore H195 (L' := #[.val (.int x70000), .val (.int x70001), .val (.int x70002), .val (.int x70003), .val (.int 9), .val (.int 2), .val (.int (x2 &&& 255)), .val (.int x70007), .val (.ref p0), .val (.ref a177), .val (.int 1)]) at_148 (pc' := 150) rfl rfl ?_
      refine G.aload H195 at_150 (pc' := 152) rfl rfl rfl ?_
      have F200 := (Str.ext E186 F183)
      refine G.callS H195 (m28_apply V a177 a178 k179 e0 e1 e2 e3 e4 e5 e6 e7 e8 h184_ H195.old F200 qe0 qe1 (Eq.trans qe2 c199) qe3 qe4 qe5 qe6 qe7 qe8) (wd27 V) (wd28 V) (wd29 V) (wd30 V) (by decide) (argsL := [(.ref a177)]) (rest := []) (W := 0) rfl rfl (lenOf (pd_3) rfl) rfl rfl at_152 (pc' := 155) rfl (by decide) (by decide) (by decide) (by decide) (allS (mG (i := 0) rfl) (allS (mG (i := 1) rfl) all0)) ?_
      intro T201 h201_ v202 s203 H201 Q204
      obtain ⟨c205, rfl, rfl, K206⟩ := Q204
      show Go p e below _ (T201.setTop (mkF m 155 #[.val (.int x70000), .val (.int x70001), .val (.int x70002), .val (.int x70003), .val (.int 9), .val (.int 2), .val (.int (x2 &&& 255)), .val (.int x70007), .val (.ref p0), .val (.ref a177), .val (.int 1)] [(.int 0)]))
      refine G.iload H201 at_155 (pc' := 157) rfl rfl ?_
      refine G.ifYes H201 at_157 (by decide) (by decide) (pc' := 164) rfl ?_
      refine G.iconst H201 at_164 (pc' := 165) rfl (v := 0) rfl ?_
      refine G.icmpNo H201 at_165 (pc' := 168) rfl (by decide) ?_
      refine G.iconst H201 at_168 (pc' := 169) rfl (v := 1) rfl ?_
      refine G.goto H201 at_169 (by decide) (pc' := 173) rfl ?_
      exact G.retN H201 (t := .boolean) rfl (by decide) at_173 (so := []) all0 (by decide) (by decide) rfl
    ·
      refine G.icmpYes H195 at_140 (XT.ii_ne_t c199) (by decide) (pc' := 147) rfl ?_
      refine G.iconst H195 at_147 (pc' := 148) rfl (v := 0) rfl ?_
      refine G.istore H195 (L' := #[.val (.int x70000), .val (.int x70001), .val (.int x70002), .val (.int x70003), .val (.int 9), .val (.int 2), .val (.int (x2 &&& 255)), .val (.int x70007), .val (.ref p0), .val (.ref a177), .val (.int 0)]) at_148 (pc' := 150) rfl rfl ?_
      refine G.aload H195 at_150 (pc' := 152) rfl rfl rfl ?_
      have F207 := (Str.ext E186 F183)
      refine G.callS H195 (m45_apply V a177 a178 k179 e0 e1 e2 e3 e4 e5 e6 e7 e8 h184_ H195.old F207 qe0 qe1 (fun qq => c199 (Eq.trans (Eq.symm qe2) qq)) qe3 qe4 qe5 qe6 qe7 qe8) (wd27 V) (wd28 V) (wd29 V) (wd30 V) (by decide) (argsL := [(.ref a177)]) (rest := []) (W := 0) rfl rfl (lenOf (pd_3) rfl) rfl rfl at_152 (pc' := 155) rfl (by decide) (by decide) (by decide) (by decide) (allS (mG (i := 0) rfl) (allS (mG (i := 1) rfl) all0)) ?_
      intro T208 h208_ v209 s210 H208 Q211
      obtain ⟨c212, rfl, rfl, K213⟩ := Q211
      show Go p e below _ (T208.setTop (mkF m 155 #[.val (.int x70000), .val (.int x70001), .val (.int x70002), .val (.int x70003), .val (.int 9), .val (.int 2), .val (.int (x2 &&& 255)), .val (.int x70007), .val (.ref p0), .val (.ref a177), .val (.int 0)] [(.int 1)]))
      refine G.iload H208 at_155 (pc' := 157) rfl rfl ?_
      refine G.ifNo H208 at_157 (pc' := 160) rfl (by decide) ?_
      refine G.iconst H208 at_160 (pc' := 161) rfl (v := 1) rfl ?_
      refine G.goto H208 at_161 (by decide) (pc' := 165) rfl ?_
      refine G.icmpNo H208 at_165 (pc' := 168) rfl (by decide) ?_
      refine G.iconst H208 at_168 (pc' := 169) rfl (v := 1) rfl ?_
      refine G.goto H208 at_169 (by decide) (pc' := 173) rfl ?_
      exact G.retN H208 (t := .boolean) rfl (by decide) at_173 (so := []) all0 (by decide) (by decide) rfl
  ·
    refine G.aload H at_101 (pc' := 103) rfl rfl rfl ?_
    refine G.iload H at_103 (pc' := 105) rfl rfl ?_
    refine G.callS H (m30_cut V p0 c0 e0 e1 e2 e3 e4 e5 e6 e7 e8 e9 h0 H.old fA8 (own_u16 re0) (own_u16 re1) (own_u16 re2) (own_u16 re3) (own_u16 re4) (own_u16 re5) (own_u16 re6) (own_u16 re7) (own_u16 re8) (own_u16 re9) re9 re8 re7 re6 re5 re4 re3 re2 re1 re0) (wd2 V) (wd3 V) (wd4 V) (wd5 V) (by decide) (argsL := [(.ref p0), (.int 10)]) (rest := []) (W := 0) rfl rfl (lenOf (pd_2) rfl) rfl rfl at_105 (pc' := 108) rfl (by decide) (by decide) (by decide) (by decide) all0 ?_
    intro T214 h214_ v215 s216 H214 Q217
    obtain ⟨a218, a219, k220, rfl, rfl, K221, g222, g223, F224⟩ := Q217
    have na218 : n0 ≤ a218 := Nat.le_trans H.le g222
    have na219 : n0 ≤ a219 := Nat.le_trans H.le (Nat.le_of_lt (Nat.lt_of_le_of_lt g222 g223))
    show Go p e below _ (T214.setTop (mkF m 108 #[.val (.int x70000), .val (.int x70001), .val (.int x70002), .val (.int x70003), .val (.int 10), .val (.int 2), .val (.int (x2 &&& 255)), .val (.int x70007), .val (.ref p0), .unset, .unset] [(.ref a218)]))
    refine G.astore H214 (L' := #[.val (.int x70000), .val (.int x70001), .val (.int x70002), .val (.int x70003), .val (.int 10), .val (.int 2), .val (.int (x2 &&& 255)), .val (.int x70007), .val (.ref p0), .val (.ref a218), .unset]) at_108 (pc' := 110) rfl rfl rfl ?_
    refine G.iload H214 at_110 (pc' := 112) rfl rfl ?_
    refine G.bipush H214 at_112 (pc' := 114) rfl (v := 7) rfl ?_
    refine G.icmpNo H214 at_114 (pc' := 117) rfl (by decide) ?_
    refine G.iload H214 at_117 (pc' := 119) rfl rfl ?_
    refine G.bipush H214 at_119 (pc' := 121) rfl (v := 9) rfl ?_
    refine G.icmpYes H214 at_121 (by decide) (by decide) (pc' := 147) rfl ?_
    refine G.iconst H214 at_147 (pc' := 148) rfl (v := 0) rfl ?_
    refine G.istore H214 (L' := #[.val (.int x70000), .val (.int x70001), .val (.int x70002), .val (.int x70003), .val (.int 10), .val (.int 2), .val (.int (x2 &&& 255)), .val (.int x70007), .val (.ref p0), .val (.ref a218), .val (.int 0)]) at_148 (pc' := 150) rfl rfl ?_
    refine G.aload H214 at_150 (pc' := 152) rfl rfl rfl ?_
    refine G.callS H214 (m31_apply V a218 a219 k220 e0 e1 e2 e3 e4 e5 e6 e7 e8 e9 h214_ H214.old F224) (wd27 V) (wd28 V) (wd29 V) (wd30 V) (by decide) (argsL := [(.ref a218)]) (rest := []) (W := 0) rfl rfl (lenOf (pd_3) rfl) rfl rfl at_152 (pc' := 155) rfl (by decide) (by decide) (by decide) (by decide) (allS (mG (i := 0) rfl) (allS (mG (i := 1) rfl) all0)) ?_
    intro T225 h225_ v226 s227 H225 Q228
    obtain ⟨rfl, rfl, K229⟩ := Q228
    show Go p e below _ (T225.setTop (mkF m 155 #[.val (.int x70000), .val (.int x70001), .val (.int x70002), .val (.int x70003), .val (.int 10), .val (.int 2), .val (.int (x2 &&& 255)), .val (.int x70007), .val (.ref p0), .val (.ref a218), .val (.int 0)] [(.int 1)]))
    refine G.iload H225 at_155 (pc' := 157) rfl rfl ?_
    refine G.ifNo H225 at_157 (pc' := 160) rfl (by decide) ?_
    refine G.iconst H225 at_160 (pc' := 161) rfl (v := 1) rfl ?_
    refine G.goto H225 at_161 (by decide) (pc' := 165) rfl ?_
    refine G.icmpNo H225 at_165 (pc' := 168) rfl (by decide) ?_
    refine G.iconst H225 at_168 (pc' := 169) rfl (v := 1) rfl ?_
    refine G.goto H225 at_169 (by decide) (pc' := 173) rfl ?_
    exact G.retN H225 (t := .boolean) rfl (by decide) at_173 (so := []) all0 (by decide) (by decide) rfl
set_option maxRecDepth 65536 in
set_option maxHeartbeats 40000000 in
theorem m47_checkIndex (V : Env1 Z a0 n0 uu0 uu1)  (h0 : Heap) (hO : Old Z n0 h0)  :
    Met Z a0 ELs True n0 l (⟨"jdk/internal/util/Preconditions", "checkIndex", "(IILjava/util/function/BiFunction;)I"⟩ : MethodName) jdk_41_method_11_code 3 (Option.some FieldType.int) ({ frames := 0, cells := 0, slots := 0, locals := 0 } : Room) #[(.int 3), (.int 9), uu1] h0 [] (fun v h so => (v = some (.int 3) ∧ so = [] ∧ h0 = h)) := by
  refine Met.of (EWl V) (by first | decide +kernel | rfl) hO (L0 := #[.val (.int 3), .val (.int 9), .val uu1]) (by rcases XT.refc (hv3 V) with rfl | ⟨_, rfl⟩ <;> rfl) ?_
  intro p e s m below meth c T H
  show Go p e below _ (T.setTop (mkF m 0 #[.val (.int 3), .val (.int 9), .val uu1] []))
  refine G.iloadN H D0_0 (pc' := 1) rfl rfl ?_
  refine G.ifNo H D0_1 (pc' := 4) rfl (by decide) ?_
  refine G.iloadN H D0_4 (pc' := 5) rfl rfl ?_
  refine G.iloadN H D0_5 (pc' := 6) rfl rfl ?_
  refine G.icmpYes H D0_6 (by decide) (by decide) (pc' := 16) rfl ?_
  refine G.iloadN H D0_16 (pc' := 17) rfl rfl ?_
  exact G.retI H rfl D0_17 (so := []) all0 (by decide) (by decide) ⟨rfl, rfl, rfl⟩
set_option maxRecDepth 65536 in
set_option maxHeartbeats 40000000 in
theorem m48_checkIndex (V : Env1 Z a0 n0 uu0 uu1)  (h0 : Heap) (hO : Old Z n0 h0)  :
    Met Z a0 ELs True n0 l (⟨"java/lang/String", "checkIndex", "(II)V"⟩ : MethodName) jdk_42_method_155_code 2 (Option.none : Option FieldType) ({ frames := 1, cells := 0, slots := 0, locals := 14 } : Room) #[(.int 3), (.int 9)] h0 [] (fun v h so => (v = none ∧ so = [] ∧ h0 = h)) := by
  refine Met.of (EWl V) (by first | decide +kernel | rfl) hO (L0 := #[.val (.int 3), .val (.int 9)]) rfl ?_
  intro p e s m below meth c T H
  show Go p e below _ (T.setTop (mkF m 0 #[.val (.int 3), .val (.int 9)] []))
  refine G.iloadN H D3_0 (pc' := 1) rfl rfl ?_
  refine G.iloadN H D3_1 (pc' := 2) rfl rfl ?_
  refine G.getS H (wd71 V) Via.refl (Sta.ext H.old.2 (hv2 V)) D3_2 (pc' := 5) rfl ?_
  intro T1 H2
  refine G.callS H2 (m47_checkIndex V h0 H2.old) (wd73 V) (wd74 V) (wd72 V) (wd75 V) (by decide) (argsL := [(.int 3), (.int 9), uu1]) (rest := []) (W := 0) rfl rfl (lenOf (pd_5) rfl) rfl rfl D3_5 (pc' := 8) rfl (by decide) (by decide) (by decide) (by decide) all0 ?_
  intro T3 h3_ v4 s5 H3 Q6
  obtain ⟨rfl, rfl, rfl⟩ := Q6
  show Go p e below _ (T3.setTop (mkF m 8 #[.val (.int 3), .val (.int 9)] [(.int 3)]))
  refine G.pop H3 D3_8 (pc' := 9) rfl rfl ?_
  exact G.retV H3 rfl D3_9 (so := []) all0 (by decide) (by decide) ⟨rfl, rfl, rfl⟩
set_option maxRecDepth 65536 in
set_option maxHeartbeats 40000000 in
theorem m49_charAt (V : Env1 Z a0 n0 uu0 uu1) (p0 : Addr) (c0 : ClassId) (h0 : Heap) (hO : Old Z n0 h0) (f0 : Arv Z h0 p0 c0 .byte 9 [(.int 67), (.int 79), (.int 78), (.int 78), (.int 69), (.int 67), (.int 84), (.int 69), (.int 68)] (.int 0)) :
    Met Z a0 ELs True n0 l (⟨"java/lang/StringLatin1", "charAt", "([BI)C"⟩ : MethodName) jdk_43_method_2_code 2 (Option.some FieldType.char) ({ frames := 2, cells := 0, slots := 0, locals := 27 } : Room) #[(.ref p0), (.int 3)] h0 [] (fun v h so => (v = some (.int 78) ∧ so = [] ∧ h0 = h)) := by
  refine Met.of (EWl V) (by first | decide +kernel | rfl) hO (L0 := #[.val (.ref p0), .val (.int 3)]) rfl ?_
  intro p e s m below meth c T H
  show Go p e below _ (T.setTop (mkF m 0 #[.val (.ref p0), .val (.int 3)] []))
  refine G.iloadN H D6_0 (pc' := 1) rfl rfl ?_
  refine G.aloadN H D6_1 (pc' := 2) rfl rfl rfl ?_
  refine G.arrlen H f0 D6_2 (pc' := 3) rfl ?_
  refine G.callS H (m48_checkIndex V h0 H.old) (wd68 V) (wd69 V) (wd8 V) (wd70 V) (by decide) (argsL := [(.int 3), (.int 9)]) (rest := []) (W := 0) rfl rfl (lenOf (pd_6) rfl) rfl rfl D6_3 (pc' := 6) rfl (by decide) (by decide) (by decide) (by decide) all0 ?_
  intro T1 h1_ v2 s3 H1 Q4
  obtain ⟨rfl, rfl, rfl⟩ := Q4
  show Go p e below _ (T1.setTop (mkF m 6 #[.val (.ref p0), .val (.int 3)] []))
  refine G.aloadN H1 D6_6 (pc' := 7) rfl rfl rfl ?_
  refine G.iloadN H1 D6_7 (pc' := 8) rfl rfl ?_
  refine G.baloadG H1 f0 (j := 3) (v := (.int 78)) (by decide) rfl D6_8 (pc' := 9) rfl ?_
  refine G.sipush H1 D6_9 (pc' := 12) rfl (v := 255) rfl ?_
  refine G.iand H1 D6_12 (pc' := 13) rfl ?_
  show Go p e below _ (T1.setTop (mkF m 13 #[.val (.ref p0), .val (.int 3)] [(.int 78)]))
  refine G.i2c H1 (y := 78) D6_13 (pc' := 14) rfl rfl ?_
  exact G.retN H1 (t := .char) rfl (by decide) D6_14 (so := []) all0 (by decide) (by decide) ⟨rfl, rfl, rfl⟩
set_option maxRecDepth 65536 in
set_option maxHeartbeats 40000000 in
theorem m50_charAt (V : Env1 Z a0 n0 uu0 uu1) (p0 : Addr) (p1 : Addr) (c0 : ClassId) (h0 : Heap) (hO : Old Z n0 h0) (f0 : Exa Z h0 p0 "java/lang/String") (f1 : Fld Z h0 p0 "java/lang/String" "coder" "B" (.int 0)) (f2 : Fld Z h0 p0 "java/lang/String" "value" "[B" (.ref p1)) (f3 : Arv Z h0 p1 c0 .byte 9 [(.int 67), (.int 79), (.int 78), (.int 78), (.int 69), (.int 67), (.int 84), (.int 69), (.int 68)] (.int 0)) :
    Met Z a0 ELs True n0 l (⟨"java/lang/String", "charAt", "(I)C"⟩ : MethodName) jdk_42_method_56_code 2 (Option.some FieldType.char) ({ frames := 3, cells := 0, slots := 0, locals := 40 } : Room) #[(.ref p0), (.int 3)] h0 [] (fun v h so => (v = some (.int 78) ∧ so = [] ∧ h0 = h)) := by
  refine Met.of (EWl V) (by first | decide +kernel | rfl) hO (L0 := #[.val (.ref p0), .val (.int 3)]) rfl ?_
  intro p e s m below meth c T H
  show Go p e below _ (T.setTop (mkF m 0 #[.val (.ref p0), .val (.int 3)] []))
  refine G.aloadN H D5_0 (pc' := 1) rfl rfl rfl ?_
  refine G.callV H (m18_isLatin1 V p0 h0 H.old f1) (wd60 V) (wd61 V) (nf_sel (wd63 V)) (wd63 V) (wd62 V) (wd8 V) (wd64 V) (by decide) f0 (argsL := []) (rest := []) (W := 0) rfl rfl (lenOf (pd_4) rfl) rfl rfl D5_1 (pc' := 4) rfl (by decide) (by decide) (by decide) (by decide) all0 ?_
  intro T1 h1_ v2 s3 H1 Q4
  obtain ⟨rfl, rfl, rfl⟩ := Q4
  show Go p e below _ (T1.setTop (mkF m 4 #[.val (.ref p0), .val (.int 3)] [(.int 1)]))
  refine G.ifNo H1 D5_4 (pc' := 7) rfl (by decide) ?_
  refine G.aloadN H1 D5_7 (pc' := 8) rfl rfl rfl ?_
  refine G.getF H1 (wd25 V) Via.refl f2 D5_8 (pc' := 11) rfl ?_
  intro T5 H6
  refine G.iloadN H6 D5_11 (pc' := 12) rfl rfl ?_
  refine G.callS H6 (m49_charAt V p1 c0 h0 H6.old f3) (wd65 V) (wd66 V) (wd41 V) (wd67 V) (by decide) (argsL := [(.ref p1), (.int 3)]) (rest := []) (W := 0) rfl rfl (lenOf (pd_7) rfl) rfl rfl D5_12 (pc' := 15) rfl (by decide) (by decide) (by decide) (by decide) all0 ?_
  intro T7 h7_ v8 s9 H7 Q10
  obtain ⟨rfl, rfl, rfl⟩ := Q10
  show Go p e below _ (T7.setTop (mkF m 15 #[.val (.ref p0), .val (.int 3)] [(.int 78)]))
  exact G.retN H7 (t := .char) rfl (by decide) D5_15 (so := []) all0 (by decide) (by decide) ⟨rfl, rfl, rfl⟩
set_option maxRecDepth 65536 in
set_option maxHeartbeats 40000000 in
theorem m51_apply (V : Env1 Z a0 n0 uu0 uu1) (p0 : Addr) (p1 : Addr) (c0 : ClassId) (x0 : Int32) (x1 : Int32) (x2 : Int32) (x3 : Int32) (x4 : Int32) (x5 : Int32) (x6 : Int32) (h0 : Heap) (hO : Old Z n0 h0) (f0 : Str Z h0 p0 p1 c0 [x0, x1, x2, x3, x4, x5, x6]) (cc1 : x0 = 67) (cc2 : x1 = 79) (cc3 : x2 = 78) (cc4 : ¬ x3 = 78) (cc5 : x4 = 69) (cc6 : x5 = 67) (cc7 : x6 = 84) :
    Met Z a0 ELs True n0 l (⟨"bindery/server/stomp/HeaderEscapes", "apply", "(Ljava/lang/String;)Z"⟩ : MethodName) prog_84_method_2_code 1 (Option.some FieldType.boolean) ({ frames := 2, cells := 4, slots := 72, locals := 28 } : Room) #[(.ref p0)] h0 [p0, p1] (fun v h so => (¬ [x0, x1, x2, x3, x4, x5, x6] = [67, 79, 78, 78, 69, 67, 84] ∧ v = some (.int 1) ∧ so = [] ∧ Keep h0 h [])) := by
  refine Met.of (EWl V) (by first | decide +kernel | rfl) hO (L0 := #[.val (.ref p0)]) rfl ?_
  intro p e s m below meth c T H
  show Go p e below _ (T.setTop (mkF m 0 #[.val (.ref p0)] []))
  refine G.aloadN H D8_0 (pc' := 1) rfl rfl rfl ?_
  refine G.ldcS H trivial (wS V) (wd31 V) (by decide) (vs := [(.int 67), (.int 79), (.int 78), (.int 78), (.int 69), (.int 67), (.int 84)]) (z := 7) (by decide) (by decide) rfl (n := 28) (by decide) (by decide) (by decide) (by decide) D8_1 (pc' := 3) rfl ?_
  intro T1 h1_ a2 b4 k5 H1 E3 X6 F7 F8 A9 Q10
  have S11 : Str Z h1_ a2 b4 k5 [67, 79, 78, 78, 69, 67, 84] := ⟨X6, F7, F8, A9, by decide, by decide⟩
  have F12 := (Str.ext E3 f0)
  refine G.strEq H1 (strwEq V) (wd7 V) (wd32 V) (wd33 V) (wd35 V) (wd34 V) F12 S11 (hv0 V) (hv1 V) (rest := []) (W := 0) rfl rfl D8_3 (pc' := 6) rfl (by decide) (by decide) (by decide) (by decide) ?_ ?_
  ·
    intro T13 H14 c15
    exact absurd (List.cons.inj (List.cons.inj (List.cons.inj (List.cons.inj c15).2).2).2).1 cc4
  ·
    intro T16 H17 c18
    refine G.ifNo H17 D8_6 (pc' := 9) rfl (by decide) ?_
    refine G.aloadN H17 D8_9 (pc' := 10) rfl rfl rfl ?_
    refine G.ldcS H17 trivial (wS V) (wd43 V) (by decide) (vs := [(.int 67), (.int 79), (.int 78), (.int 78), (.int 69), (.int 67), (.int 84), (.int 69), (.int 68)]) (z := 9) (by decide) (by decide) rfl (n := 36) (by decide) (by decide) (by decide) (by decide) D8_10 (pc' := 12) rfl ?_
    intro T19 h19_ a20 b22 k23 H19 E21 X24 F25 F26 A27 Q28
    have S29 : Str Z h19_ a20 b22 k23 [67, 79, 78, 78, 69, 67, 84, 69, 68] := ⟨X24, F25, F26, A27, by decide, by decide⟩
    have F30 := (Str.ext E21 F12)
    refine G.strEq H19 (strwEq V) (wd7 V) (wd32 V) (wd33 V) (wd35 V) (wd34 V) F30 S29 (hv0 V) (hv1 V) (rest := []) (W := 0) rfl rfl D8_12 (pc' := 15) rfl (by decide) (by decide) (by decide) (by decide) ?_ ?_
    ·
      intro T31 H32 c33
      exact absurd c33 (by intro qq; simp at qq)
    ·
      intro T34 H35 c36
      refine G.ifNo H35 D8_15 (pc' := 18) rfl (by decide) ?_
      refine G.iconst H35 D8_18 (pc' := 19) rfl (v := 1) rfl ?_
      refine G.goto H35 D8_19 (by decide) (pc' := 23) rfl ?_
      have K37 : Keep h0 h19_ [] := (Keep.ext (Keep.ext (Keep.refl h0 []) E3) E21)
      exact G.retN H35 (t := .boolean) rfl (by decide) D8_23 (so := []) all0 (by decide) (by decide) ⟨c18, rfl, rfl, K37⟩
set_option maxRecDepth 65536 in
set_option maxHeartbeats 40000000 in
theorem m52_apply (V : Env1 Z a0 n0 uu0 uu1) (p0 : Addr) (p1 : Addr) (c0 : ClassId) (x0 : Int32) (x1 : Int32) (x2 : Int32) (x3 : Int32) (x4 : Int32) (x5 : Int32) (x6 : Int32) (x7 : Int32) (x8 : Int32) (h0 : Heap) (hO : Old Z n0 h0) (f0 : Str Z h0 p0 p1 c0 [x0, x1, x2, x3, x4, x5, x6, x7, x8]) (cc1 : x0 = 67) (cc2 : x1 = 79) (cc3 : x2 = 78) (cc4 : ¬ x3 = 78) (cc5 : x4 = 69) (cc6 : x5 = 67) (cc7 : x6 = 84) (cc8 : x7 = 69) (cc9 : x8 = 68) :
    Met Z a0 ELs True n0 l (⟨"bindery/server/stomp/HeaderEscapes", "apply", "(Ljava/lang/String;)Z"⟩ : MethodName) prog_84_method_2_code 1 (Option.some FieldType.boolean) ({ frames := 2, cells := 4, slots := 72, locals := 28 } : Room) #[(.ref p0)] h0 [p0, p1] (fun v h so => (¬ [x0, x1, x2, x3, x4, x5, x6, x7, x8] = [67, 79, 78, 78, 69, 67, 84, 69, 68] ∧ v = some (.int 1) ∧ so = [] ∧ Keep h0 h [])) := by
  refine Met.of (EWl V) (by first | decide +kernel | rfl) hO (L0 := #[.val (.ref p0)]) rfl ?_
  intro p e s m below meth c T H
  show Go p e below _ (T.setTop (mkF m 0 #[.val (.ref p0)] []))
  refine G.aloadN H D8_0 (pc' := 1) rfl rfl rfl ?_
  refine G.ldcS H trivial (wS V) (wd31 V) (by decide) (vs := [(.int 67), (.int 79), (.int 78), (.int 78), (.int 69), (.int 67), (.int 84)]) (z := 7) (by decide) (by decide) rfl (n := 28) (by decide) (by decide) (by decide) (by decide) D8_1 (pc' := 3) rfl ?_
  intro T1 h1_ a2 b4 k5 H1 E3 X6 F7 F8 A9 Q10
  have S11 : Str Z h1_ a2 b4 k5 [67, 79, 78, 78, 69, 67, 84] := ⟨X6, F7, F8, A9, by decide, by decide⟩
  have F12 := (Str.ext E3 f0)
  refine G.strEq H1 (strwEq V) (wd7 V) (wd32 V) (wd33 V) (wd35 V) (wd34 V) F12 S11 (hv0 V) (hv1 V) (rest := []) (W := 0) rfl rfl D8_3 (pc' := 6) rfl (by decide) (by decide) (by decide) (by decide) ?_ ?_
  ·
    intro T13 H14 c15
    exact absurd c15 (by intro qq; simp at qq)
  ·
    intro T16 H17 c18
    refine G.ifNo H17 D8_6 (pc' := 9) rfl (by decide) ?_
    refine G.aloadN H17 D8_9 (pc' := 10) rfl rfl rfl ?_
    refine G.ldcS H17 trivial (wS V) (wd43 V) (by decide) (vs := [(.int 67), (.int 79), (.int 78), (.int 78), (.int 69), (.int 67), (.int 84), (.int 69), (.int 68)]) (z := 9) (by decide) (by decide) rfl (n := 36) (by decide) (by decide) (by decide) (by decide) D8_10 (pc' := 12) rfl ?_
    intro T19 h19_ a20 b22 k23 H19 E21 X24 F25 F26 A27 Q28
    have S29 : Str Z h19_ a20 b22 k23 [67, 79, 78, 78, 69, 67, 84, 69, 68] := ⟨X24, F25, F26, A27, by decide, by decide⟩
    have F30 := (Str.ext E21 F12)
    refine G.strEq H19 (strwEq V) (wd7 V) (wd32 V) (wd33 V) (wd35 V) (wd34 V) F30 S29 (hv0 V) (hv1 V) (rest := []) (W := 0) rfl rfl D8_12 (pc' := 15) rfl (by decide) (by decide) (by decide) (by decide) ?_ ?_
    ·
      intro T31 H32 c33
      exact absurd (List.cons.inj (List.cons.inj (List.cons.inj (List.cons.inj c33).2).2).2).1 cc4
    ·
      intro T34 H35 c36
      refine G.ifNo H35 D8_15 (pc' := 18) rfl (by decide) ?_
      refine G.iconst H35 D8_18 (pc' := 19) rfl (v := 1) rfl ?_
      refine G.goto H35 D8_19 (by decide) (pc' := 23) rfl ?_
      have K37 : Keep h0 h19_ [] := (Keep.ext (Keep.ext (Keep.refl h0 []) E3) E21)
      exact G.retN H35 (t := .boolean) rfl (by decide) D8_23 (so := []) all0 (by decide) (by decide) ⟨c36, rfl, rfl, K37⟩
set_option maxRecDepth 65536 in
set_option maxHeartbeats 40000000 in
theorem cut53_101 (V : Env1 Z a0 n0 uu0 uu1) (x90101 : Int32) (x70000 : Int32) (x70001 : Int32) (x70002 : Int32) (x70003 : Int32) (x2 : Int32) (x70007 : Int32) (p0 : Addr) (c0 : ClassId) (e0 : Int32) (e1 : Int32) (e2 : Int32) (e3 : Int32) (e4 : Int32) (e5 : Int32) (e6 : Int32) (e7 : Int32) (e8 : Int32) (e9 : Int32) (x3 : Int32) (H : Hs p l e room_1 s m as' below meth c Z a0 ELs True x.cls n0 code maxLocals ret x.name T h0 1 10 []) (re0 : ¬ e0 < 0 ∧ ¬ 255 < e0) (qe0 : e0 = 67) (re1 : ¬ e1 < 0 ∧ ¬ 255 < e1) (qe1 : e1 = 79) (re2 : ¬ e2 < 0 ∧ ¬ 255 < e2) (qe2 : e2 = 78) (re3 : ¬ e3 < 0 ∧ ¬ 255 < e3) (qe3 : e3 = (x2 &&& 255)) (re4 : ¬ e4 < 0 ∧ ¬ 255 < e4) (qe4 : e4 = 69) (re5 : ¬ e5 < 0 ∧ ¬ 255 < e5) (qe5 : e5 = 67) (re6 : ¬ e6 < 0 ∧ ¬ 255 < e6) (qe6 : e6 = 84) (re7 : ¬ e7 < 0 ∧ ¬ 255 < e7) (qe7 : e7 = 69) (re8 : ¬ e8 < 0 ∧ ¬ 255 < e8) (qe8 : e8 = 68) (re9 : ¬ e9 < 0 ∧ ¬ 255 < e9) (qe9 : e9 = (x3 &&& 255)) (fA8 : Arv Z h0 p0 c0 .char 10 [(.int e0), (.int e1), (.int e2), (.int e3), (.int e4), (.int e5), (.int e6), (.int e7), (.int e8), (.int e9)] (.int 0)) (sp : x90101 = 0 ∨ x90101 = 1 ∨ x90101 = 2 ∨ x90101 = 3 ∨ x90101 = 4 ∨ x90101 = 5 ∨ x90101 = 6 ∨ x90101 = 7 ∨ x90101 = 8 ∨ x90101 = 9 ∨ x90101 = 10) :
    Go p e below (FinP s below Z ELs True n0 room_1.cells room_1.slots (fun v h so => v = some (.int 1))) (T.setTop (mkF m 101 #[.val (.int x70000), .val (.int x70001), .val (.int x70002), .val (.int x70003), .val (.int x90101), .val (.int 3), .val (.int (x2 &&& 255)), .val (.int x70007), .val (.ref p0), .unset, .unset] [])) := by
  rcases sp with rfl | rfl | rfl | rfl | rfl | rfl | rfl | rfl | rfl | rfl | rfl
  ·
    refine G.aload H at_101 (pc' := 103) rfl rfl rfl ?_
    refine G.iload H at_103 (pc' := 105) rfl rfl ?_
    refine G.callS H (m3_cut V p0 h0 H.old) (wd2 V) (wd3 V) (wd4 V) (wd5 V) (by decide) (argsL := [(.ref p0), (.int 0)]) (rest := []) (W := 0) rfl rfl (lenOf (pd_2) rfl) rfl rfl at_105 (pc' := 108) rfl (by decide) (by decide) (by decide) (by decide) all0 ?_
    intro T1 h1_ v2 s3 H1 Q4
    obtain ⟨a5, a6, k7, rfl, rfl, K8, g9, F10, F11, F12, F13⟩ := Q4
    have na5 : n0 ≤ a5 := Nat.le_trans H.le g9
    show Go p e below _ (T1.setTop (mkF m 108 #[.val (.int x70000), .val (.int x70001), .val (.int x70002), .val (.int x70003), .val (.int 0), .val (.int 3), .val (.int (x2 &&& 255)), .val (.int x70007), .val (.ref p0), .unset, .unset] [(.ref a5)]))
    refine G.astore H1 (L' := #[.val (.int x70000), .val (.int x70001), .val (.int x70002), .val (.int x70003), .val (.int 0), .val (.int 3), .val (.int (x2 &&& 255)), .val (.int x70007), .val (.ref p0), .val (.ref a5), .unset]) at_108 (pc' := 110) rfl rfl rfl ?_
    refine G.iload H1 at_110 (pc' := 112) rfl rfl ?_
    refine G.bipush H1 at_112 (pc' := 114) rfl (v := 7) rfl ?_
    refine G.icmpNo H1 at_114 (pc' := 117) rfl (by decide) ?_
    refine G.iload H1 at_117 (pc' := 119) rfl rfl ?_
    refine G.bipush H1 at_119 (pc' := 121) rfl (v := 9) rfl ?_
    refine G.icmpYes H1 at_121 (by decide) (by decide) (pc' := 147) rfl ?_
    refine G.iconst H1 at_147 (pc' := 148) rfl (v := 0) rfl ?_
    refine G.istore H1 (L' := #[.val (.int x70000), .val (.int x70001), .val (.int x70002), .val (.int x70003), .val (.int 0), .val (.int 3), .val (.int (x2 &&& 255)), .val (.int x70007), .val (.ref p0), .val (.ref a5), .val (.int 0)]) at_148 (pc' := 150) rfl rfl ?_
    refine G.aload H1 at_150 (pc' := 152) rfl rfl rfl ?_
    have S14 : Str Z h1_ a5 a6 k7 [] := ⟨F10, F12, F11, F13, cb0, Nat.le_of_ble_eq_true rfl⟩
    refine G.callS H1 (m4_apply V a5 a6 k7 h1_ H1.old S14) (wd27 V) (wd28 V) (wd29 V) (wd30 V) (by decide) (argsL := [(.ref a5)]) (rest := []) (W := 0) rfl rfl (lenOf (pd_3) rfl) rfl rfl at_152 (pc' := 155) rfl (by decide) (by decide) (by decide) (by decide) (allS (mG (i := 0) rfl) all0) ?_
    intro T15 h15_ v16 s17 H15 Q18
    obtain ⟨rfl, rfl, K19⟩ := Q18
    show Go p e below _ (T15.setTop (mkF m 155 #[.val (.int x70000), .val (.int x70001), .val (.int x70002), .val (.int x70003), .val (.int 0), .val (.int 3), .val (.int (x2 &&& 255)), .val (.int x70007), .val (.ref p0), .val (.ref a5), .val (.int 0)] [(.int 1)]))
    refine G.iload H15 at_155 (pc' := 157) rfl rfl ?_
    refine G.ifNo H15 at_157 (pc' := 160) rfl (by decide) ?_
    refine G.iconst H15 at_160 (pc' := 161) rfl (v := 1) rfl ?_
    refine G.goto H15 at_161 (by decide) (pc' := 165) rfl ?_
    refine G.icmpNo H15 at_165 (pc' := 168) rfl (by decide) ?_
    refine G.iconst H15 at_168 (pc' := 169) rfl (v := 1) rfl ?_
    refine G.goto H15 at_169 (by decide) (pc' := 173) rfl ?_
    exact G.retN H15 (t := .boolean) rfl (by decide) at_173 (so := []) all0 (by decide) (by decide) rfl
  ·
    refine G.aload H at_101 (pc' := 103) rfl rfl rfl ?_
    refine G.iload H at_103 (pc' := 105) rfl rfl ?_
    refine G.callS H (m5_cut V p0 c0 e0 e1 e2 e3 e4 e5 e6 e7 e8 e9 h0 H.old fA8 (own_u16 re0) re0) (wd2 V) (wd3 V) (wd4 V) (wd5 V) (by decide) (argsL := [(.ref p0), (.int 1)]) (rest := []) (W := 0) rfl rfl (lenOf (pd_2) rfl) rfl rfl at_105 (pc' := 108) rfl (by decide) (by decide) (by decide) (by decide) all0 ?_
    intro T20 h20_ v21 s22 H20 Q23
    obtain ⟨a24, a25, k26, rfl, rfl, K27, g28, g29, F30⟩ := Q23
    have na24 : n0 ≤ a24 := Nat.le_trans H.le g28
    have na25 : n0 ≤ a25 := Nat.le_trans H.le (Nat.le_of_lt (Nat.lt_of_le_of_lt g28 g29))
    show Go p e below _ (T20.setTop (mkF m 108 #[.val (.int x70000), .val (.int x70001), .val (.int x70002), .val (.int x70003), .val (.int 1), .val (.int 3), .val (.int (x2 &&& 255)), .val (.int x70007), .val (.ref p0), .unset, .unset] [(.ref a24)]))
    refine G.astore H20 (L' := #[.val (.int x70000), .val (.int x70001), .val (.int x70002), .val (.int x70003), .val (.int 1), .val (.int 3), .val (.int (x2 &&& 255)), .val (.int x70007), .val (.ref p0), .val (.ref a24), .unset]) at_108 (pc' := 110) rfl rfl rfl ?_
    refine G.iload H20 at_110 (pc' := 112) rfl rfl ?_
    refine G.bipush H20 at_112 (pc' := 114) rfl (v := 7) rfl ?_
    refine G.icmpNo H20 at_114 (pc' := 117) rfl (by decide) ?_
    refine G.iload H20 at_117 (pc' := 119) rfl rfl ?_
    refine G.bipush H20 at_119 (pc' := 121) rfl (v := 9) rfl ?_
    refine G.icmpYes H20 at_121 (by decide) (by decide) (pc' := 147) rfl ?_
    refine G.iconst H20 at_147 (pc' := 148) rfl (v := 0) rfl ?_
    refine G.istore H20 (L' := #[.val (.int x70000), .val (.int x70001), .val (.int x70002), .val (.int x70003), .val (.int 1), .val (.int 3), .val (.int (x2 &&& 255)), .val (.int x70007), .val (.ref p0), .val (.ref a24), .val (.int 0)]) at_148 (pc' := 150) rfl rfl ?_
    refine G.aload H20 at_150 (pc' := 152) rfl rfl rfl ?_
    refine G.callS H20 (m6_apply V a24 a25 k26 e0 h20_ H20.old F30) (wd27 V) (wd28 V) (wd29 V) (wd30 V) (by decide) (argsL := [(.ref a24)]) (rest := []) (W := 0) rfl rfl (lenOf (pd_3) rfl) rfl rfl at_152 (pc' := 155) rfl (by decide) (by decide) (by decide) (by decide) (allS (mG (i := 0) rfl) (allS (mG (i := 1) rfl) all0)) ?_
    intro T31 h31_ v32 s33 H31 Q34
    obtain ⟨rfl, rfl, K35⟩ := Q34
    show Go p e below _ (T31.setTop (mkF m 155 #[.val (.int x70000), .val (.int x70001), .val (.int x70002), .val (.int x70003), .val (.int 1), .val (.int 3), .val (.int (x2 &&& 255)), .val (.int x70007), .val (.ref p0), .val (.ref a24), .val (.int 0)] [(.int 1)]))
    refine G.iload H31 at_155 (pc' := 157) rfl rfl ?_
    refine G.ifNo H31 at_157 (pc' := 160) rfl (by decide) ?_
    refine G.iconst H31 at_160 (pc' := 161) rfl (v := 1) rfl ?_
    refine G.goto H31 at_161 (by decide) (pc' := 165) rfl ?_
    refine G.icmpNo H31 at_165 (pc' := 168) rfl (by decide) ?_
    refine G.iconst H31 at_168 (pc' := 169) rfl (v := 1) rfl ?_
    refine G.goto H31 at_169 (by decide) (pc' := 173) rfl ?_
    exact G.retN H31 (t := .boolean) rfl (by decide) at_173 (so := []) all0 (by decide) (by decide) rfl
  ·
    refine G.aload H at_101 (pc' := 103) rfl rfl rfl ?_
    refine G.iload H at_103 (pc' := 105) rfl rfl ?_
    refine G.callS H (m7_cut V p0 c0 e0 e1 e2 e3 e4 e5 e6 e7 e8 e9 h0 H.old fA8 (own_u16 re0) (own_u16 re1) re1 re0) (wd2 V) (wd3 V) (wd4 V) (wd5 V) (by decide) (argsL := [(.ref p0), (.int 2)]) (rest := []) (W := 0) rfl rfl (lenOf (pd_2) rfl) rfl rfl at_105 (pc' := 108) rfl (by decide) (by decide) (by decide) (by decide) all0 ?_
    intro T36 h36_ v37 s38 H36 Q39
    obtain ⟨a40, a41, k42, rfl, rfl, K43, g44, g45, F46⟩ := Q39
    have na40 : n0 ≤ a40 := Nat.le_trans H.le g44
    have na41 : n0 ≤ a41 := Nat.le_trans H.le (Nat.le_of_lt (Nat.lt_of_le_of_lt g44 g45))
    show Go p e below _ (T36.setTop (mkF m 108 #[.val (.int x70000), .val (.int x70001), .val (.int x70002), .val (.int x70003), .val (.int 2), .val (.int 3), .val (.int (x2 &&& 255)), .val (.int x70007), .val (.ref p0), .unset, .unset] [(.ref a40)]))
    refine G.astore H36 (L' := #[.val (.int x70000), .val (.int x70001), .val (.int x70002), .val (.int x70003), .val (.int 2), .val (.int 3), .val (.int (x2 &&& 255)), .val (.int x70007), .val (.ref p0), .val (.ref a40), .unset]) at_108 (pc' := 110) rfl rfl rfl ?_
    refine G.iload H36 at_110 (pc' := 112) rfl rfl ?_
    refine G.bipush H36 at_112 (pc' := 114) rfl (v := 7) rfl ?_
    refine G.icmpNo H36 at_114 (pc' := 117) rfl (by decide) ?_
    refine G.iload H36 at_117 (pc' := 119) rfl rfl ?_
    refine G.bipush H36 at_119 (pc' := 121) rfl (v := 9) rfl ?_
    refine G.icmpYes H36 at_121 (by decide) (by decide) (pc' := 147) rfl ?_
    refine G.iconst H36 at_147 (pc' := 148) rfl (v := 0) rfl ?_
    refine G.istore H36 (L' := #[.val (.int x70000), .val (.int x70001), .val (.int x70002), .val (.int x70003), .val (.int 2), .val (.int 3), .val (.int (x2 &&& 255)), .val (.int x70007), .val (.ref p0), .val (.ref a40), .val (.int 0)]) at_148 (pc' := 150) rfl rfl ?_
    refine G.aload H36 at_150 (pc' := 152) rfl rfl rfl ?_
    refine G.callS H36 (m8_apply V a40 a41 k42 e0 e1 h36_ H36.old F46) (wd27 V) (wd28 V) (wd29 V) (wd30 V) (by decide) (argsL := [(.ref a40)]) (rest := []) (W := 0) rfl rfl (lenOf (pd_3) rfl) rfl rfl at_152 (pc' := 155) rfl (by decide) (by decide) (by decide) (by decide) (allS (mG (i := 0) rfl) (allS (mG (i := 1) rfl) all0)) ?_
    intro T47 h47_ v48 s49 H47 Q50
    obtain ⟨rfl, rfl, K51⟩ := Q50
    show Go p e below _ (T47.setTop (mkF m 155 #[.val (.int x70000), .val (.int x70001), .val (.int x70002), .val (.int x70003), .val (.int 2), .val (.int 3), .val (.int (x2 &&& 255)), .val (.int x70007), .val (.ref p0), .val (.ref a40), .val (.int 0)] [(.int 1)]))
    refine G.iload H47 at_155 (pc' := 157) rfl rfl ?_
    refine G.ifNo H47 at_157 (pc' := 160) rfl (by decide) ?_
    refine G.iconst H47 at_160 (pc' := 161) rfl (v := 1) rfl ?_
    refine G.goto H47 at_161 (by decide) (pc' := 165) rfl ?_
    refine G.icmpNo H47 at_165 (pc' := 168) rfl (by decide) ?_
    refine G.iconst H47 at_168 (pc' := 169) rfl (v := 1) rfl ?_
    refine G.goto H47 at_169 (by decide) (pc' := 173) rfl ?_
    exact G.retN H47 (t := .boolean) rfl (by decide) at_173 (so := []) all0 (by decide) (by decide) rfl
  ·
    refine G.aload H at_101 (pc' := 103) rfl rfl rfl ?_
    refine G.iload H at_103 (pc' := 105) rfl rfl ?_
    refine G.callS H (m9_cut V p0 c0 e0 e1 e2 e3 e4 e5 e6 e7 e8 e9 h0 H.old fA8 (own_u16 re0) (own_u16 re1) (own_u16 re2) re2 re1 re0) (wd2 V) (wd3 V) (wd4 V) (wd5 V) (by decide) (argsL := [(.ref p0), (.int 3)]) (rest := []) (W := 0) rfl rfl (lenOf (pd_2) rfl) rfl rfl at_105 (pc' := 108) rfl (by decide) (by decide) (by decide) (by decide) all0 ?_
    intro T52 h52_ v53 s54 H52 Q55
    obtain ⟨a56, a57, k58, rfl, rfl, K59, g60, g61, F62⟩ := Q55
    have na56 : n0 ≤ a56 := Nat.le_trans H.le g60
    have na57 : n0 ≤ a57 := Nat.le_trans H.le (Nat.le_of_lt (Nat.lt_of_le_of_lt g60 g61))
    show Go p e below _ (T52.setTop (mkF m 108 #[.val (.int x70000), .val (.int x70001), .val (.int x70002), .val (.int x70003), .val (.int 3), .val (.int 3), .val (.int (x2 &&& 255)), .val (.int x70007), .val (.ref p0), .unset, .unset] [(.ref a56)]))
    refine G.astore H52 (L' := #[.val (.int x70000), .val (.int x70001), .val (.int x70002), .val (.int x70003), .val (.int 3), .val (.int 3), .val (.int (x2 &&& 255)), .val (.int x70007), .val (.ref p0), .val (.ref a56), .unset]) at_108 (pc' := 110) rfl rfl rfl ?_
    refine G.iload H52 at_110 (pc' := 112) rfl rfl ?_
    refine G.bipush H52 at_112 (pc' := 114) rfl (v := 7) rfl ?_
    refine G.icmpNo H52 at_114 (pc' := 117) rfl (by decide) ?_
    refine G.iload H52 at_117 (pc' := 119) rfl rfl ?_
    refine G.bipush H52 at_119 (pc' := 121) rfl (v := 9) rfl ?_
    refine G.icmpYes H52 at_121 (by decide) (by decide) (pc' := 147) rfl ?_
    refine G.iconst H52 at_147 (pc' := 148) rfl (v := 0) rfl ?_
    refine G.istore H52 (L' := #[.val (.int x70000), .val (.int x70001), .val (.int x70002), .val (.int x70003), .val (.int 3), .val (.int 3), .val (.int (x2 &&& 255)), .val (.int x70007), .val (.ref p0), .val (.ref a56), .val (.int 0)]) at_148 (pc' := 150) rfl rfl ?_
    refine G.aload H52 at_150 (pc' := 152) rfl rfl rfl ?_
    refine G.callS H52 (m10_apply V a56 a57 k58 e0 e1 e2 h52_ H52.old F62) (wd27 V) (wd28 V) (wd29 V) (wd30 V) (by decide) (argsL := [(.ref a56)]) (rest := []) (W := 0) rfl rfl (lenOf (pd_3) rfl) rfl rfl at_152 (pc' := 155) rfl (by decide) (by decide) (by decide) (by decide) (allS (mG (i := 0) rfl) (allS (mG (i := 1) rfl) all0)) ?_
    intro T63 h63_ v64 s65 H63 Q66
    obtain ⟨rfl, rfl, K67⟩ := Q66
    show Go p e below _ (T63.setTop (mkF m 155 #[.val (.int x70000), .val (.int x70001), .val (.int x70002), .val (.int x70003), .val (.int 3), .val (.int 3), .val (.int (x2 &&& 255)), .val (.int x70007), .val (.ref p0), .val (.ref a56), .val (.int 0)] [(.int 1)]))
    refine G.iload H63 at_155 (pc' := 157) rfl rfl ?_
    refine G.ifNo H63 at_157 (pc' := 160) rfl (by decide) ?_
    refine G.iconst H63 at_160 (pc' := 161) rfl (v := 1) rfl ?_
    refine G.goto H63 at_161 (by decide) (pc' := 165) rfl ?_
    refine G.icmpNo H63 at_165 (pc' := 168) rfl (by decide) ?_
    refine G.iconst H63 at_168 (pc' := 169) rfl (v := 1) rfl ?_
    refine G.goto H63 at_169 (by decide) (pc' := 173) rfl ?_
    exact G.retN H63 (t := .boolean) rfl (by decide) at_173 (so := []) all0 (by decide) (by decide) rfl
  ·
    refine G.aload H at_101 (pc' := 103) rfl rfl rfl ?_
    refine G.iload H at_103 (pc' := 105) rfl rfl ?_
    refine G.callS H (m11_cut V p0 c0 e0 e1 e2 e3 e4 e5 e6 e7 e8 e9 h0 H.old fA8 (own_u16 re0) (own_u16 re1) (own_u16 re2) (own_u16 re3) re3 re2 re1 re0) (wd2 V) (wd3 V) (wd4 V) (wd5 V) (by decide) (argsL := [(.ref p0), (.int 4)]) (rest := []) (W := 0) rfl rfl (lenOf (pd_2) rfl) rfl rfl at_105 (pc' := 108) rfl (by decide) (by decide) (by decide) (by decide) all0 ?_
    intro T68 h68_ v69 s70 H68 Q71
    obtain ⟨a72, a73, k74, rfl, rfl, K75, g76, g77, F78⟩ := Q71
    have na72 : n0 ≤ a72 := Nat.le_trans H.le g76
    have na73 : n0 ≤ a73 := Nat.le_trans H.le (Nat.le_of_lt (Nat.lt_of_le_of_lt g76 g77))
    show Go p e below _ (T68.setTop (mkF m 108 #[.val (.int x70000), .val (.int x70001), .val (.int x70002), .val (.int x70003), .val (.int 4), .val (.int 3), .val (.int (x2 &&& 255)), .val (.int x70007), .val (.ref p0), .unset, .unset] [(.ref a72)]))
    refine G.astore H68 (L' := #[.val (.int x70000), .val (.int x70001), .val (.int x70002), .val (.int x70003), .val (.int 4), .val (.int 3), .val (.int (x2 &&& 255)), .val (.int x70007), .val (.ref p0), .val (.ref a72), .unset]) at_108 (pc' := 110) rfl rfl rfl ?_
    refine G.iload H68 at_110 (pc' := 112) rfl rfl ?_
    refine G.bipush H68 at_112 (pc' := 114) rfl (v := 7) rfl ?_
    refine G.icmpNo H68 at_114 (pc' := 117) rfl (by decide) ?_
    refine G.iload H68 at_117 (pc' := 119) rfl rfl ?_
    refine G.bipush H68 at_119 (pc' := 121) rfl (v := 9) rfl ?_
    refine G.icmpYes H68 at_121 (by decide) (by decide) (pc' := 147) rfl ?_
    refine G.iconst H68 at_147 (pc' := 148) rfl (v := 0) rfl ?_
    refine G.istore H68 (L' := #[.val (.int x70000), .val (.int x70001), .val (.int x70002), .val (.int x70003), .val (.int 4), .val (.int 3), .val (.int (x2 &&& 255)), .val (.int x70007), .val (.ref p0), .val (.ref a72), .val (.int 0)]) at_148 (pc' := 150) rfl rfl ?_
    refine G.aload H68 at_150 (pc' := 152) rfl rfl rfl ?_
    refine G.callS H68 (m12_apply V a72 a73 k74 e0 e1 e2 e3 h68_ H68.old F78) (wd27 V) (wd28 V) (wd29 V) (wd30 V) (by decide) (argsL := [(.ref a72)]) (rest := []) (W := 0) rfl rfl (lenOf (pd_3) rfl) rfl rfl at_152 (pc' := 155) rfl (by decide) (by decide) (by decide) (by decide) (allS (mG (i := 0) rfl) (allS (mG (i := 1) rfl) all0)) ?_
    intro T79 h79_ v80 s81 H79 Q82
    obtain ⟨rfl, rfl, K83⟩ := Q82
    show Go p e below _ (T79.setTop (mkF m 155 #[.val (.int x70000), .val (.int x70001), .val (.int x70002), .val (.int x70003), .val (.int 4), .val (.int 3), .val (.int (x2 &&& 255)), .val (.int x70007), .val (.ref p0), .val (.ref a72), .val (.int 0)] [(.int 1)]))
    refine G.iload H79 at_155 (pc' := 157) rfl rfl ?_
    refine G.ifNo H79 at_157 (pc' := 160) rfl (by decide) ?_
    refine G.iconst H79 at_160 (pc' := 161) rfl (v := 1) rfl ?_
    refine G.goto H79 at_161 (by decide) (pc' := 165) rfl ?_
    refine G.icmpNo H79 at_165 (pc' := 168) rfl (by decide) ?_
    refine G.iconst H79 at_168 (pc' := 169) rfl (v := 1) rfl ?_
    refine G.goto H79 at_169 (by decide) (pc' := 173) rfl ?_
    exact G.retN H79 (t := .boolean) rfl (by decide) at_173 (so := []) all0 (by decide) (by decide) rfl
  ·
    refine G.aload H at_101 (pc' := 103) rfl rfl rfl ?_
    refine G.iload H at_103 (pc' := 105) rfl rfl ?_
    refine G.callS H (m13_cut V p0 c0 e0 e1 e2 e3 e4 e5 e6 e7 e8 e9 h0 H.old fA8 (own_u16 re0) (own_u16 re1) (own_u16 re2) (own_u16 re3) (own_u16 re4) re4 re3 re2 re1 re0) (wd2 V) (wd3 V) (wd4 V) (wd5 V) (by decide) (argsL := [(.ref p0), (.int 5)]) (rest := []) (W := 0) rfl rfl (lenOf (pd_2) rfl) rfl rfl at_105 (pc' := 108) rfl (by decide) (by decide) (by decide) (by decide) all0 ?_
    intro T84 h84_ v85 s86 H84 Q87
    obtain ⟨a88, a89, k90, rfl, rfl, K91, g92, g93, F94⟩ := Q87
    have na88 : n0 ≤ a88 := Nat.le_trans H.le g92
    have na89 : n0 ≤ a89 := Nat.le_trans H.le (Nat.le_of_lt (Nat.lt_of_le_of_lt g92 g93))
    show Go p e below _ (T84.setTop (mkF m 108 #[.val (.int x70000), .val (.int x70001), .val (.int x70002), .val (.int x70003), .val (.int 5), .val (.int 3), .val (.int (x2 &&& 255)), .val (.int x70007), .val (.ref p0), .unset, .unset] [(.ref a88)]))
    refine G.astore H84 (L' := #[.val (.int x70000), .val (.int x70001), .val (.int x70002), .val (.int x70003), .val (.int 5), .val (.int 3), .val (.int (x2 &&& 255)), .val (.int x70007), .val (.ref p0), .val (.ref a88), .unset]) at_108 (pc' := 110) rfl rfl rfl ?_
    refine G.iload H84 at_110 (pc' := 112) rfl rfl ?_
    refine G.bipush H84 at_112 (pc' := 114) rfl (v := 7) rfl ?_
    refine G.icmpNo H84 at_114 (pc' := 117) rfl (by decide) ?_
    refine G.iload H84 at_117 (pc' := 119) rfl rfl ?_
    refine G.bipush H84 at_119 (pc' := 121) rfl (v := 9) rfl ?_
    refine G.icmpYes H84 at_121 (by decide) (by decide) (pc' := 147) rfl ?_
    refine G.iconst H84 at_147 (pc' := 148) rfl (v := 0) rfl ?_
    refine G.istore H84 (L' := #[.val (.int x70000), .val (.int x70001), .val (.int x70002), .val (.int x70003), .val (.int 5), .val (.int 3), .val (.int (x2 &&& 255)), .val (.int x70007), .val (.ref p0), .val (.ref a88), .val (.int 0)]) at_148 (pc' := 150) rfl rfl ?_
    refine G.aload H84 at_150 (pc' := 152) rfl rfl rfl ?_
    refine G.callS H84 (m14_apply V a88 a89 k90 e0 e1 e2 e3 e4 h84_ H84.old F94) (wd27 V) (wd28 V) (wd29 V) (wd30 V) (by decide) (argsL := [(.ref a88)]) (rest := []) (W := 0) rfl rfl (lenOf (pd_3) rfl) rfl rfl at_152 (pc' := 155) rfl (by decide) (by decide) (by decide) (by decide) (allS (mG (i := 0) rfl) (allS (mG (i := 1) rfl) all0)) ?_
    intro T95 h95_ v96 s97 H95 Q98
    obtain ⟨rfl, rfl, K99⟩ := Q98
    show Go p e below _ (T95.setTop (mkF m 155 #[.val (.int x70000), .val (.int x70001), .val (.int x70002), .val (.int x70003), .val (.int 5), .val (.int 3), .val (.int (x2 &&& 255)), .val (.int x70007), .val (.ref p0), .val (.ref a88), .val (.int 0)] [(.int 1)]))
    refine G.iload H95 at_155 (pc' := 157) rfl rfl ?_
    refine G.ifNo H95 at_157 (pc' := 160) rfl (by decide) ?_
    refine G.iconst H95 at_160 (pc' := 161) rfl (v := 1) rfl ?_
    refine G.goto H95 at_161 (by decide) (pc' := 165) rfl ?_
    refine G.icmpNo H95 at_165 (pc' := 168) rfl (by decide) ?_
    refine G.iconst H95 at_168 (pc' := 169) rfl (v := 1) rfl ?_
    refine G.goto H95 at_169 (by decide) (pc' := 173) rfl ?_
    exact G.retN H95 (t := .boolean) rfl (by decide) at_173 (so := []) all0 (by decide) (by decide) rfl
  ·
    refine G.aload H at_101 (pc' := 103) rfl rfl rfl ?_
    refine G.iload H at_103 (pc' := 105) rfl rfl ?_
    refine G.callS H (m15_cut V p0 c0 e0 e1 e2 e3 e4 e5 e6 e7 e8 e9 h0 H.old fA8 (own_u16 re0) (own_u16 re1) (own_u16 re2) (own_u16 re3) (own_u16 re4) (own_u16 re5) re5 re4 re3 re2 re1 re0) (wd2 V) (wd3 V) (wd4 V) (wd5 V) (by decide) (argsL := [(.ref p0), (.int 6)]) (rest := []) (W := 0) rfl rfl (lenOf (pd_2) rfl) rfl rfl at_105 (pc' := 108) rfl (by decide) (by decide) (by decide) (by decide) all0 ?_
    intro T100 h100_ v101 s102 H100 Q103
    obtain ⟨a104, a105, k106, rfl, rfl, K107, g108, g109, F110⟩ := Q103
    have na104 : n0 ≤ a104 := Nat.le_trans H.le g108
    have na105 : n0 ≤ a105 := Nat.le_trans H.le (Nat.le_of_lt (Nat.lt_of_le_of_lt g108 g109))
    show Go p e below _ (T100.setTop (mkF m 108 #[.val (.int x70000), .val (.int x70001), .val (.int x70002), .val (.int x70003), .val (.int 6), .val (.int 3), .val (.int (x2 &&& 255)), .val (.int x70007), .val (.ref p0), .unset, .unset] [(.ref a104)]))
    refine G.astore H100 (L' := #[.val (.int x70000), .val (.int x70001), .val (.int x70002), .val (.int x70003), .val (.int 6), .val (.int 3), .val (.int (x2 &&& 255)), .val (.int x70007), .val (.ref p0), .val (.ref a104), .unset]) at_108 (pc' := 110) rfl rfl rfl ?_
    refine G.iload H100 at_110 (pc' := 112) rfl rfl ?_
    refine G.bipush H100 at_112 (pc' := 114) rfl (v := 7) rfl ?_
    refine G.icmpNo H100 at_114 (pc' := 117) rfl (by decide) ?_
    refine G.iload H100 at_117 (pc' := 119) rfl rfl ?_
    refine G.bipush H100 at_119 (pc' := 121) rfl (v := 9) rfl ?_
    refine G.icmpYes H100 at_121 (by decide) (by decide) (pc' := 147) rfl ?_
    refine G.iconst H100 at_147 (pc' := 148) rfl (v := 0) rfl ?_
    refine G.istore H100 (L' := #[.val (.int x70000), .val (.int x70001), .val (.int x70002), .val (.int x70003), .val (.int 6), .val (.int 3), .val (.int (x2 &&& 255)), .val (.int x70007), .val (.ref p0), .val (.ref a104), .val (.int 0)]) at_148 (pc' := 150) rfl rfl ?_
    refine G.aload H100 at_150 (pc' := 152) rfl rfl rfl ?_
    refine G.callS H100 (m16_apply V a104 a105 k106 e0 e1 e2 e3 e4 e5 h100_ H100.old F110) (wd27 V) (wd28 V) (wd29 V) (wd30 V) (by decide) (argsL := [(.ref a104)]) (rest := []) (W := 0) rfl rfl (lenOf (pd_3) rfl) rfl rfl at_152 (pc' := 155) rfl (by decide) (by decide) (by decide) (by decide) (allS (mG (i := 0) rfl) (allS (mG (i := 1) rfl) all0)) ?_
    intro T111 h111_ v112 s113 H111 Q114
    obtain ⟨rfl, rfl, K115⟩ := Q114
    show Go p e below _ (T111.setTop (mkF m 155 #[.val (.int x70000), .val (.int x70001), .val (.int x70002), .val (.int x70003), .val (.int 6), .val (.int 3), .val (.int (x2 &&& 255)), .val (.int x70007), .val (.ref p0), .val (.ref a104), .val (.int 0)] [(.int 1)]))
    refine G.iload H111 at_155 (pc' := 157) rfl rfl ?_
    refine G.ifNo H111 at_157 (pc' := 160) rfl (by decide) ?_
    refine G.iconst H111 at_160 (pc' := 161) rfl (v := 1) rfl ?_
    refine G.goto H111 at_161 (by decide) (pc' := 165) rfl ?_
    refine G.icmpNo H111 at_165 (pc' := 168) rfl (by decide) ?_
    refine G.iconst H111 at_168 (pc' := 169) rfl (v := 1) rfl ?_
    refine G.goto H111 at_169 (by decide) (pc' := 173) rfl ?_
    exact G.retN H111 (t := .boolean) rfl (by decide) at_173 (so := []) all0 (by decide) (by decide) rfl
  ·
    refine G.aload H at_101 (pc' := 103) rfl rfl rfl ?_
    refine G.iload H at_103 (pc' := 105) rfl rfl ?_
    refine G.callS H (m17_cut V p0 c0 e0 e1 e2 e3 e4 e5 e6 e7 e8 e9 h0 H.old fA8 (own_u16 re0) (own_u16 re1) (own_u16 re2) (own_u16 re3) (own_u16 re4) (own_u16 re5) (own_u16 re6) re6 re5 re4 re3 re2 re1 re0) (wd2 V) (wd3 V) (wd4 V) (wd5 V) (by decide) (argsL := [(.ref p0), (.int 7)]) (rest := []) (W := 0) rfl rfl (lenOf (pd_2) rfl) rfl rfl at_105 (pc' := 108) rfl (by decide) (by decide) (by decide) (by decide) all0 ?_
    intro T116 h116_ v117 s118 H116 Q119
    obtain ⟨a120, a121, k122, rfl, rfl, K123, g124, g125, F126⟩ := Q119
    have na120 : n0 ≤ a120 := Nat.le_trans H.le g124
    have na121 : n0 ≤ a121 := Nat.le_trans H.le (Nat.le_of_lt (Nat.lt_of_le_of_lt g124 g125))
    show Go p e below _ (T116.setTop (mkF m 108 #[.val (.int x70000), .val (.int x70001), .val (.int x70002), .val (.int x70003), .val (.int 7), .val (.int 3), .val (.int (x2 &&& 255)), .val (.int x70007), .val (.ref p0), .unset, .unset] [(.ref a120)]))
    refine G.astore H116 (L' := #[.val (.int x70000), .val (.int x70001), .val (.int x70002), .val (.int x70003), .val (.int 7), .val (.int 3), .val (.int (x2 &&& 255)), .val (.int x70007), .val (.ref p0), .val (.ref a120), .unset]) at_108 (pc' := 110) rfl rfl rfl ?_
    refine G.iload H116 at_110 (pc' := 112) rfl rfl ?_
    refine G.bipush H116 at_112 (pc' := 114) rfl (v := 7) rfl ?_
    refine G.icmpYes H116 at_114 (by decide) (by decide) (pc' := 124) rfl ?_
    refine G.iload H116 at_124 (pc' := 126) rfl rfl ?_
    refine G.iload H116 at_126 (pc' := 128) rfl rfl ?_
    refine G.icmpNo H116 at_128 (pc' := 131) rfl (by decide) ?_
    refine G.iload H116 at_131 (pc' := 133) rfl rfl ?_
    refine G.ldcS H116 trivial (wS V) (wd54 V) (by decide) (vs := [(.int 67), (.int 79), (.int 78), (.int 78), (.int 69), (.int 67), (.int 84), (.int 69), (.int 68)]) (z := 9) (by decide) (by decide) rfl (n := 36) (by decide) (by decide) (by decide) (by decide) at_133 (pc' := 135) rfl ?_
    intro T127 h127_ a128 b130 k131 H127 E129 X132 F133 F134 A135 Q136
    have S137 : Str Z h127_ a128 b130 k131 [67, 79, 78, 78, 69, 67, 84, 69, 68] := ⟨X132, F133, F134, A135, by decide, by decide⟩
    refine G.iload H127 at_135 (pc' := 137) rfl rfl ?_
    refine G.callV H127 (m50_charAt V a128 b130 k131 h127_ H127.old X132 F133 F134 A135) (wd55 V) (wd56 V) (nf_sel (wd58 V)) (wd58 V) (wd57 V) (wd8 V) (wd59 V) (by decide) X132 (argsL := [(.int 3)]) (rest := [(.int (x2 &&& 255))]) (W := 1) rfl rfl (lenOf (pd_8) rfl) rfl rfl at_137 (pc' := 140) rfl (by decide) (by decide) (by decide) (by decide) all0 ?_
    intro T138 h138_ v139 s140 H138 Q141
    obtain ⟨rfl, rfl, rfl⟩ := Q141
    show Go p e below _ (T138.setTop (mkF m 140 #[.val (.int x70000), .val (.int x70001), .val (.int x70002), .val (.int x70003), .val (.int 7), .val (.int 3), .val (.int (x2 &&& 255)), .val (.int x70007), .val (.ref p0), .val (.ref a120), .unset] [(.int 78), (.int (x2 &&& 255))]))
    by_cases c142 : (x2 &&& 255) = 78
    ·
      refine G.icmpNo H138 at_140 (pc' := 143) rfl (XT.ii_ne_f c142) ?_
      refine G.iconst H138 at_143 (pc' := 144) rfl (v := 1) rfl ?_
      refine G.goto H138 at_144 (by decide) (pc' := 148) rfl ?_
      refine G.istore H138 (L' := #[.val (.int x70000), .val (.int x70001), .val (.int x70002), .val (.int x70003), .val (.int 7), .val (.int 3), .val (.int (x2 &&& 255)), .val (.int x70007), .val (.ref p0), .val (.ref a120), .val (.int 1)]) at_148 (pc' := 150) rfl rfl ?_
      refine G.aload H138 at_150 (pc' := 152) rfl rfl rfl ?_
      have F143 := (Str.ext E129 F126)
      refine G.callS H138 (m23_apply V a120 a121 k122 e0 e1 e2 e3 e4 e5 e6 h127_ H138.old F143 qe0 qe1 qe2 (Eq.trans qe3 c142) qe4 qe5 qe6) (wd27 V) (wd28 V) (wd29 V) (wd30 V) (by decide) (argsL := [(.ref a120)]) (rest := []) (W := 0) rfl rfl (lenOf (pd_3) rfl) rfl rfl at_152 (pc' := 155) rfl (by decide) (by decide) (by decide) (by decide) all0 ?_
      intro T144 h144_ v145 s146 H144 Q147
      obtain ⟨c148, rfl, rfl, K149⟩ := Q147
      show Go p e below _ (T144.setTop (mkF m 155 #[.val (.int x70000), .val (.int x70001), .val (.int x70002), .val (.int x70003), .val (.int 7), .val (.int 3), .val (.int (x2 &&& 255)), .val (.int x70007), .val (.ref p0), .val (.ref a120), .val (.int 1)] [(.int 0)]))
      refine G.iload H144 at_155 (pc' := 157) rfl rfl ?_
      refine G.ifYes H144 at_157 (by decide) (by decide) (pc' := 164) rfl ?_
      refine G.iconst H144 at_164 (pc' := 165) rfl (v := 0) rfl ?_
      refine G.icmpNo H144 at_165 (pc' := 168) rfl (by decide) ?_
      refine G.iconst H144 at_168 (pc' := 169) rfl (v := 1) rfl ?_
      refine G.goto H144 at_169 (by decide) (pc' := 173) rfl ?_
      exact G.retN H144 (t := .boolean) rfl (by decide) at_173 (so := []) all0 (by decide) (by decide) rfl
    ·
      refine G.icmpYes H138 at_140 (XT.ii_ne_t c142) (by decide) (pc' := 147) rfl ?_
      refine G.iconst H138 at_147 (pc' := 148) rfl (v := 0) rfl ?_
      refine G.istore H138 (L' := #[.val (.int x70000), .val (.int x70001), .val (.int x70002), .val (.int x70003), .val (.int 7), .val (.int 3), .val (.int (x2 &&& 255)), .val (.int x70007), .val (.ref p0), .val (.ref a120), .val (.int 0)]) at_148 (pc' := 150) rfl rfl ?_
      refine G.aload H138 at_150 (pc' := 152) rfl rfl rfl ?_
      have F150 := (Str.ext E129 F126)
      refine G.callS H138 (m51_apply V a120 a121 k122 e0 e1 e2 e3 e4 e5 e6 h127_ H138.old F150 qe0 qe1 qe2 (fun qq => c142 (Eq.trans (Eq.symm qe3) qq)) qe4 qe5 qe6) (wd27 V) (wd28 V) (wd29 V) (wd30 V) (by decide) (argsL := [(.ref a120)]) (rest := []) (W := 0) rfl rfl (lenOf (pd_3) rfl) rfl rfl at_152 (pc' := 155) rfl (by decide) (by decide) (by decide) (by decide) (allS (mG (i := 0) rfl) (allS (mG (i := 1) rfl) all0)) ?_
      intro T151 h151_ v152 s153 H151 Q154
      obtain ⟨c155, rfl, rfl, K156⟩ := Q154
      show Go p e below _ (T151.setTop (mkF m 155 #[.val (.int x70000), .val (.int x70001), .val (.int x70002), .val (.int x70003), .val (.int 7), .val (.int 3), .val (.int (x2 &&& 255)), .val (.int x70007), .val (.ref p0), .val (.ref a120), .val (.int 0)] [(.int 1)]))
      refine G.iload H151 at_155 (pc' := 157) rfl rfl ?_
      refine G.ifNo H151 at_157 (pc' := 160) rfl (by decide) ?_
      refine G.iconst H151 at_160 (pc' := 161) rfl (v := 1) rfl ?_
      refine G.goto H151 at_161 (by decide) (pc' := 165) rfl ?_
      refine G.icmpNo H151 at_165 (pc' := 168) rfl (by decide) ?_
      refine G.iconst H151 at_168 (pc' := 169) rfl (v := 1) rfl ?_
      refine G.goto H151 at_169 (by decide) (pc' := 173) rfl ?_
      exact G.retN H151 (t := .boolean) rfl (by decide) at_173 (so := []) all0 (by decide) (by decide) rfl
  ·
    refine G.aload H at_101 (pc' := 103) rfl rfl rfl ?_
    refine G.iload H at_103 (pc' := 105) rfl rfl ?_
    refine G.callS H (m25_cut V p0 c0 e0 e1 e2 e3 e4 e5 e6 e7 e8 e9 h0 H.old fA8 (own_u16 re0) (own_u16 re1) (own_u16 re2) (own_u16 re3) (own_u16 re4) (own_u16 re5) (own_u16 re6) (own_u16 re7) re7 re6 re5 re4 re3 re2 re1 re0) (wd2 V) (wd3 V) (wd4 V) (wd5 V) (by decide) (argsL := [(.ref p0), (.int 8)]) (rest := []) (W := 0) rfl rfl (lenOf (pd_2) rfl) rfl rfl at_105 (pc' := 108) rfl (by decide) (by decide) (by decide) (by decide) all0 ?_
    intro T157 h157_ v158 s159 H157 Q160
    obtain ⟨a161, a162, k163, rfl, rfl, K164, g165, g166, F167⟩ := Q160
    have na161 : n0 ≤ a161 := Nat.le_trans H.le g165
    have na162 : n0 ≤ a162 := Nat.le_trans H.le (Nat.le_of_lt (Nat.lt_of_le_of_lt g165 g166))
    show Go p e below _ (T157.setTop (mkF m 108 #[.val (.int x70000), .val (.int x70001), .val (.int x70002), .val (.int x70003), .val (.int 8), .val (.int 3), .val (.int (x2 &&& 255)), .val (.int x70007), .val (.ref p0), .unset, .unset] [(.ref a161)]))
    refine G.astore H157 (L' := #[.val (.int x70000), .val (.int x70001), .val (.int x70002), .val (.int x70003), .val (.int 8), .val (.int 3), .val (.int (x2 &&& 255)), .val (.int x70007), .val (.ref p0), .val (.ref a161), .unset]) at_108 (pc' := 110) rfl rfl rfl ?_
    refine G.iload H157 at_110 (pc' := 112) rfl rfl ?_
    refine G.bipush H157 at_112 (pc' := 114) rfl (v := 7) rfl ?_
    refine G.icmpNo H157 at_114 (pc' := 117) rfl (by decide) ?_
    refine G.iload H157 at_117 (pc' := 119) rfl rfl ?_
    refine G.bipush H157 at_119 (pc' := 121) rfl (v := 9) rfl ?_
    refine G.icmpYes H157 at_121 (by decide) (by decide) (pc' := 147) rfl ?_
    refine G.iconst H157 at_147 (pc' := 148) rfl (v := 0) rfl ?_
    refine G.istore H157 (L' := #[.val (.int x70000), .val (.int x70001), .val (.int x70002), .val (.int x70003), .val (.int 8), .val (.int 3), .val (.int (x2 &&& 255)), .val (.int x70007), .val (.ref p0), .val (.ref a161), .val (.int 0)]) at_148 (pc' := 150) rfl rfl ?_
    refine G.aload H157 at_150 (pc' := 152) rfl rfl rfl ?_
    refine G.callS H157 (m26_apply V a161 a162 k163 e0 e1 e2 e3 e4 e5 e6 e7 h157_ H157.old F167) (wd27 V) (wd28 V) (wd29 V) (wd30 V) (by decide) (argsL := [(.ref a161)]) (rest := []) (W := 0) rfl rfl (lenOf (pd_3) rfl) rfl rfl at_152 (pc' := 155) rfl (by decide) (by decide) (by decide) (by decide) (allS (mG (i := 0) rfl) (allS (mG (i := 1) rfl) all0)) ?_
    intro T168 h168_ v169 s170 H168 Q171
    obtain ⟨rfl, rfl, K172⟩ := Q171
    show Go p e below _ (T168.setTop (mkF m 155 #[.val (.int x70000), .val (.int x70001), .val (.int x70002), .val (.int x70003), .val (.int 8), .val (.int 3), .val (.int (x2 &&& 255)), .val (.int x70007), .val (.ref p0), .val (.ref a161), .val (.int 0)] [(.int 1)]))
    refine G.iload H168 at_155 (pc' := 157) rfl rfl ?_
    refine G.ifNo H168 at_157 (pc' := 160) rfl (by decide) ?_
    refine G.iconst H168 at_160 (pc' := 161) rfl (v := 1) rfl ?_
    refine G.goto H168 at_161 (by decide) (pc' := 165) rfl ?_
    refine G.icmpNo H168 at_165 (pc' := 168) rfl (by decide) ?_
    refine G.iconst H168 at_168 (pc' := 169) rfl (v := 1) rfl ?_
    refine G.goto H168 at_169 (by decide) (pc' := 173) rfl ?_
    exact G.retN H168 (t := .boolean) rfl (by decide) at_173 (so := []) all0 (by decide) (by decide) rfl
  ·
    refine G.aload H at_101 (pc' := 103) rfl rfl rfl ?_
    refine G.iload H at_103 (pc' := 105) rfl rfl ?_
    refine G.callS H (m27_cut V p0 c0 e0 e1 e2 e3 e4 e5 e6 e7 e8 e9 h0 H.old fA8 (own_u16 re0) (own_u16 re1) (own_u16 re2) (own_u16 re3) (own_u16 re4) (own_u16 re5) (own_u16 re6) (own_u16 re7) (own_u16 re8) re8 re7 re6 re5 re4 re3 re2 re1 re0) (wd2 V) (wd3 V) (wd4 V) (wd5 V) (by decide) (argsL := [(.ref p0), (.int 9)]) (rest := []) (W := 0) rfl rfl (lenOf (pd_2) rfl) rfl rfl at_105 (pc' := 108) rfl (by decide) (by decide) (by decide) (by decide) all0 ?_
    intro T173 h173_ v174 s175 H173 Q176
    obtain ⟨a177, a178, k179, rfl, rfl, K180, g181, g182, F183⟩ := Q176
    have na177 : n0 ≤ a177 := Nat.le_trans H.le g181
    have na178 : n0 ≤ a178 := Nat.le_trans H.le (Nat.le_of_lt (Nat.lt_of_le_of_lt g181 g182))
    show Go p e below _ (T173.setTop (mkF m 108 #[.val (.int x70000), .val (.int x70001), .val (.int x70002), .val (.int x70003), .val (.int 9), .val (.int 3), .val (.int (x2 &&& 255)), .val (.int x70007), .val (.ref p0), .unset, .unset] [(.ref a177)]))
    refine G.astore H173 (L' := #[.val (.int x70000), .val (.int x70001), .val (.int x70002), .val (.int x70003), .val (.int 9), .val (.int 3), .val (.int (x2 &&& 255)), .val (.int x70007), .val (.ref p0), .val (.ref a177), .unset]) at_108 (pc' := 110) rfl rfl rfl ?_
    refine G.iload H173 at_110 (pc' := 112) rfl rfl ?_
    refine G.bipush H173 at_112 (pc' := 114) rfl (v := 7) rfl ?_
    refine G.icmpNo H173 at_114 (pc' := 117) rfl (by decide) ?_
    refine G.iload H173 at_117 (pc' := 119) rfl rfl ?_
    refine G.bipush H173 at_119 (pc' := 121) rfl (v := 9) rfl ?_
    refine G.icmpNo H173 at_121 (pc' := 124) rfl (by decide) ?_
    refine G.iload H173 at_124 (pc' := 126) rfl rfl ?_
    refine G.iload H173 at_126 (pc' := 128) rfl rfl ?_
    refine G.icmpNo H173 at_128 (pc' := 131) rfl (by decide) ?_
    refine G.iload H173 at_131 (pc' := 133) rfl rfl ?_
    refine G.ldcS H173 trivial (wS V) (wd54 V) (by decide) (vs := [(.int 67), (.int 79), (.int 78), (.int 78), (.int 69), (.int 67), (.int 84), (.int 69), (.int 68)]) (z := 9) (by decide) (by decide) rfl (n := 36) (by decide) (by decide) (by decide) (by decide) at_133 (pc' := 135) rfl ?_
    intro T184 h184_ a185 b187 k188 H184 E186 X189 F190 F191 A192 Q193
    have S194 : Str Z h184_ a185 b187 k188 [67, 79, 78, 78, 69, 67, 84, 69, 68] := ⟨X189, F190, F191, A192, by decide, by decide⟩
    refine G.iload H184 at_135 (pc' := 137) rfl rfl ?_
    refine G.callV H184 (m50_charAt V a185 b187 k188 h184_ H184.old X189 F190 F191 A192) (wd55 V) (wd56 V) (nf_sel (wd58 V)) (wd58 V) (wd57 V) (wd8 V) (wd59 V) (by decide) X189 (argsL := [(.int 3)]) (rest := [(.int (x2 &&& 255))]) (W := 1) rfl rfl (lenOf (pd_8) rfl) rfl rfl at_137 (pc' := 140) rfl (by decide) (by decide) (by decide) (by decide) all0 ?_
    intro T195 h195_ v196 s197 H195 Q198
    obtain ⟨rfl, rfl, rfl⟩ := Q198
    show Go p e below _ (T195.setTop (mkF m 140 #[.val (.int x70000), .val (.int x70001), .val (.int x70002), .val (.int x70003), .val (.int 9), .val (.int 3), .val (.int (x2 &&& 255)), .val (.int x70007), .val (.ref p0), .val (.ref a177), .unset] [(.int 78), (.int (x2 &&& 255))]))
    by_cases c199 : (x2 &&& 255) = 78
    ·
      refine G.icmpNo H195 at_140 (pc' := 143) rfl (XT.ii_ne_f c199) ?_
      refine G.iconst H195 at_143 (pc' := 144) rfl (v := 1) rfl ?_
      refine G.goto H195 at_144 (by decide) (pc' := 148) rfl ?_
      refine G.istore H195 (L' := #[.val (.int x70000), .val (.int x70001), .val (.int x70002), .val (.int x70003), .val (.int 9), .val (.int 3), .val (.int (x2 &&& 255)), .val (.int x70007), .val (.ref p0), .val (.ref a177), .val (.int 1)]) at_148 (pc' := 150) rfl rfl ?_
      refine G.aload H195 at_150 (pc' := 152) rfl rfl rfl ?_
      have F200 := (Str.ext E186 F183)
      refine G.callS H195 (m28_apply V a177 a178 k179 e0 e1 e2 e3 e4 e5 e6 e7 e8 h184_ H195.old F200 qe0 qe1 qe2 (Eq.trans qe3 c199) qe4 qe5 qe6 qe7 qe8) (wd27 V) (wd28 V) (wd29 V) (wd30 V) (by decide) (argsL := [(.ref a177)]) (rest := []) (W := 0) rfl rfl (lenOf (pd_3) rfl) rfl rfl at_152 (pc' := 155) rfl (by decide) (by decide) (by decide) (by decide) (allS (mG (i := 0) rfl) (allS (mG (i := 1) rfl) all0)) ?_
      intro T201 h201_ v202 s203 H201 Q204
      obtain ⟨c205, rfl, rfl, K206⟩ := Q204
      show Go p e below _ (T201.setTop (mkF m 155 #[.val (.int x70000), .val (.int x70001), .val (.int x70002), .val (.int x70003), .val (.int 9), .val (.int 3), .val (.int (x2 &&& 255)), .val (.int x70007), .val (.ref p0), .val (.ref a177), .val (.int 1)] [(.int 0)]))
      refine G.iload H201 at_155 (pc' := 157) rfl rfl ?_
      refine G.ifYes H201 at_157 (by decide) (by decide) (pc' := 164) rfl ?_
      refine G.iconst H201 at_164 (pc' := 165) rfl (v := 0) rfl ?_
      refine G.icmpNo H201 at_165 (pc' := 168) rfl (by decide) ?_
      refine G.iconst H201 at_168 (pc' := 169) rfl (v := 1) rfl ?_
      refine G.goto H201 at_169 (by decide) (pc' := 173) rfl ?_
      exact G.retN H201 (t := .boolean) rfl (by decide) at_173 (so := []) all0 (by decide) (by decide) rfl
    ·
      refine G.icmpYes H195 at_140 (XT.ii_ne_t c199) (by decide) (pc' := 147) rfl ?_
      refine G.iconst H195 at_147 (pc' := 148) rfl (v := 0) rfl ?_
      refine G.istore H195 (L' := #[.val (.int x70000), .val (.int x70001), .val (.int x70002), .val (.int x70003), .val (.int 9), .val (.int 3), .val (.int (x2 &&& 255)), .val (.int x70007), .val (.ref p0), .val (.ref a177), .val (.int 0)]) at_148 (pc' := 150) rfl rfl ?_
      refine G.aload H195 at_150 (pc' := 152) rfl rfl rfl ?_
      have F207 := (Str.ext E186 F183)
      refine G.callS H195 (m52_apply V a177 a178 k179 e0 e1 e2 e3 e4 e5 e6 e7 e8 h184_ H195.old F207 qe0 qe1 qe2 (fun qq => c199 (Eq.trans (Eq.symm qe3) qq)) qe4 qe5 qe6 qe7 qe8) (wd27 V) (wd28 V) (wd29 V) (wd30 V) (by decide) (argsL := [(.ref a177)]) (rest := []) (W := 0) rfl rfl (lenOf (pd_3) rfl) rfl rfl at_152 (pc' := 155) rfl (by decide) (by decide) (by decide) (by decide) (allS (mG (i := 0) rfl) (allS (mG (i := 1) rfl) all0)) ?_
      intro T208 h208_ v209 s210 H208 Q211
      obtain ⟨c212, rfl, rfl, K213⟩ := Q211
      show Go p e below _ (T208.setTop (mkF m 155 #[.val (.int x70000), .val (.int x70001), .val (.int x70002), .val (.int x70003), .val (.int 9), .val (.int 3), .val (.int (x2 &&& 255)), .val (.int x70007), .val (.ref p0), .val (.ref a177), .val (.int 0)] [(.int 1)]))
      refine G.iload H208 at_155 (pc' := 157) rfl rfl ?_
      refine G.ifNo H208 at_157 (pc' := 160) rfl (by decide) ?_
      refine G.iconst H208 at_160 (pc' := 161) rfl (v := 1) rfl ?_
      refine G.goto H208 at_161 (by decide) (pc' := 165) rfl ?_
      refine G.icmpNo H208 at_165 (pc' := 168) rfl (by decide) ?_
      refine G.iconst H208 at_168 (pc' := 169) rfl (v := 1) rfl ?_
      refine G.goto H208 at_169 (by decide) (pc' := 173) rfl ?_
      exact G.retN H208 (t := .boolean) rfl (by decide) at_173 (so := []) all0 (by decide) (by decide) rfl
  ·
    refine G.aload H at_101 (pc' := 103) rfl rfl rfl ?_
    refine G.iload H at_103 (pc' := 105) rfl rfl ?_
    refine G.callS H (m30_cut V p0 c0 e0 e1 e2 e3 e4 e5 e6 e7 e8 e9 h0 H.old fA8 (own_u16 re0) (own_u16 re1) (own_u16 re2) (own_u16 re3) (own_u16 re4) (own_u16 re5) (own_u16 re6) (own_u16 re7) (own_u16 re8) (own_u16 re9) re9 re8 re7 re6 re5 re4 re3 re2 re1 re0) (wd2 V) (wd3 V) (wd4 V) (wd5 V) (by decide) (argsL := [(.ref p0), (.int 10)]) (rest := []) (W := 0) rfl rfl (lenOf (pd_2) rfl) rfl rfl at_105 (pc' := 108) rfl (by decide) (by decide) (by decide) (by decide) all0 ?_
    intro T214 h214_ v215 s216 H214 Q217
    obtain ⟨a218, a219, k220, rfl, rfl, K221, g222, g223, F224⟩ := Q217
    have na218 : n0 ≤ a218 := Nat.le_trans H.le g222
    have na219 : n0 ≤ a219 := Nat.le_trans H.le (Nat.le_of_lt (Nat.lt_of_le_of_lt g222 g223))
    show Go p e below _ (T214.setTop (mkF m 108 #[.val (.int x70000), .val (.int x70001), .val (.int x70002), .val (.int x70003), .val (.int 10), .val (.int 3), .val (.int (x2 &&& 255)), .val (.int x70007), .val (.ref p0), .unset, .unset] [(.ref a218)]))
    refine G.astore H214 (L' := #[.val (.int x70000), .val (.int x70001), .val (.int x70002), .val (.int x70003), .val (.int 10), .val (.int 3), .val (.int (x2 &&& 255)), .val (.int x70007), .val (.ref p0), .val (.ref a218), .unset]) at_108 (pc' := 110) rfl rfl rfl ?_
    refine G.iload H214 at_110 (pc' := 112) rfl rfl ?_
    refine G.bipush H214 at_112 (pc' := 114) rfl (v := 7) rfl ?_
    refine G.icmpNo H214 at_114 (pc' := 117) rfl (by decide) ?_
    refine G.iload H214 at_117 (pc' := 119) rfl rfl ?_
    refine G.bipush H214 at_119 (pc' := 121) rfl (v := 9) rfl ?_
    refine G.icmpYes H214 at_121 (by decide) (by decide) (pc' := 147) rfl ?_
    refine G.iconst H214 at_147 (pc' := 148) rfl (v := 0) rfl ?_
    refine G.istore H214 (L' := #[.val (.int x70000), .val (.int x70001), .val (.int x70002), .val (.int x70003), .val (.int 10), .val (.int 3), .val (.int (x2 &&& 255)), .val (.int x70007), .val (.ref p0), .val (.ref a218), .val (.int 0)]) at_148 (pc' := 150) rfl rfl ?_
    refine G.aload H214 at_150 (pc' := 152) rfl rfl rfl ?_
    refine G.callS H214 (m31_apply V a218 a219 k220 e0 e1 e2 e3 e4 e5 e6 e7 e8 e9 h214_ H214.old F224) (wd27 V) (wd28 V) (wd29 V) (wd30 V) (by decide) (argsL := [(.ref a218)]) (rest := []) (W := 0) rfl rfl (lenOf (pd_3) rfl) rfl rfl at_152 (pc' := 155) rfl (by decide) (by decide) (by decide) (by decide) (allS (mG (i := 0) rfl) (allS (mG (i := 1) rfl) all0)) ?_
    intro T225 h225_ v226 s227 H225 Q228
    obtain ⟨rfl, rfl, K229⟩ := Q228
    show Go p e below _ (T225.setTop (mkF m 155 #[.val (.int x70000), .val (.int x70001), .val (.int x70002), .val (.int x70003), .val (.int 10), .val (.int 3), .val (.int (x2 &&& 255)), .val (.int x70007), .val (.ref p0), .val (.ref a218), .val (.int 0)] [(.int 1)]))
    refine G.iload H225 at_155 (pc' := 157) rfl rfl ?_
    refine G.ifNo H225 at_157 (pc' := 160) rfl (by decide) ?_
    refine G.iconst H225 at_160 (pc' := 161) rfl (v := 1) rfl ?_
    refine G.goto H225 at_161 (by decide) (pc' := 165) rfl ?_
    refine G.icmpNo H225 at_165 (pc' := 168) rfl (by decide) ?_
    refine G.iconst H225 at_168 (pc' := 169) rfl (v := 1) rfl ?_
    refine G.goto H225 at_169 (by decide) (pc' := 173) rfl ?_
    exact G.retN H225 (t := .boolean) rfl (by decide) at_173 (so := []) all0 (by decide) (by decide) rfl
set_option maxRecDepth 65536 in
set_option maxHeartbeats 40000000 in
theorem m54_checkIndex (V : Env1 Z a0 n0 uu0 uu1)  (h0 : Heap) (hO : Old Z n0 h0)  :
    Met Z a0 ELs True n0 l (⟨"jdk/internal/util/Preconditions", "checkIndex", "(IILjava/util/function/BiFunction;)I"⟩ : MethodName) jdk_41_method_11_code 3 (Option.some FieldType.int) ({ frames := 0, cells := 0, slots := 0, locals := 0 } : Room) #[(.int 4), (.int 9), uu1] h0 [] (fun v h so => (v = some (.int 4) ∧ so = [] ∧ h0 = h)) := by
  refine Met.of (EWl V) (by first | decide +kernel | rfl) hO (L0 := #[.val (.int 4), .val (.int 9), .val uu1]) (by rcases XT.refc (hv3 V) with rfl | ⟨_, rfl⟩ <;> rfl) ?_
  intro p e s m below meth c T H
  show Go p e below _ (T.setTop (mkF m 0 #[.val (.int 4), .val (.int 9), .val uu1] []))
  refine G.iloadN H D0_0 (pc' := 1) rfl rfl ?_
  refine G.ifNo H D0_1 (pc' := 4) rfl (by decide) ?_
  refine G.iloadN H D0_4 (pc' := 5) rfl rfl ?_
  refine G.iloadN H D0_5 (pc' := 6) rfl rfl ?_
  refine G.icmpYes H D0_6 (by decide) (by decide) (pc' := 16) rfl ?_
  refine G.iloadN H D0_16 (pc' := 17) rfl rfl ?_
  exact G.retI H rfl D0_17 (so := []) all0 (by decide) (by decide) ⟨rfl, rfl, rfl⟩
set_option maxRecDepth 65536 in
set_option maxHeartbeats 40000000 in
theorem m55_checkIndex (V : Env1 Z a0 n0 uu0 uu1)  (h0 : Heap) (hO : Old Z n0 h0)  :
    Met Z a0 ELs True n0 l (⟨"java/lang/String", "checkIndex", "(II)V"⟩ : MethodName) jdk_42_method_155_code 2 (Option.none : Option FieldType) ({ frames := 1, cells := 0, slots := 0, locals := 14 } : Room) #[(.int 4), (.int 9)] h0 [] (fun v h so => (v = none ∧ so = [] ∧ h0 = h)) := by
  refine Met.of (EWl V) (by first | decide +kernel | rfl) hO (L0 := #[.val (.int 4), .val (.int 9)]) rfl ?_
  intro p e s m below meth c T H
  show Go p e below _ (T.setTop (mkF m 0 #[.val (.int 4), .val (.int 9)] []))
  refine G.iloadN H D3_0 (pc' := 1) rfl rfl ?_
  refine G.iloadN H D3_1 (pc' := 2) rfl rfl ?_
  refine G.getS H (wd71 V) Via.refl (Sta.ext H.old.2 (hv2 V)) D3_2 (pc' := 5) rfl ?_
  intro T1 H2
  refine G.callS H2 (m54_checkIndex V h0 H2.old) (wd73 V) (wd74 V) (wd72 V) (wd75 V) (by decide) (argsL := [(.int 4), (.int 9), uu1]) (rest := []) (W := 0) rfl rfl (lenOf (pd_5) rfl) rfl rfl D3_5 (pc' := 8) rfl (by decide) (by decide) (by decide) (by decide) all0 ?_
  intro T3 h3_ v4 s5 H3 Q6
  obtain ⟨rfl, rfl, rfl⟩ := Q6
  show Go p e below _ (T3.setTop (mkF m 8 #[.val (.int 4), .val (.int 9)] [(.int 4)]))
  refine G.pop H3 D3_8 (pc' := 9) rfl rfl ?_
  exact G.retV H3 rfl D3_9 (so := []) all0 (by decide) (by decide) ⟨rfl, rfl, rfl⟩
set_option maxRecDepth 65536 in
set_option maxHeartbeats 40000000 in
theorem m56_charAt (V : Env1 Z a0 n0 uu0 uu1) (p0 : Addr) (c0 : ClassId) (h0 : Heap) (hO : Old Z n0 h0) (f0 : Arv Z h0 p0 c0 .byte 9 [(.int 67), (.int 79), (.int 78), (.int 78), (.int 69), (.int 67), (.int 84), (.int 69), (.int 68)] (.int 0)) :
    Met Z a0 ELs True n0 l (⟨"java/lang/StringLatin1", "charAt", "([BI)C"⟩ : MethodName) jdk_43_method_2_code 2 (Option.some FieldType.char) ({ frames := 2, cells := 0, slots := 0, locals := 27 } : Room) #[(.ref p0), (.int 4)] h0 [] (fun v h so => (v = some (.int 69) ∧ so = [] ∧ h0 = h)) := by
  refine Met.of (EWl V) (by first | decide +kernel | rfl) hO (L0 := #[.val (.ref p0), .val (.int 4)]) rfl ?_
  intro p e s m below meth c T H
  show Go p e below _ (T.setTop (mkF m 0 #[.val (.ref p0), .val (.int 4)] []))
  refine G.iloadN H D6_0 (pc' := 1) rfl rfl ?_
  refine G.aloadN H D6_1 (pc' := 2) rfl rfl rfl ?_
  refine G.arrlen H f0 D6_2 (pc' := 3) rfl ?_
  refine G.callS H (m55_checkIndex V h0 H.old) (wd68 V) (wd69 V) (wd8 V) (wd70 V) (by decide) (argsL := [(.int 4), (.int 9)]) (rest := []) (W := 0) rfl rfl (lenOf (pd_6) rfl) rfl rfl D6_3 (pc' := 6) rfl (by decide) (by decide) (by decide) (by decide) all0 ?_
  intro T1 h1_ v2 s3 H1 Q4
  obtain ⟨rfl, rfl, rfl⟩ := Q4
  show Go p e below _ (T1.setTop (mkF m 6 #[.val (.ref p0), .val (.int 4)] []))
  refine G.aloadN H1 D6_6 (pc' := 7) rfl rfl rfl ?_
  refine G.iloadN H1 D6_7 (pc' := 8) rfl rfl ?_
  refine G.baloadG H1 f0 (j := 4) (v := (.int 69)) (by decide) rfl D6_8 (pc' := 9) rfl ?_
  refine G.sipush H1 D6_9 (pc' := 12) rfl (v := 255) rfl ?_
  refine G.iand H1 D6_12 (pc' := 13) rfl ?_
  show Go p e below _ (T1.setTop (mkF m 13 #[.val (.ref p0), .val (.int 4)] [(.int 69)]))
  refine G.i2c H1 (y := 69) D6_13 (pc' := 14) rfl rfl ?_
  exact G.retN H1 (t := .char) rfl (by decide) D6_14 (so := []) all0 (by decide) (by decide) ⟨rfl, rfl, rfl⟩
set_option maxRecDepth 65536 in
set_option maxHeartbeats 40000000 in
theorem m57_charAt (V : Env1 Z a0 n0 uu0 uu1) (p0 : Addr) (p1 : Addr) (c0 : ClassId) (h0 : Heap) (hO : Old Z n0 h0) (f0 : Exa Z h0 p0 "java/lang/String") (f1 : Fld Z h0 p0 "java/lang/String" "coder" "B" (.int 0)) (f2 : Fld Z h0 p0 "java/lang/String" "value" "[B" (.ref p1)) (f3 : Arv Z h0 p1 c0 .byte 9 [(.int 67), (.int 79), (.int 78), (.int 78), (.int 69), (.int 67), (.int 84), (.int 69), (.int 68)] (.int 0)) :
    Met Z a0 ELs True n0 l (⟨"java/lang/String", "charAt", "(I)C"⟩ : MethodName) jdk_42_method_56_code 2 (Option.some FieldType.char) ({ frames := 3, cells := 0, slots := 0, locals := 40 } : Room) #[(.ref p0), (.int 4)] h0 [] (fun v h so => (v = some (.int 69) ∧ so = [] ∧ h0 = h)) := by
  refine Met.of (EWl V) (by first | decide +kernel | rfl) hO (L0 := #[.val (.ref p0), .val (.int 4)]) rfl ?_
  intro p e s m below meth c T H
  show Go p e below _ (T.setTop (mkF m 0 #[.val (.ref p0), .val (.int 4)] []))
  refine G.aloadN H D5_0 (pc' := 1) rfl rfl rfl ?_
  refine G.callV H (m18_isLatin1 V p0 h0 H.old f1) (wd60 V) (wd61 V) (nf_sel (wd63 V)) (wd63 V) (wd62 V) (wd8 V) (wd64 V) (by decide) f0 (argsL := []) (rest := []) (W := 0) rfl rfl (lenOf (pd_4) rfl) rfl rfl D5_1 (pc' := 4) rfl (by decide) (by decide) (by decide) (by decide) all0 ?_
  intro T1 h1_ v2 s3 H1 Q4
  obtain ⟨rfl, rfl, rfl⟩ := Q4
  show Go p e below _ (T1.setTop (mkF m 4 #[.val (.ref p0), .val (.int 4)] [(.int 1)]))
  refine G.ifNo H1 D5_4 (pc' := 7) rfl (by decide) ?_
  refine G.aloadN H1 D5_7 (pc' := 8) rfl rfl rfl ?_
  refine G.getF H1 (wd25 V) Via.refl f2 D5_8 (pc' := 11) rfl ?_
  intro T5 H6
  refine G.iloadN H6 D5_11 (pc' := 12) rfl rfl ?_
  refine G.callS H6 (m56_charAt V p1 c0 h0 H6.old f3) (wd65 V) (wd66 V) (wd41 V) (wd67 V) (by decide) (argsL := [(.ref p1), (.int 4)]) (rest := []) (W := 0) rfl rfl (lenOf (pd_7) rfl) rfl rfl D5_12 (pc' := 15) rfl (by decide) (by decide) (by decide) (by decide) all0 ?_
  intro T7 h7_ v8 s9 H7 Q10
  obtain ⟨rfl, rfl, rfl⟩ := Q10
  show Go p e below _ (T7.setTop (mkF m 15 #[.val (.ref p0), .val (.int 4)] [(.int 69)]))
  exact G.retN H7 (t := .char) rfl (by decide) D5_15 (so := []) all0 (by decide) (by decide) ⟨rfl, rfl, rfl⟩
set_option maxRecDepth 65536 in
set_option maxHeartbeats 40000000 in
theorem m58_apply (V : Env1 Z a0 n0 uu0 uu1) (p0 : Addr) (p1 : Addr) (c0 : ClassId) (x0 : Int32) (x1 : Int32) (x2 : Int32) (x3 : Int32) (x4 : Int32) (x5 : Int32) (x6 : Int32) (h0 : Heap) (hO : Old Z n0 h0) (f0 : Str Z h0 p0 p1 c0 [x0, x1, x2, x3, x4, x5, x6]) (cc1 : x0 = 67) (cc2 : x1 = 79) (cc3 : x2 = 78) (cc4 : x3 = 78) (cc5 : ¬ x4 = 69) (cc6 : x5 = 67) (cc7 : x6 = 84) :
    Met Z a0 ELs True n0 l (⟨"bindery/server/stomp/HeaderEscapes", "apply", "(Ljava/lang/String;)Z"⟩ : MethodName) prog_84_method_2_code 1 (Option.some FieldType.boolean) ({ frames := 2, cells := 4, slots := 72, locals := 28 } : Room) #[(.ref p0)] h0 [p0, p1] (fun v h so => (¬ [x0, x1, x2, x3, x4, x5, x6] = [67, 79, 78, 78, 69, 67, 84] ∧ v = some (.int 1) ∧ so = [] ∧ Keep h0 h [])) := by
  refine Met.of (EWl V) (by first | decide +kernel | rfl) hO (L0 := #[.val (.ref p0)]) rfl ?_
  intro p e s m below meth c T H
  show Go p e below _ (T.setTop (mkF m 0 #[.val (.ref p0)] []))
  refine G.aloadN H D8_0 (pc' := 1) rfl rfl rfl ?_
  refine G.ldcS H trivial (wS V) (wd31 V) (by decide) (vs := [(.int 67), (.int 79), (.int 78), (.int 78), (.int 69), (.int 67), (.int 84)]) (z := 7) (by decide) (by decide) rfl (n := 28) (by decide) (by decide) (by decide) (by decide) D8_1 (pc' := 3) rfl ?_
  intro T1 h1_ a2 b4 k5 H1 E3 X6 F7 F8 A9 Q10
  have S11 : Str Z h1_ a2 b4 k5 [67, 79, 78, 78, 69, 67, 84] := ⟨X6, F7, F8, A9, by decide, by decide⟩
  have F12 := (Str.ext E3 f0)
  refine G.strEq H1 (strwEq V) (wd7 V) (wd32 V) (wd33 V) (wd35 V) (wd34 V) F12 S11 (hv0 V) (hv1 V) (rest := []) (W := 0) rfl rfl D8_3 (pc' := 6) rfl (by decide) (by decide) (by decide) (by decide) ?_ ?_
  ·
    intro T13 H14 c15
    exact absurd (List.cons.inj (List.cons.inj (List.cons.inj (List.cons.inj (List.cons.inj c15).2).2).2).2).1 cc5
  ·
    intro T16 H17 c18
    refine G.ifNo H17 D8_6 (pc' := 9) rfl (by decide) ?_
    refine G.aloadN H17 D8_9 (pc' := 10) rfl rfl rfl ?_
    refine G.ldcS H17 trivial (wS V) (wd43 V) (by decide) (vs := [(.int 67), (.int 79), (.int 78), (.int 78), (.int 69), (.int 67), (.int 84), (.int 69), (.int 68)]) (z := 9) (by decide) (by decide) rfl (n := 36) (by decide) (by decide) (by decide) (by decide) D8_10 (pc' := 12) rfl ?_
    intro T19 h19_ a20 b22 k23 H19 E21 X24 F25 F26 A27 Q28
    have S29 : Str Z h19_ a20 b22 k23 [67, 79, 78, 78, 69, 67, 84, 69, 68] := ⟨X24, F25, F26, A27, by decide, by decide⟩
    have F30 := (Str.ext E21 F12)
    refine G.strEq H19 (strwEq V) (wd7 V) (wd32 V) (wd33 V) (wd35 V) (wd34 V) F30 S29 (hv0 V) (hv1 V) (rest := []) (W := 0) rfl rfl D8_12 (pc' := 15) rfl (by decide) (by decide) (by decide) (by decide) ?_ ?_
    ·
      intro T31 H32 c33
      exact absurd c33 (by intro qq; simp at qq)
    ·
      intro T34 H35 c36
      refine G.ifNo H35 D8_15 (pc' := 18) rfl (by decide) ?_
      refine G.iconst H35 D8_18 (pc' := 19) rfl (v := 1) rfl ?_
      refine G.goto H35 D8_19 (by decide) (pc' := 23) rfl ?_
      have K37 : Keep h0 h19_ [] := (Keep.ext (Keep.ext (Keep.refl h0 []) E3) E21)
      exact G.retN H35 (t := .boolean) rfl (by decide) D8_23 (so := []) all0 (by decide) (by decide) ⟨c18, rfl, rfl, K37⟩
set_option maxRecDepth 65536 in
set_option maxHeartbeats 40000000 in
theorem m59_apply (V : Env1 Z a0 n0 uu0 uu1) (p0 : Addr) (p1 : Addr) (c0 : ClassId) (x0 : Int32) (x1 : Int32) (x2 : Int32) (x3 : Int32) (x4 : Int32) (x5 : Int32) (x6 : Int32) (x7 : Int32) (x8 : Int32) (h0 : Heap) (hO : Old Z n0 h0) (f0 : Str Z h0 p0 p1 c0 [x0, x1, x2, x3, x4, x5, x6, x7, x8]) (cc1 : x0 = 67) (cc2 : x1 = 79) (cc3 : x2 = 78) (cc4 : x3 = 78) (cc5 : ¬ x4 = 69) (cc6 : x5 = 67) (cc7 : x6 = 84) (cc8 : x7 = 69) (cc9 : x8 = 68) :
    Met Z a0 ELs True n0 l (⟨"bindery/server/stomp/HeaderEscapes", "apply", "(Ljava/lang/String;)Z"⟩ : MethodName) prog_84_method_2_code 1 (Option.some FieldType.boolean) ({ frames := 2, cells := 4, slots := 72, locals := 28 } : Room) #[(.ref p0)] h0 [p0, p1] (fun v h so => (¬ [x0, x1, x2, x3, x4, x5, x6, x7, x8] = [67, 79, 78, 78, 69, 67, 84, 69, 68] ∧ v = some (.int 1) ∧ so = [] ∧ Keep h0 h [])) := by
  refine Met.of (EWl V) (by first | decide +kernel | rfl) hO (L0 := #[.val (.ref p0)]) rfl ?_
  intro p e s m below meth c T H
  show Go p e below _ (T.setTop (mkF m 0 #[.val (.ref p0)] []))
  refine G.aloadN H D8_0 (pc' := 1) rfl rfl rfl ?_
  refine G.ldcS H trivial (wS V) (wd31 V) (by decide) (vs := [(.int 67), (.int 79), (.int 78), (.int 78), (.int 69), (.int 67), (.int 84)]) (z := 7) (by decide) (by decide) rfl (n := 28) (by decide) (by decide) (by decide) (by decide) D8_1 (pc' := 3) rfl ?_
  intro T1 h1_ a2 b4 k5 H1 E3 X6 F7 F8 A9 Q10
  have S11 : Str Z h1_ a2 b4 k5 [67, 79, 78, 78, 69, 67, 84] := ⟨X6, F7, F8, A9, by decide, by decide⟩
  have F12 := (Str.ext E3 f0)
  refine G.strEq H1 (strwEq V) (wd7 V) (wd32 V) (wd33 V) (wd35 V) (wd34 V) F12 S11 (hv0 V) (hv1 V) (rest := []) (W := 0) rfl rfl D8_3 (pc' := 6) rfl (by decide) (by decide) (by decide) (by decide) ?_ ?_
  ·
    intro T13 H14 c15
    exact absurd c15 (by intro qq; simp at qq)
  ·
    intro T16 H17 c18
    refine G.ifNo H17 D8_6 (pc' := 9) rfl (by decide) ?_
    refine G.aloadN H17 D8_9 (pc' := 10) rfl rfl rfl ?_
    refine G.ldcS H17 trivial (wS V) (wd43 V) (by decide) (vs := [(.int 67), (.int 79), (.int 78), (.int 78), (.int 69), (.int 67), (.int 84), (.int 69), (.int 68)]) (z := 9) (by decide) (by decide) rfl (n := 36) (by decide) (by decide) (by decide) (by decide) D8_10 (pc' := 12) rfl ?_
    intro T19 h19_ a20 b22 k23 H19 E21 X24 F25 F26 A27 Q28
    have S29 : Str Z h19_ a20 b22 k23 [67, 79, 78, 78, 69, 67, 84, 69, 68] := ⟨X24, F25, F26, A27, by decide, by decide⟩
    have F30 := (Str.ext E21 F12)
    refine G.strEq H19 (strwEq V) (wd7 V) (wd32 V) (wd33 V) (wd35 V) (wd34 V) F30 S29 (hv0 V) (hv1 V) (rest := []) (W := 0) rfl rfl D8_12 (pc' := 15) rfl (by decide) (by decide) (by decide) (by decide) ?_ ?_
    ·
      intro T31 H32 c33
      exact absurd (List.cons.inj (List.cons.inj (List.cons.inj (List.cons.inj (List.cons.inj c33).2).2).2).2).1 cc5
    ·
      intro T34 H35 c36
      refine G.ifNo H35 D8_15 (pc' := 18) rfl (by decide) ?_
      refine G.iconst H35 D8_18 (pc' := 19) rfl (v := 1) rfl ?_
      refine G.goto H35 D8_19 (by decide) (pc' := 23) rfl ?_
      have K37 : Keep h0 h19_ [] := (Keep.ext (Keep.ext (Keep.refl h0 []) E3) E21)
      exact G.retN H35 (t := .boolean) rfl (by decide) D8_23 (so := []) all0 (by decide) (by decide) ⟨c36, rfl, rfl, K37⟩
set_option maxRecDepth 65536 in
set_option maxHeartbeats 40000000 in
theorem cut60_101 (V : Env1 Z a0 n0 uu0 uu1) (x90101 : Int32) (x70000 : Int32) (x70001 : Int32) (x70002 : Int32) (x70003 : Int32) (x2 : Int32) (x70007 : Int32) (p0 : Addr) (c0 : ClassId) (e0 : Int32) (e1 : Int32) (e2 : Int32) (e3 : Int32) (e4 : Int32) (e5 : Int32) (e6 : Int32) (e7 : Int32) (e8 : Int32) (e9 : Int32) (x3 : Int32) (H : Hs p l e room_1 s m as' below meth c Z a0 ELs True x.cls n0 code maxLocals ret x.name T h0 1 10 []) (re0 : ¬ e0 < 0 ∧ ¬ 255 < e0) (qe0 : e0 = 67) (re1 : ¬ e1 < 0 ∧ ¬ 255 < e1) (qe1 : e1 = 79) (re2 : ¬ e2 < 0 ∧ ¬ 255 < e2) (qe2 : e2 = 78) (re3 : ¬ e3 < 0 ∧ ¬ 255 < e3) (qe3 : e3 = 78) (re4 : ¬ e4 < 0 ∧ ¬ 255 < e4) (qe4 : e4 = (x2 &&& 255)) (re5 : ¬ e5 < 0 ∧ ¬ 255 < e5) (qe5 : e5 = 67) (re6 : ¬ e6 < 0 ∧ ¬ 255 < e6) (qe6 : e6 = 84) (re7 : ¬ e7 < 0 ∧ ¬ 255 < e7) (qe7 : e7 = 69) (re8 : ¬ e8 < 0 ∧ ¬ 255 < e8) (qe8 : e8 = 68) (re9 : ¬ e9 < 0 ∧ ¬ 255 < e9) (qe9 : e9 = (x3 &&& 255)) (fA8 : Arv Z h0 p0 c0 .char 10 [(.int e0), (.int e1), (.int e2), (.int e3), (.int e4), (.int e5), (.int e6), (.int e7), (.int e8), (.int e9)] (.int 0)) (sp : x90101 = 0 ∨ x90101 = 1 ∨ x90101 = 2 ∨ x90101 = 3 ∨ x90101 = 4 ∨ x90101 = 5 ∨ x90101 = 6 ∨ x90101 = 7 ∨ x90101 = 8 ∨ x90101 = 9 ∨ x90101 = 10) :
    Go p e below (FinP s below Z ELs True n0 room_1.cells room_1.slots (fun v h so => v = some (.int 1))) (T.setTop (mkF m 101 #[.val (.int x70000), .val (.int x70001), .val (.int x70002), .val (.int x70003), .val (.int x90101), .val (.int 4), .val (.int (x2 &&& 255)), .val (.int x70007), .val (.ref p0), .unset, .unset] [])) := by
  rcases sp with rfl | rfl | rfl | rfl | rfl | rfl | rfl | rfl | rfl | rfl | rfl
  ·
    refine G.aload H at_101 (pc' := 103) rfl rfl rfl ?_
    refine G.iload H at_103 (pc' := 105) rfl rfl ?_
    refine G.callS H (m3_cut V p0 h0 H.old) (wd2 V) (wd3 V) (wd4 V) (wd5 V) (by decide) (argsL := [(.ref p0), (.int 0)]) (rest := []) (W := 0) rfl rfl (lenOf (pd_2) rfl) rfl rfl at_105 (pc' := 108) rfl (by decide) (by decide) (by decide) (by decide) all0 ?_
    intro T1 h1_ v2 s3 H1 Q4
    obtain ⟨a5, a6, k7, rfl, rfl, K8, g9, F10, F11, F12, F13⟩ := Q4
    have na5 : n0 ≤ a5 := Nat.le_trans H.le g9
    show Go p e below _ (T1.setTop (mkF m 108 #[.val (.int x70000), .val (.int x70001), .val (.int x70002), .val (.int x70003), .val (.int 0), .val (.int 4), .val (.int (x2 &&& 255)), .val (.int x70007), .val (.ref p0), .unset, .unset] [(.ref a5)]))
    refine G.astore H1 (L' := #[.val (.int x70000), .val (.int x70001), .val (.int x70002), .val (.int x70003), .val (.int 0), .val (.int 4), .val (.int (x2 &&& 255)), .val (.int x70007), .val (.ref p0), .val (.ref a5), .unset]) at_108 (pc' := 110) rfl rfl rfl ?_
    refine G.iload H1 at_110 (pc' := 112) rfl rfl ?_
    refine G.bipush H1 at_112 (pc' := 114) rfl (v := 7) rfl ?_
    refine G.icmpNo H1 at_114 (pc' := 117) rfl (by decide) ?_
    refine G.iload H1 at_117 (pc' := 119) rfl rfl ?_
    refine G.bipush H1 at_119 (pc' := 121) rfl (v := 9) rfl ?_
    refine G.icmpYes H1 at_121 (by decide) (by decide) (pc' := 147) rfl ?_
    refine G.iconst H1 at_147 (pc' := 148) rfl (v := 0) rfl ?_
    refine G.istore H1 (L' := #[.val (.int x70000), .val (.int x70001), .val (.int x70002), .val (.int x70003), .val (.int 0), .val (.int 4), .val (.int (x2 &&& 255)), .val (.int x70007), .val (.ref p0), .val (.ref a5), .val (.int 0)]) at_148 (pc' := 150) rfl rfl ?_
    refine G.aload H1 at_150 (pc' := 152) rfl rfl rfl ?_
    have S14 : Str Z h1_ a5 a6 k7 [] := ⟨F10, F12, F11, F13, cb0, Nat.le_of_ble_eq_true rfl⟩
    refine G.callS H1 (m4_apply V a5 a6 k7 h1_ H1.old S14) (wd27 V) (wd28 V) (wd29 V) (wd30 V) (by decide) (argsL := [(.ref a5)]) (rest := []) (W := 0) rfl rfl (lenOf (pd_3) rfl) rfl rfl at_152 (pc' := 155) rfl (by decide) (by decide) (by decide) (by decide) (allS (mG (i := 0) rfl) all0) ?_
    intro T15 h15_ v16 s17 H15 Q18
    obtain ⟨rfl, rfl, K19⟩ := Q18
    show Go p e below _ (T15.setTop (mkF m 155 #[.val (.int x70000), .val (.int x70001), .val (.int x70002), .val (.int x70003), .val (.int 0), .val (.int 4), .val (.int (x2 &&& 255)), .val (.int x70007), .val (.ref p0), .val (.ref a5), .val (.int 0)] [(.int 1)]))
    refine G.iload H15 at_155 (pc' := 157) rfl rfl ?_
    refine G.ifNo H15 at_157 (pc' := 160) rfl (by decide) ?_
    refine G.iconst H15 at_160 (pc' := 161) rfl (v := 1) rfl ?_
    refine G.goto H15 at_161 (by decide) (pc' := 165) rfl ?_
    refine G.icmpNo H15 at_165 (pc' := 168) rfl (by decide) ?_
    refine G.iconst H15 at_168 (pc' := 169) rfl (v := 1) rfl ?_
    refine G.goto H15 at_169 (by decide) (pc' := 173) rfl ?_
    exact G.retN H15 (t := .boolean) rfl (by decide) at_173 (so := []) all0 (by decide) (by decide) rfl
  ·
    refine G.aload H at_101 (pc' := 103) rfl rfl rfl ?_
    refine G.iload H at_103 (pc' := 105) rfl rfl ?_
    refine G.callS H (m5_cut V p0 c0 e0 e1 e2 e3 e4 e5 e6 e7 e8 e9 h0 H.old fA8 (own_u16 re0) re0) (wd2 V) (wd3 V) (wd4 V) (wd5 V) (by decide) (argsL := [(.ref p0), (.int 1)]) (rest := []) (W := 0) rfl rfl (lenOf (pd_2) rfl) rfl rfl at_105 (pc' := 108) rfl (by decide) (by decide) (by decide) (by decide) all0 ?_
    intro T20 h20_ v21 s22 H20 Q23
    obtain ⟨a24, a25, k26, rfl, rfl, K27, g28, g29, F30⟩ := Q23
    have na24 : n0 ≤ a24 := Nat.le_trans H.le g28
    have na25 : n0 ≤ a25 := Nat.le_trans H.le (Nat.le_of_lt (Nat.lt_of_le_of_lt g28 g29))
    show Go p e below _ (T20.setTop (mkF m 108 #[.val (.int x70000), .val (.int x70001), .val (.int x70002), .val (.int x70003), .val (.int 1), .val (.int 4), .val (.int (x2 &&& 255)), .val (.int x70007), .val (.ref p0), .unset, .unset] [(.ref a24)]))
    refine G.astore H20 (L' := #[.val (.int x70000), .val (.int x70001), .val (.int x70002), .val (.int x70003), .val (.int 1), .val (.int 4), .val (.int (x2 &&& 255)), .val (.int x70007), .val (.ref p0), .val (.ref a24), .unset]) at_108 (pc' := 110) rfl rfl rfl ?_
    refine G.iload H20 at_110 (pc' := 112) rfl rfl ?_
    refine G.bipush H20 at_112 (pc' := 114) rfl (v := 7) rfl ?_
    refine G.icmpNo H20 at_114 (pc' := 117) rfl (by decide) ?_
    refine G.iload H20 at_117 (pc' := 119) rfl rfl ?_
    refine G.bipush H20 at_119 (pc' := 121) rfl (v := 9) rfl ?_
    refine G.icmpYes H20 at_121 (by decide) (by decide) (pc' := 147) rfl ?_
    refine G.iconst H20 at_147 (pc' := 148) rfl (v := 0) rfl ?_
    refine G.istore H20 (L' := #[.val (.int x70000), .val (.int x70001), .val (.int x70002), .val (.int x70003), .val (.int 1), .val (.int 4), .val (.int (x2 &&& 255)), .val (.int x70007), .val (.ref p0), .val (.ref a24), .val (.int 0)]) at_148 (pc' := 150) rfl rfl ?_
    refine G.aload H20 at_150 (pc' := 152) rfl rfl rfl ?_
    refine G.callS H20 (m6_apply V a24 a25 k26 e0 h20_ H20.old F30) (wd27 V) (wd28 V) (wd29 V) (wd30 V) (by decide) (argsL := [(.ref a24)]) (rest := []) (W := 0) rfl rfl (lenOf (pd_3) rfl) rfl rfl at_152 (pc' := 155) rfl (by decide) (by decide) (by decide) (by decide) (allS (mG (i := 0) rfl) (allS (mG (i := 1) rfl) all0)) ?_
    intro T31 h31_ v32 s33 H31 Q34
    obtain ⟨rfl, rfl, K35⟩ := Q34
    show Go p e below _ (T31.setTop (mkF m 155 #[.val (.int x70000), .val (.int x70001), .val (.int x70002), .val (.int x70003), .val (.int 1), .val (.int 4), .val (.int (x2 &&& 255)), .val (.int x70007), .val (.ref p0), .val (.ref a24), .val (.int 0)] [(.int 1)]))
    refine G.iload H31 at_155 (pc' := 157) rfl rfl ?_
    refine G.ifNo H31 at_157 (pc' := 160) rfl (by decide) ?_
    refine G.iconst H31 at_160 (pc' := 161) rfl (v := 1) rfl ?_
    refine G.goto H31 at_161 (by decide) (pc' := 165) rfl ?_
    refine G.icmpNo H31 at_165 (pc' := 168) rfl (by decide) ?_
    refine G.iconst H31 at_168 (pc' := 169) rfl (v := 1) rfl ?_
    refine G.goto H31 at_169 (by decide) (pc' := 173) rfl ?_
    exact G.retN H31 (t := .boolean) rfl (by decide) at_173 (so := []) all0 (by decide) (by decide) rfl
  ·
    refine G.aload H at_101 (pc' := 103) rfl rfl rfl ?_
    refine G.iload H at_103 (pc' := 105) rfl rfl ?_
    refine G.callS H (m7_cut V p0 c0 e0 e1 e2 e3 e4 e5 e6 e7 e8 e9 h0 H.old fA8 (own_u16 re0) (own_u16 re1) re1 re0) (wd2 V) (wd3 V) (wd4 V) (wd5 V) (by decide) (argsL := [(.ref p0), (.int 2)]) (rest := []) (W := 0) rfl rfl (lenOf (pd_2) rfl) rfl rfl at_105 (pc' := 108) rfl (by decide) (by decide) (by decide) (by decide) all0 ?_
    intro T36 h36_ v37 s38 H36 Q39
    obtain ⟨a40, a41, k42, rfl, rfl, K43, g44, g45, F46⟩ := Q39
    have na40 : n0 ≤ a40 := Nat.le_trans H.le g44
    have na41 : n0 ≤ a41 := Nat.le_trans H.le (Nat.le_of_lt (Nat.lt_of_le_of_lt g44 g45))
    show Go p e below _ (T36.setTop (mkF m 108 #[.val (.int x70000), .val (.int x70001), .val (.int x70002), .val (.int x70003), .val (.int 2), .val (.int 4), .val (.int (x2 &&& 255)), .val (.int x70007), .val (.ref p0), .unset, .unset] [(.ref a40)]))
    refine G.astore H36 (L' := #[.val (.int x70000), .val (.int x70001), .val (.int x70002), .val (.int x70003), .val (.int 2), .val (.int 4), .val (.int (x2 &&& 255)), .val (.int x70007), .val (.ref p0), .val (.ref a40), .unset]) at_108 (pc' := 110) rfl rfl rfl ?_
    refine G.iload H36 at_110 (pc' := 112) rfl rfl ?_
    refine G.bipush H36 at_112 (pc' := 114) rfl (v := 7) rfl ?_
    refine G.icmpNo H36 at_114 (pc' := 117) rfl (by decide) ?_
    refine G.iload H36 at_117 (pc' := 119) rfl rfl ?_
    refine G.bipush H36 at_119 (pc' := 121) rfl (v := 9) rfl ?_
    refine G.icmpYes H36 at_121 (by decide) (by decide) (pc' := 147) rfl ?_
    refine G.iconst H36 at_147 (pc' := 148) rfl (v := 0) rfl ?_
    refine G.istore H36 (L' := #[.val (.int x70000), .val (.int x70001), .val (.int x70002), .val (.int x70003), .val (.int 2), .val (.int 4), .val (.int (x2 &&& 255)), .val (.int x70007), .val (.ref p0), .val (.ref a40), .val (.int 0)]) at_148 (pc' := 150) rfl rfl ?_
    refine G.aload H36 at_150 (pc' := 152) rfl rfl rfl ?_
    refine G.callS H36 (m8_apply V a40 a41 k42 e0 e1 h36_ H36.old F46) (wd27 V) (wd28 V) (wd29 V) (wd30 V) (by decide) (argsL := [(.ref a40)]) (rest := []) (W := 0) rfl rfl (lenOf (pd_3) rfl) rfl rfl at_152 (pc' := 155) rfl (by decide) (by decide) (by decide) (by decide) (allS (mG (i := 0) rfl) (allS (mG (i := 1) rfl) all0)) ?_
    intro T47 h47_ v48 s49 H47 Q50
    obtain ⟨rfl, rfl, K51⟩ := Q50
    show Go p e below _ (T47.setTop (mkF m 155 #[.val (.int x70000), .val (.int x70001), .val (.int x70002), .val (.int x70003), .val (.int 2), .val (.int 4), .val (.int (x2 &&& 255)), .val (.int x70007), .val (.ref p0), .val (.ref a40), .val (.int 0)] [(.int 1)]))
    refine G.iload H47 at_155 (pc' := 157) rfl rfl ?_
    refine G.ifNo H47 at_157 (pc' := 160) rfl (by decide) ?_
    refine G.iconst H47 at_160 (pc' := 161) rfl (v := 1) rfl ?_
    refine G.goto H47 at_161 (by decide) (pc' := 165) rfl ?_
    refine G.icmpNo H47 at_165 (pc' := 168) rfl (by decide) ?_
    refine G.iconst H47 at_168 (pc' := 169) rfl (v := 1) rfl ?_
    refine G.goto H47 at_169 (by decide) (pc' := 173) rfl ?_
    exact G.retN H47 (t := .boolean) rfl (by decide) at_173 (so := []) all0 (by decide) (by decide) rfl
  ·
    refine G.aload H at_101 (pc' := 103) rfl rfl rfl ?_
    refine G.iload H at_103 (pc' := 105) rfl rfl ?_
    refine G.callS H (m9_cut V p0 c0 e0 e1 e2 e3 e4 e5 e6 e7 e8 e9 h0 H.old fA8 (own_u16 re0) (own_u16 re1) (own_u16 re2) re2 re1 re0) (wd2 V) (wd3 V) (wd4 V) (wd5 V) (by decide) (argsL := [(.ref p0), (.int 3)]) (rest := []) (W := 0) rfl rfl (lenOf (pd_2) rfl) rfl rfl at_105 (pc' := 108) rfl (by decide) (by decide) (by decide) (by decide) all0 ?_
    intro T52 h52_ v53 s54 H52 Q55
    obtain ⟨a56, a57, k58, rfl, rfl, K59, g60, g61, F62⟩ := Q55
    have na56 : n0 ≤ a56 := Nat.le_trans H.le g60
    have na57 : n0 ≤ a57 := Nat.le_trans H.le (Nat.le_of_lt (Nat.lt_of_le_of_lt g60 g61))
    show Go p e below _ (T52.setTop (mkF m 108 #[.val (.int x70000), .val (.int x70001), .val (.int x70002), .val (.int x70003), .val (.int 3), .val (.int 4), .val (.int (x2 &&& 255)), .val (.int x70007), .val (.ref p0), .unset, .unset] [(.ref a56)]))
    refine G.astore H52 (L' := #[.val (.int x70000), .val (.int x70001), .val (.int x70002), .val (.int x70003), .val (.int 3), .val (.int 4), .val (.int (x2 &&& 255)), .val (.int x70007), .val (.ref p0), .val (.ref a56), .unset]) at_108 (pc' := 110) rfl rfl rfl ?_
    refine G.iload H52 at_110 (pc' := 112) rfl rfl ?_
    refine G.bipush H52 at_112 (pc' := 114) rfl (v := 7) rfl ?_
    refine G.icmpNo H52 at_114 (pc' := 117) rfl (by decide) ?_
    refine G.iload H52 at_117 (pc' := 119) rfl rfl ?_
    refine G.bipush H52 at_119 (pc' := 121) rfl (v := 9) rfl ?_
    refine G.icmpYes H52 at_121 (by decide) (by decide) (pc' := 147) rfl ?_
    refine G.iconst H52 at_147 (pc' := 148) rfl (v := 0) rfl ?_
    refine G.istore H52 (L' := #[.val (.int x70000), .val (.int x70001), .val (.int x70002), .val (.int x70003), .val (.int 3), .val (.int 4), .val (.int (x2 &&& 255)), .val (.int x70007), .val (.ref p0), .val (.ref a56), .val (.int 0)]) at_148 (pc' := 150) rfl rfl ?_
    refine G.aload H52 at_150 (pc' := 152) rfl rfl rfl ?_
    refine G.callS H52 (m10_apply V a56 a57 k58 e0 e1 e2 h52_ H52.old F62) (wd27 V) (wd28 V) (wd29 V) (wd30 V) (by decide) (argsL := [(.ref a56)]) (rest := []) (W := 0) rfl rfl (lenOf (pd_3) rfl) rfl rfl at_152 (pc' := 155) rfl (by decide) (by decide) (by decide) (by decide) (allS (mG (i := 0) rfl) (allS (mG (i := 1) rfl) all0)) ?_
    intro T63 h63_ v64 s65 H63 Q66
    obtain ⟨rfl, rfl, K67⟩ := Q66
    show Go p e below _ (T63.setTop (mkF m 155 #[.val (.int x70000), .val (.int x70001), .val (.int x70002), .val (.int x70003), .val (.int 3), .val (.int 4), .val (.int (x2 &&& 255)), .val (.int x70007), .val (.ref p0), .val (.ref a56), .val (.int 0)] [(.int 1)]))
    refine G.iload H63 at_155 (pc' := 157) rfl rfl ?_
    refine G.ifNo H63 at_157 (pc' := 160) rfl (by decide) ?_
    refine G.iconst H63 at_160 (pc' := 161) rfl (v := 1) rfl ?_
    refine G.goto H63 at_161 (by decide) (pc' := 165) rfl ?_
    refine G.icmpNo H63 at_165 (pc' := 168) rfl (by decide) ?_
    refine G.iconst H63 at_168 (pc' := 169) rfl (v := 1) rfl ?_
    refine G.goto H63 at_169 (by decide) (pc' := 173) rfl ?_
    exact G.retN H63 (t := .boolean) rfl (by decide) at_173 (so := []) all0 (by decide) (by decide) rfl
  ·
    refine G.aload H at_101 (pc' := 103) rfl rfl rfl ?_
    refine G.iload H at_103 (pc' := 105) rfl rfl ?_
    refine G.callS H (m11_cut V p0 c0 e0 e1 e2 e3 e4 e5 e6 e7 e8 e9 h0 H.old fA8 (own_u16 re0) (own_u16 re1) (own_u16 re2) (own_u16 re3) re3 re2 re1 re0) (wd2 V) (wd3 V) (wd4 V) (wd5 V) (by decide) (argsL := [(.ref p0), (.int 4)]) (rest := []) (W := 0) rfl rfl (lenOf (pd_2) rfl) rfl rfl at_105 (pc' := 108) rfl (by decide) (by decide) (by decide) (by decide) all0 ?_
    intro T68 h68_ v69 s70 H68 Q71
    obtain ⟨a72, a73, k74, rfl, rfl, K75, g76, g77, F78⟩ := Q71
    have na72 : n0 ≤ a72 := Nat.le_trans H.le g76
    have na73 : n0 ≤ a73 := Nat.le_trans H.le (Nat.le_of_lt (Nat.lt_of_le_of_lt g76 g77))
    show Go p e below _ (T68.setTop (mkF m 108 #[.val (.int x70000), .val (.int x70001), .val (.int x70002), .val (.int x70003), .val (.int 4), .val (.int 4), .val (.int (x2 &&& 255)), .val (.int x70007), .val (.ref p0), .unset, .unset] [(.ref a72)]))
    refine G.astore H68 (L' := #[.val (.int x70000), .val (.int x70001), .val (.int x70002), .val (.int x70003), .val (.int 4), .val (.int 4), .val (.int (x2 &&& 255)), .val (.int x70007), .val (.ref p0), .val (.ref a72), .unset]) at_108 (pc' := 110) rfl rfl rfl ?_
    refine G.iload H68 at_110 (pc' := 112) rfl rfl ?_
    refine G.bipush H68 at_112 (pc' := 114) rfl (v := 7) rfl ?_
    refine G.icmpNo H68 at_114 (pc' := 117) rfl (by decide) ?_
    refine G.iload H68 at_117 (pc' := 119) rfl rfl ?_
    refine G.bipush H68 at_119 (pc' := 121) rfl (v := 9) rfl ?_
    refine G.icmpYes H68 at_121 (by decide) (by decide) (pc' := 147) rfl ?_
    refine G.iconst H68 at_147 (pc' := 148) rfl (v := 0) rfl ?_
    refine G.istore H68 (L' := #[.val (.int x70000), .val (.int x70001), .val (.int x70002), .val (.int x70003), .val (.int 4), .val (.int 4), .val (.int (x2 &&& 255)), .val (.int x70007), .val (.ref p0), .val (.ref a72), .val (.int 0)]) at_148 (pc' := 150) rfl rfl ?_
    refine G.aload H68 at_150 (pc' := 152) rfl rfl rfl ?_
    refine G.callS H68 (m12_apply V a72 a73 k74 e0 e1 e2 e3 h68_ H68.old F78) (wd27 V) (wd28 V) (wd29 V) (wd30 V) (by decide) (argsL := [(.ref a72)]) (rest := []) (W := 0) rfl rfl (lenOf (pd_3) rfl) rfl rfl at_152 (pc' := 155) rfl (by decide) (by decide) (by decide) (by decide) (allS (mG (i := 0) rfl) (allS (mG (i := 1) rfl) all0)) ?_
    intro T79 h79_ v80 s81 H79 Q82
    obtain ⟨rfl, rfl, K83⟩ := Q82
    show Go p e below _ (T79.setTop (mkF m 155 #[.val (.int x70000), .val (.int x70001), .val (.int x70002), .val (.int x70003), .val (.int 4), .val (.int 4), .val (.int (x2 &&& 255)), .val (.int x70007), .val (.ref p0), .val (.ref a72), .val (.int 0)] [(.int 1)]))
    refine G.iload H79 at_155 (pc' := 157) rfl rfl ?_
    refine G.ifNo H79 at_157 (pc' := 160) rfl (by decide) ?_
    refine G.iconst H79 at_160 (pc' := 161) rfl (v := 1) rfl ?_
    refine G.goto H79 at_161 (by decide) (pc' := 165) rfl ?_
    refine G.icmpNo H79 at_165 (pc' := 168) rfl (by decide) ?_
    refine G.iconst H79 at_168 (pc' := 169) rfl (v := 1) rfl ?_
    refine G.goto H79 at_169 (by decide) (pc' := 173) rfl ?_
    exact G.retN H79 (t := .boolean) rfl (by decide) at_173 (so := []) all0 (by decide) (by decide) rfl
  ·
    refine G.aload H at_101 (pc' := 103) rfl rfl rfl ?_
    refine G.iload H at_103 (pc' := 105) rfl rfl ?_
    refine G.callS H (m13_cut V p0 c0 e0 e1 e2 e3 e4 e5 e6 e7 e8 e9 h0 H.old fA8 (own_u16 re0) (own_u16 re1) (own_u16 re2) (own_u16 re3) (own_u16 re4) re4 re3 re2 re1 re0) (wd2 V) (wd3 V) (wd4 V) (wd5 V) (by decide) (argsL := [(.ref p0), (.int 5)]) (rest := []) (W := 0) rfl rfl (lenOf (pd_2) rfl) rfl rfl at_105 (pc' := 108) rfl (by decide) (by decide) (by decide) (by decide) all0 ?_
    intro T84 h84_ v85 s86 H84 Q87
    obtain ⟨a88, a89, k90, rfl, rfl, K91, g92, g93, F94⟩ := Q87
    have na88 : n0 ≤ a88 := Nat.le_trans H.le g92
    have na89 : n0 ≤ a89 := Nat.le_trans H.le (Nat.le_of_lt (Nat.lt_of_le_of_lt g92 g93))
    show Go p e below _ (T84.setTop (mkF m 108 #[.val (.int x70000), .val (.int x70001), .val (.int x70002), .val (.int x70003), .val (.int 5), .val (.int 4), .val (.int (x2 &&& 255)), .val (.int x70007), .val (.ref p0), .unset, .unset] [(.ref a88)]))
    refine G.astore H84 (L' := #[.val (.int x70000), .val (.int x70001), .val (.int x70002), .val (.int x70003), .val (.int 5), .val (.int 4), .val (.int (x2 &&& 255)), .val (.int x70007), .val (.ref p0), .val (.ref a88), .unset]) at_108 (pc' := 110) rfl rfl rfl ?_
    refine G.iload H84 at_110 (pc' := 112) rfl rfl ?_
    refine G.bipush H84 at_112 (pc' := 114) rfl (v := 7) rfl ?_
    refine G.icmpNo H84 at_114 (pc' := 117) rfl (by decide) ?_
    refine G.iload H84 at_117 (pc' := 119) rfl rfl ?_
    refine G.bipush H84 at_119 (pc' := 121) rfl (v := 9) rfl ?_
    refine G.icmpYes H84 at_121 (by decide) (by decide) (pc' := 147) rfl ?_
    refine G.iconst H84 at_147 (pc' := 148) rfl (v := 0) rfl ?_
    refine G.istore H84 (L' := #[.val (.int x70000), .val (.int x70001), .val (.int x70002), .val (.int x70003), .val (.int 5), .val (.int 4), .val (.int (x2 &&& 255)), .val (.int x70007), .val (.ref p0), .val (.ref a88), .val (.int 0)]) at_148 (pc' := 150) rfl rfl ?_
    refine G.aload H84 at_150 (pc' := 152) rfl rfl rfl ?_
    refine G.callS H84 (m14_apply V a88 a89 k90 e0 e1 e2 e3 e4 h84_ H84.old F94) (wd27 V) (wd28 V) (wd29 V) (wd30 V) (by decide) (argsL := [(.ref a88)]) (rest := []) (W := 0) rfl rfl (lenOf (pd_3) rfl) rfl rfl at_152 (pc' := 155) rfl (by decide) (by decide) (by decide) (by decide) (allS (mG (i := 0) rfl) (allS (mG (i := 1) rfl) all0)) ?_
    intro T95 h95_ v96 s97 H95 Q98
    obtain ⟨rfl, rfl, K99⟩ := Q98
    show Go p e below _ (T95.setTop (mkF m 155 #[.val (.int x70000), .val (.int x70001), .val (.int x70002), .val (.int x70003), .val (.int 5), .val (.int 4), .val (.int (x2 &&& 255)), .val (.int x70007), .val (.ref p0), .val (.ref a88), .val (.int 0)] [(.int 1)]))
    refine G.iload H95 at_155 (pc' := 157) rfl rfl ?_
    refine G.ifNo H95 at_157 (pc' := 160) rfl (by decide) ?_
    refine G.iconst H95 at_160 (pc' := 161) rfl (v := 1) rfl ?_
    refine G.goto H95 at_161 (by decide) (pc' := 165) rfl ?_
    refine G.icmpNo H95 at_165 (pc' := 168) rfl (by decide) ?_
    refine G.iconst H95 at_168 (pc' := 169) rfl (v := 1) rfl ?_
    refine G.goto H95 at_169 (by decide) (pc' := 173) rfl ?_
    exact G.retN H95 (t := .boolean) rfl (by decide) at_173 (so := []) all0 (by decide) (by decide) rfl
  ·
    refine G.aload H at_101 (pc' := 103) rfl rfl rfl ?_
    refine G.iload H at_103 (pc' := 105) rfl rfl ?_
    refine G.callS H (m15_cut V p0 c0 e0 e1 e2 e3 e4 e5 e6 e7 e8 e9 h0 H.old fA8 (own_u16 re0) (own_u16 re1) (own_u16 re2) (own_u16 re3) (own_u16 re4) (own_u16 re5) re5 re4 re3 re2 re1 re0) (wd2 V) (wd3 V) (wd4 V) (wd5 V) (by decide) (argsL := [(.ref p0), (.int 6)]) (rest := []) (W := 0) rfl rfl (lenOf (pd_2) rfl) rfl rfl at_105 (pc' := 108) rfl (by decide) (by decide) (by decide) (by decide) all0 ?_
    intro T100 h100_ v101 s102 H100 Q103
    obtain ⟨a104, a105, k106, rfl, rfl, K107, g108, g109, F110⟩ := Q103
    have na104 : n0 ≤ a104 := Nat.le_trans H.le g108
    have na105 : n0 ≤ a105 := Nat.le_trans H.le (Nat.le_of_lt (Nat.lt_of_le_of_lt g108 g109))
    show Go p e below _ (T100.setTop (mkF m 108 #[.val (.int x70000), .val (.int x70001), .val (.int x70002), .val (.int x70003), .val (.int 6), .val (.int 4), .val (.int (x2 &&& 255)), .val (.int x70007), .val (.ref p0), .unset, .unset] [(.ref a104)]))
    refine G.astore H100 (L' := #[.val (.int x70000), .val (.int x70001), .val (.int x70002), .val (.int x70003), .val (.int 6), .val (.int 4), .val (.int (x2 &&& 255)), .val (.int x70007), .val (.ref p0), .val (.ref a104), .unset]) at_108 (pc' := 110) rfl rfl rfl ?_
    refine G.iload H100 at_110 (pc' := 112) rfl rfl ?_
    refine G.bipush H100 at_112 (pc' := 114) rfl (v := 7) rfl ?_
    refine G.icmpNo H100 at_114 (pc' := 117) rfl (by decide) ?_
    refine G.iload H100 at_117 (pc' := 119) rfl rfl ?_
    refine G.bipush H100 at_119 (pc' := 121) rfl (v := 9) rfl ?_
    refine G.icmpYes H100 at_121 (by decide) (by decide) (pc' := 147) rfl ?_
    refine G.iconst H100 at_147 (pc' := 148) rfl (v := 0) rfl ?_
    refine G.istore H100 (L' := #[.val (.int x70000), .val (.int x70001), .val (.int x70002), .val (.int x70003), .val (.int 6), .val (.int 4), .val (.int (x2 &&& 255)), .val (.int x70007), .val (.ref p0), .val (.ref a104), .val (.int 0)]) at_148 (pc' := 150) rfl rfl ?_
    refine G.aload H100 at_150 (pc' := 152) rfl rfl rfl ?_
    refine G.callS H100 (m16_apply V a104 a105 k106 e0 e1 e2 e3 e4 e5 h100_ H100.old F110) (wd27 V) (wd28 V) (wd29 V) (wd30 V) (by decide) (argsL := [(.ref a104)]) (rest := []) (W := 0) rfl rfl (lenOf (pd_3) rfl) rfl rfl at_152 (pc' := 155) rfl (by decide) (by decide) (by decide) (by decide) (allS (mG (i := 0) rfl) (allS (mG (i := 1) rfl) all0)) ?_
    intro T111 h111_ v112 s113 H111 Q114
    obtain ⟨rfl, rfl, K115⟩ := Q114
    show Go p e below _ (T111.setTop (mkF m 155 #[.val (.int x70000), .val (.int x70001), .val (.int x70002), .val (.int x70003), .val (.int 6), .val (.int 4), .val (.int (x2 &&& 255)), .val (.int x70007), .val (.ref p0), .val (.ref a104), .val (.int 0)] [(.int 1)]))
    refine G.iload H111 at_155 (pc' := 157) rfl rfl ?_
    refine G.ifNo H111 at_157 (pc' := 160) rfl (by decide) ?_
    refine G.iconst H111 at_160 (pc' := 161) rfl (v := 1) rfl ?_
    refine G.goto H111 at_161 (by decide) (pc' := 165) rfl ?_
    refine G.icmpNo H111 at_165 (pc' := 168) rfl (by decide) ?_
    refine G.iconst H111 at_168 (pc' := 169) rfl (v := 1) rfl ?_
    refine G.goto H111 at_169 (by decide) (pc' := 173) rfl ?_
    exact G.retN H111 (t := .boolean) rfl (by decide) at_173 (so := []) all0 (by decide) (by decide) rfl
  ·
    refine G.aload H at_101 (pc' := 103) rfl rfl rfl ?_
    refine G.iload H at_103 (pc' := 105) rfl rfl ?_
    refine G.callS H (m17_cut V p0 c0 e0 e1 e2 e3 e4 e5 e6 e7 e8 e9 h0 H.old fA8 (own_u16 re0) (own_u16 re1) (own_u16 re2) (own_u16 re3) (own_u16 re4) (own_u16 re5) (own_u16 re6) re6 re5 re4 re3 re2 re1 re0) (wd2 V) (wd3 V) (wd4 V) (wd5 V) (by decide) (argsL := [(.ref p0), (.int 7)]) (rest := []) (W := 0) rfl rfl (lenOf (pd_2) rfl) rfl rfl at_105 (pc' := 108) rfl (by decide) (by decide) (by decide) (by decide) all0 ?_
    intro T116 h116_ v117 s118 H116 Q119
    obtain ⟨a120, a121, k122, rfl, rfl, K123, g124, g125, F126⟩ := Q119
    have na120 : n0 ≤ a120 := Nat.le_trans H.le g124
    have na121 : n0 ≤ a121 := Nat.le_trans H.le (Nat.le_of_lt (Nat.lt_of_le_of_lt g124 g125))
    show Go p e below _ (T116.setTop (mkF m 108 #[.val (.int x70000), .val (.int x70001), .val (.int x70002), .val (.int x70003), .val (.int 7), .val (.int 4), .val (.int (x2 &&& 255)), .val (.int x70007), .val (.ref p0), .unset, .unset] [(.ref a120)]))
    refine G.astore H116 (L' := #[.val (.int x70000), .val (.int x70001), .val (.int x70002), .val (.int x70003), .val (.int 7), .val (.int 4), .val (.int (x2 &&& 255)), .val (.int x70007), .val (.ref p0), .val (.ref a120), .unset]) at_108 (pc' := 110) rfl rfl rfl ?_
    refine G.iload H116 at_110 (pc' := 112) rfl rfl ?_
    refine G.bipush H116 at_112 (pc' := 114) rfl (v := 7) rfl ?_
    refine G.icmpYes H116 at_114 (by decide) (by decide) (pc' := 124) rfl ?_
    refine G.iload H116 at_124 (pc' := 126) rfl rfl ?_
    refine G.iload H116 at_126 (pc' := 128) rfl rfl ?_
    refine G.icmpNo H116 at_128 (pc' := 131) rfl (by decide) ?_
    refine G.iload H116 at_131 (pc' := 133) rfl rfl ?_
    refine G.ldcS H116 trivial (wS V) (wd54 V) (by decide) (vs := [(.int 67), (.int 79), (.int 78), (.int 78), (.int 69), (.int 67), (.int 84), (.int 69), (.int 68)]) (z := 9) (by decide) (by decide) rfl (n := 36) (by decide) (by decide) (by decide) (by decide) at_133 (pc' := 135) rfl ?_
    intro T127 h127_ a128 b130 k131 H127 E129 X132 F133 F134 A135 Q136
    have S137 : Str Z h127_ a128 b130 k131 [67, 79, 78, 78, 69, 67, 84, 69, 68] := ⟨X132, F133, F134, A135, by decide, by decide⟩
    refine G.iload H127 at_135 (pc' := 137) rfl rfl ?_
    refine G.callV H127 (m57_charAt V a128 b130 k131 h127_ H127.old X132 F133 F134 A135) (wd55 V) (wd56 V) (nf_sel (wd58 V)) (wd58 V) (wd57 V) (wd8 V) (wd59 V) (by decide) X132 (argsL := [(.int 4)]) (rest := [(.int (x2 &&& 255))]) (W := 1) rfl rfl (lenOf (pd_8) rfl) rfl rfl at_137 (pc' := 140) rfl (by decide) (by decide) (by decide) (by decide) all0 ?_
    intro T138 h138_ v139 s140 H138 Q141
    obtain ⟨rfl, rfl, rfl⟩ := Q141
    show Go p e below _ (T138.setTop (mkF m 140 #[.val (.int x70000), .val (.int x70001), .val (.int x70002), .val (.int x70003), .val (.int 7), .val (.int 4), .val (.int (x2 &&& 255)), .val (.int x70007), .val (.ref p0), .val (.ref a120), .unset] [(.int 69), (.int (x2 &&& 255))]))
    by_cases c142 : (x2 &&& 255) = 69
    ·
      refine G.icmpNo H138 at_140 (pc' := 143) rfl (XT.ii_ne_f c142) ?_
      refine G.iconst H138 at_143 (pc' := 144) rfl (v := 1) rfl ?_
      refine G.goto H138 at_144 (by decide) (pc' := 148) rfl ?_
      refine G.istore H138 (L' := #[.val (.int x70000), .val (.int x70001), .val (.int x70002), .val (.int x70003), .val (.int 7), .val (.int 4), .val (.int (x2 &&& 255)), .val (.int x70007), .val (.ref p0), .val (.ref a120), .val (.int 1)]) at_148 (pc' := 150) rfl rfl ?_
      refine G.aload H138 at_150 (pc' := 152) rfl rfl rfl ?_
      have F143 := (Str.ext E129 F126)
      refine G.callS H138 (m23_apply V a120 a121 k122 e0 e1 e2 e3 e4 e5 e6 h127_ H138.old F143 qe0 qe1 qe2 qe3 (Eq.trans qe4 c142) qe5 qe6) (wd27 V) (wd28 V) (wd29 V) (wd30 V) (by decide) (argsL := [(.ref a120)]) (rest := []) (W := 0) rfl rfl (lenOf (pd_3) rfl) rfl rfl at_152 (pc' := 155) rfl (by decide) (by decide) (by decide) (by decide) all0 ?_
      intro T144 h144_ v145 s146 H144 Q147
      obtain ⟨c148, rfl, rfl, K149⟩ := Q147
      show Go p e below _ (T144.setTop (mkF m 155 #[.val (.int x70000), .val (.int x70001), .val (.int x70002), .val (.int x70003), .val (.int 7), .val (.int 4), .val (.int (x2 &&& 255)), .val (.int x70007), .val (.ref p0), .val (.ref a120), .val (.int 1)] [(.int 0)]))
      refine G.iload H144 at_155 (pc' := 157) rfl rfl ?_
      refine G.ifYes H144 at_157 (by decide) (by decide) (pc' := 164) rfl ?_
      refine G.iconst H144 at_164 (pc' := 165) rfl (v := 0) rfl ?_
      refine G.icmpNo H144 at_165 (pc' := 168) rfl (by decide) ?_
      refine G.iconst H144 at_168 (pc' := 169) rfl (v := 1) rfl ?_
      refine G.goto H144 at_169 (by decide) (pc' := 173) rfl ?_
      exact G.retN H144 (t := .boolean) rfl (by decide) at_173 (so := []) all0 (by decide) (by decide) rfl
    ·
      refine G.icmpYes H138 at_140 (XT.ii_ne_t c142) (by decide) (pc' := 147) rfl ?_
      refine G.iconst H138 at_147 (pc' := 148) rfl (v := 0) rfl ?_
      refine G.istore H138 (L' := #[.val (.int x70000), .val (.int x70001), .val (.int x70002), .val (.int x70003), .val (.int 7), .val (.int 4), .val (.int (x2 &&& 255)), .val (.int x70007), .val (.ref p0), .val (.ref a120), .val (.int 0)]) at_148 (pc' := 150) rfl rfl ?_
      refine G.aload H138 at_150 (pc' := 152) rfl rfl rfl ?_
      have F150 := (Str.ext E129 F126)
      refine G.callS H138 (m58_apply V a120 a121 k122 e0 e1 e2 e3 e4 e5 e6 h127_ H138.old F150 qe0 qe1 qe2 qe3 (fun qq => c142 (Eq.trans (Eq.symm qe4) qq)) qe5 qe6) (wd27 V) (wd28 V) (wd29 V) (wd30 V) (by decide) (argsL := [(.ref a120)]) (rest := []) (W := 0) rfl rfl (lenOf (pd_3) rfl) rfl rfl at_152 (pc' := 155) rfl (by decide) (by decide) (by decide) (by decide) (allS (mG (i := 0) rfl) (allS (mG (i := 1) rfl) all0)) ?_
      intro T151 h151_ v152 s153 H151 Q154
      obtain ⟨c155, rfl, rfl, K156⟩ := Q154
      show Go p e below _ (T151.setTop (mkF m 155 #[.val (.int x70000), .val (.int x70001), .val (.int x70002), .val (.int x70003), .val (.int 7), .val (.int 4), .val (.int (x2 &&& 255)), .val (.int x70007), .val (.ref p0), .val (.ref a120), .val (.int 0)] [(.int 1)]))
      refine G.iload H151 at_155 (pc' := 157) rfl rfl ?_
      refine G.ifNo H151 at_157 (pc' := 160) rfl (by decide) ?_
      refine G.iconst H151 at_160 (pc' := 161) rfl (v := 1) rfl ?_
      refine G.goto H151 at_161 (by decide) (pc' := 165) rfl ?_
      refine G.icmpNo H151 at_165 (pc' := 168) rfl (by decide) ?_
      refine G.iconst H151 at_168 (pc' := 169) rfl (v := 1) rfl ?_
      refine G.goto H151 at_169 (by decide) (pc' := 173) rfl ?_
      exact G.retN H151 (t := .boolean) rfl (by decide) at_173 (so := []) all0 (by decide) (by decide) rfl
  ·
    refine G.aload H at_101 (pc' := 103) rfl rfl rfl ?_
    refine G.iload H at_103 (pc' := 105) rfl rfl ?_
    refine G.callS H (m25_cut V p0 c0 e0 e1 e2 e3 e4 e5 e6 e7 e8 e9 h0 H.old fA8 (own_u16 re0) (own_u16 re1) (own_u16 re2) (own_u16 re3) (own_u16 re4) (own_u16 re5) (own_u16 re6) (own_u16 re7) re7 re6 re5 re4 re3 re2 re1 re0) (wd2 V) (wd3 V) (wd4 V) (wd5 V) (by decide) (argsL := [(.ref p0), (.int 8)]) (rest := []) (W := 0) rfl rfl (lenOf (pd_2) rfl) rfl rfl at_105 (pc' := 108) rfl (by decide) (by decide) (by decide) (by decide) all0 ?_
    intro T157 h157_ v158 s159 H157 Q160
    obtain ⟨a161, a162, k163, rfl, rfl, K164, g165, g166, F167⟩ := Q160
    have na161 : n0 ≤ a161 := Nat.le_trans H.le g165
    have na162 : n0 ≤ a162 := Nat.le_trans H.le (Nat.le_of_lt (Nat.lt_of_le_of_lt g165 g166))
    show Go p e below _ (T157.setTop (mkF m 108 #[.val (.int x70000), .val (.int x70001), .val (.int x70002), .val (.int x70003), .val (.int 8), .val (.int 4), .val (.int (x2 &&& 255)), .val (.int x70007), .val (.ref p0), .unset, .unset] [(.ref a161)]))
    refine G.astore H157 (L' := #[.val (.int x70000), .val (.int x70001), .val (.int x70002), .val (.int x70003), .val (.int 8), .val (.int 4), .val (.int (x2 &&& 255)), .val (.int x70007), .val (.ref p0), .val (.ref a161), .unset]) at_108 (pc' := 110) rfl rfl rfl ?_
    refine G.iload H157 at_110 (pc' := 112) rfl rfl ?_
    refine G.bipush H157 at_112 (pc' := 114) rfl (v := 7) rfl ?_
    refine G.icmpNo H157 at_114 (pc' := 117) rfl (by decide) ?_
    refine G.iload H157 at_117 (pc' := 119) rfl rfl ?_
    refine G.bipush H157 at_119 (pc' := 121) rfl (v := 9) rfl ?_
    refine G.icmpYes H157 at_121 (by decide) (by decide) (pc' := 147) rfl ?_
    refine G.iconst H157 at_147 (pc' := 148) rfl (v := 0) rfl ?_
    refine G.istore H157 (L' := #[.val (.int x70000), .val (.int x70001), .val (.int x70002), .val (.int x70003), .val (.int 8), .val (.int 4), .val (.int (x2 &&& 255)), .val (.int x70007), .val (.ref p0), .val (.ref a161), .val (.int 0)]) at_148 (pc' := 150) rfl rfl ?_
    refine G.aload H157 at_150 (pc' := 152) rfl rfl rfl ?_
    refine G.callS H157 (m26_apply V a161 a162 k163 e0 e1 e2 e3 e4 e5 e6 e7 h157_ H157.old F167) (wd27 V) (wd28 V) (wd29 V) (wd30 V) (by decide) (argsL := [(.ref a161)]) (rest := []) (W := 0) rfl rfl (lenOf (pd_3) rfl) rfl rfl at_152 (pc' := 155) rfl (by decide) (by decide) (by decide) (by decide) (allS (mG (i := 0) rfl) (allS (mG (i := 1) rfl) all0)) ?_
    intro T168 h168_ v169 s170 H168 Q171
    obtain ⟨rfl, rfl, K172⟩ := Q171
    show Go p e below _ (T168.setTop (mkF m 155 #[.val (.int x70000), .val (.int x70001), .val (.int x70002), .val (.int x70003), .val (.int 8), .val (.int 4), .val (.int (x2 &&& 255)), .val (.int x70007), .val (.ref p0), .val (.ref a161), .val (.int 0)] [(.int 1)]))
    refine G.iload H168 at_155 (pc' := 157) rfl rfl ?_
    refine G.ifNo H168 at_157 (pc' := 160) rfl (by decide) ?_
    refine G.iconst H168 at_160 (pc' := 161) rfl (v := 1) rfl ?_
    refine G.goto H168 at_161 (by decide) (pc' := 165) rfl ?_
    refine G.icmpNo H168 at_165 (pc' := 168) rfl (by decide) ?_
    refine G.iconst H168 at_168 (pc' := 169) rfl (v := 1) rfl ?_
    refine G.goto H168 at_169 (by decide) (pc' := 173) rfl ?_
    exact G.retN H168 (t := .boolean) rfl (by decide) at_173 (so := []) all0 (by decide) (by decide) rfl
  ·
    refine G.aload H at_101 (pc' := 103) rfl rfl rfl ?_
    refine G.iload H at_103 (pc' := 105) rfl rfl ?_
    refine G.callS H (m27_cut V p0 c0 e0 e1 e2 e3 e4 e5 e6 e7 e8 e9 h0 H.old fA8 (own_u16 re0) (own_u16 re1) (own_u16 re2) (own_u16 re3) (own_u16 re4) (own_u16 re5) (own_u16 re6) (own_u16 re7) (own_u16 re8) re8 re7 re6 re5 re4 re3 re2 re1 re0) (wd2 V) (wd3 V) (wd4 V) (wd5 V) (by decide) (argsL := [(.ref p0), (.int 9)]) (rest := []) (W := 0) rfl rfl (lenOf (pd_2) rfl) rfl rfl at_105 (pc' := 108) rfl (by decide) (by decide) (by decide) (by decide) all0 ?_
    intro T173 h173_ v174 s175 H173 Q176
    obtain ⟨a177, a178, k179, rfl, rfl, K180, g181, g182, F183⟩ := Q176
    have na177 : n0 ≤ a177 := Nat.le_trans H.le g181
    have na178 : n0 ≤ a178 := Nat.le_trans H.le (Nat.le_of_lt (Nat.lt_of_le_of_lt g181 g182))
    show Go p e below _ (T173.setTop (mkF m 108 #[.val (.int x70000), .val (.int x70001), .val (.int x70002), .val (.int x70003), .val (.int 9), .val (.int 4), .val (.int (x2 &&& 255)), .val (.int x70007), .val (.ref p0), .unset, .unset] [(.ref a177)]))
    refine G.astore H173 (L' := #[.val (.int x70000), .val (.int x70001), .val (.int x70002), .val (.int x70003), .val (.int 9), .val (.int 4), .val (.int (x2 &&& 255)), .val (.int x70007), .val (.ref p0), .val (.ref a177), .unset]) at_108 (pc' := 110) rfl rfl rfl ?_
    refine G.iload H173 at_110 (pc' := 112) rfl rfl ?_
    refine G.bipush H173 at_112 (pc' := 114) rfl (v := 7) rfl ?_
    refine G.icmpNo H173 at_114 (pc' := 117) rfl (by decide) ?_
    refine G.iload H173 at_117 (pc' := 119) rfl rfl ?_
    refine G.bipush H173 at_119 (pc' := 121) rfl (v := 9) rfl ?_
    refine G.icmpNo H173 at_121 (pc' := 124) rfl (by decide) ?_
    refine G.iload H173 at_124 (pc' := 126) rfl rfl ?_
    refine G.iload H173 at_126 (pc' := 128) rfl rfl ?_
    refine G.icmpNo H173 at_128 (pc' := 131) rfl (by decide) ?_
    refine G.iload H173 at_131 (pc' := 133) rfl rfl ?_
    refine G.ldcS H173 trivial (wS V) (wd54 V) (by decide) (vs := [(.int 67), (.int 79), (.int 78), (.int 78), (.int 69), (.int 67), (.int 84), (.int 69), (.int 68)]) (z := 9) (by decide) (by decide) rfl (n := 36) (by decide) (by decide) (by decide) (by decide) at_133 (pc' := 135) rfl ?_
    intro T184 h184_ a185 b187 k188 H184 E186 X189 F190 F191 A192 Q193
    have S194 : Str Z h184_ a185 b187 k188 [67, 79, 78, 78, 69, 67, 84, 69, 68] := ⟨X189, F190, F191, A192, by decide, by decide⟩
    refine G.iload H184 at_135 (pc' := 137) rfl rfl ?_
    refine G.callV H184 (m57_charAt V a185 b187 k188 h184_ H184.old X189 F190 F191 A192) (wd55 V) (wd56 V) (nf_sel (wd58 V)) (wd58 V) (wd57 V) (wd8 V) (wd59 V) (by decide) X189 (argsL := [(.int 4)]) (rest := [(.int (x2 &&& 255))]) (W := 1) rfl rfl (lenOf (pd_8) rfl) rfl rfl at_137 (pc' := 140) rfl (by decide) (by decide) (by decide) (by decide) all0 ?_
    intro T195 h195_ v196 s197 H195 Q198
    obtain ⟨rfl, rfl, rfl⟩ := Q198
    show Go p e below _ (T195.setTop (mkF m 140 #[.val (.int x70000), .val (.int x70001), .val (.int x70002), .val (.int x70003), .val (.int 9), .val (.int 4), .val (.int (x2 &&& 255)), .val (.int x70007), .val (.ref p0), .val (.ref a177), .unset] [(.int 69), (.int (x2 &&& 255))]))
    by_cases c199 : (x2 &&& 255) = 69
    ·
      refine G.icmpNo H195 at_140 (pc' := 143) rfl (XT.ii_ne_f c199) ?_
      refine G.iconst H195 at_143 (pc' := 144) rfl (v := 1) rfl ?_
      refine G.goto H195 at_144 (by decide) (pc' := 148) rfl ?_
      refine G.istore H195 (L' := #[.val (.int x70000), .val (.int x70001), .val (.int x70002), .val (.int x70003), .val (.int 9), .val (.int 4), .val (.int (x2 &&& 255)), .val (.int x70007), .val (.ref p0), .val (.ref a177), .val (.int 1)]) at_148 (pc' := 150) rfl rfl ?_
      refine G.aload H195 at_150 (pc' := 152) rfl rfl rfl ?_
      have F200 := (Str.ext E186 F183)
      refine G.callS H195 (m28_apply V a177 a178 k179 e0 e1 e2 e3 e4 e5 e6 e7 e8 h184_ H195.old F200 qe0 qe1 qe2 qe3 (Eq.trans qe4 c199) qe5 qe6 qe7 qe8) (wd27 V) (wd28 V) (wd29 V) (wd30 V) (by decide) (argsL := [(.ref a177)]) (rest := []) (W := 0) rfl rfl (lenOf (pd_3) rfl) rfl rfl at_152 (pc' := 155) rfl (by decide) (by decide) (by decide) (by decide) (allS (mG (i := 0) rfl) (allS (mG (i := 1) rfl) all0)) ?_
      intro T201 h201_ v202 s203 H201 Q204
      obtain ⟨c205, rfl, rfl, K206⟩ := Q204
      show Go p e below _ (T201.setTop (mkF m 155 #[.val (.int x70000), .val (.int x70001), .val (.int x70002), .val (.int x70003), .val (.int 9), .val (.int 4), .val (.int (x2 &&& 255)), .val (.int x70007), .val (.ref p0), .val (.ref a177), .val (.int 1)] [(.int 0)]))
      refine G.iload H201 at_155 (pc' := 157) rfl rfl ?_
      refine G.ifYes H201 at_157 (by decide) (by decide) (pc' := 164) rfl ?_
      refine G.iconst H201 at_164 (pc' := 165) rfl (v := 0) rfl ?_
      refine G.icmpNo H201 at_165 (pc' := 168) rfl (by decide) ?_
      refine G.iconst H201 at_168 (pc' := 169) rfl (v := 1) rfl ?_
      refine G.goto H201 at_169 (by decide) (pc' := 173) rfl ?_
      exact G.retN H201 (t := .boolean) rfl (by decide) at_173 (so := []) all0 (by decide) (by decide) rfl
    ·
      refine G.icmpYes H195 at_140 (XT.ii_ne_t c199) (by decide) (pc' := 147) rfl ?_
      refine G.iconst H195 at_147 (pc' := 148) rfl (v := 0) rfl ?_
      refine G.istore H195 (L' := #[.val (.int x70000), .val (.int x70001), .val (.int x70002), .val (.int x70003), .val (.int 9), .val (.int 4), .val (.int (x2 &&& 255)), .val (.int x70007), .val (.ref p0), .val (.ref a177), .val (.int 0)]) at_148 (pc' := 150) rfl rfl ?_
      refine G.aload H195 at_150 (pc' := 152) rfl rfl rfl ?_
      have F207 := (Str.ext E186 F183)
      refine G.callS H195 (m59_apply V a177 a178 k179 e0 e1 e2 e3 e4 e5 e6 e7 e8 h184_ H195.old F207 qe0 qe1 qe2 qe3 (fun qq => c199 (Eq.trans (Eq.symm qe4) qq)) qe5 qe6 qe7 qe8) (wd27 V) (wd28 V) (wd29 V) (wd30 V) (by decide) (argsL := [(.ref a177)]) (rest := []) (W := 0) rfl rfl (lenOf (pd_3) rfl) rfl rfl at_152 (pc' := 155) rfl (by decide) (by decide) (by decide) (by decide) (allS (mG (i := 0) rfl) (allS (mG (i := 1) rfl) all0)) ?_
      intro T208 h208_ v209 s210 H208 Q211
      obtain ⟨c212, rfl, rfl, K213⟩ := Q211
      show Go p e below _ (T208.setTop (mkF m 155 #[.val (.int x70000), .val (.int x70001), .val (.int x70002), .val (.int x70003), .val (.int 9), .val (.int 4), .val (.int (x2 &&& 255)), .val (.int x70007), .val (.ref p0), .val (.ref a177), .val (.int 0)] [(.int 1)]))
      refine G.iload H208 at_155 (pc' := 157) rfl rfl ?_
      refine G.ifNo H208 at_157 (pc' := 160) rfl (by decide) ?_
      refine G.iconst H208 at_160 (pc' := 161) rfl (v := 1) rfl ?_
      refine G.goto H208 at_161 (by decide) (pc' := 165) rfl ?_
      refine G.icmpNo H208 at_165 (pc' := 168) rfl (by decide) ?_
      refine G.iconst H208 at_168 (pc' := 169) rfl (v := 1) rfl ?_
      refine G.goto H208 at_169 (by decide) (pc' := 173) rfl ?_
      exact G.retN H208 (t := .boolean) rfl (by decide) at_173 (so := []) all0 (by decide) (by decide) rfl
  ·
    refine G.aload H at_101 (pc' := 103) rfl rfl rfl ?_
    refine G.iload H at_103 (pc' := 105) rfl rfl ?_
    refine G.callS H (m30_cut V p0 c0 e0 e1 e2 e3 e4 e5 e6 e7 e8 e9 h0 H.old fA8 (own_u16 re0) (own_u16 re1) (own_u16 re2) (own_u16 re3) (own_u16 re4) (own_u16 re5) (own_u16 re6) (own_u16 re7) (own_u16 re8) (own_u16 re9) re9 re8 re7 re6 re5 re4 re3 re2 re1 re0) (wd2 V) (wd3 V) (wd4 V) (wd5 V) (by decide) (argsL := [(.ref p0), (.int 10)]) (rest := []) (W := 0) rfl rfl (lenOf (pd_2) rfl) rfl rfl at_105 (pc' := 108) rfl (by decide) (by decide) (by decide) (by decide) all0 ?_
    intro T214 h214_ v215 s216 H214 Q217
    obtain ⟨a218, a219, k220, rfl, rfl, K221, g222, g223, F224⟩ := Q217
    have na218 : n0 ≤ a218 := Nat.le_trans H.le g222
    have na219 : n0 ≤ a219 := Nat.le_trans H.le (Nat.le_of_lt (Nat.lt_of_le_of_lt g222 g223))
    show Go p e below _ (T214.setTop (mkF m 108 #[.val (.int x70000), .val (.int x70001), .val (.int x70002), .val (.int x70003), .val (.int 10), .val (.int 4), .val (.int (x2 &&& 255)), .val (.int x70007), .val (.ref p0), .unset, .unset] [(.ref a218)]))
    refine G.astore H214 (L' := #[.val (.int x70000), .val (.int x70001), .val (.int x70002), .val (.int x70003), .val (.int 10), .val (.int 4), .val (.int (x2 &&& 255)), .val (.int x70007), .val (.ref p0), .val (.ref a218), .unset]) at_108 (pc' := 110) rfl rfl rfl ?_
    refine G.iload H214 at_110 (pc' := 112) rfl rfl ?_
    refine G.bipush H214 at_112 (pc' := 114) rfl (v := 7) rfl ?_
    refine G.icmpNo H214 at_114 (pc' := 117) rfl (by decide) ?_
    refine G.iload H214 at_117 (pc' := 119) rfl rfl ?_
    refine G.bipush H214 at_119 (pc' := 121) rfl (v := 9) rfl ?_
    refine G.icmpYes H214 at_121 (by decide) (by decide) (pc' := 147) rfl ?_
    refine G.iconst H214 at_147 (pc' := 148) rfl (v := 0) rfl ?_
    refine G.istore H214 (L' := #[.val (.int x70000), .val (.int x70001), .val (.int x70002), .val (.int x70003), .val (.int 10), .val (.int 4), .val (.int (x2 &&& 255)), .val (.int x70007), .val (.ref p0), .val (.ref a218), .val (.int 0)]) at_148 (pc' := 150) rfl rfl ?_
    refine G.aload H214 at_150 (pc' := 152) rfl rfl rfl ?_
    refine G.callS H214 (m31_apply V a218 a219 k220 e0 e1 e2 e3 e4 e5 e6 e7 e8 e9 h214_ H214.old F224) (wd27 V) (wd28 V) (wd29 V) (wd30 V) (by decide) (argsL := [(.ref a218)]) (rest := []) (W := 0) rfl rfl (lenOf (pd_3) rfl) rfl rfl at_152 (pc' := 155) rfl (by decide) (by decide) (by decide) (by decide) (allS (mG (i := 0) rfl) (allS (mG (i := 1) rfl) all0)) ?_
    intro T225 h225_ v226 s227 H225 Q228
    obtain ⟨rfl, rfl, K229⟩ := Q228
    show Go p e below _ (T225.setTop (mkF m 155 #[.val (.int x70000), .val (.int x70001), .val (.int x70002), .val (.int x70003), .val (.int 10), .val (.int 4), .val (.int (x2 &&& 255)), .val (.int x70007), .val (.ref p0), .val (.ref a218), .val (.int 0)] [(.int 1)]))
    refine G.iload H225 at_155 (pc' := 157) rfl rfl ?_
    refine G.ifNo H225 at_157 (pc' := 160) rfl (by decide) ?_
    refine G.iconst H225 at_160 (pc' := 161) rfl (v := 1) rfl ?_
    refine G.goto H225 at_161 (by decide) (pc' := 165) rfl ?_
    refine G.icmpNo H225 at_165 (pc' := 168) rfl (by decide) ?_
    refine G.iconst H225 at_168 (pc' := 169) rfl (v := 1) rfl ?_
    refine G.goto H225 at_169 (by decide) (pc' := 173) rfl ?_
    exact G.retN H225 (t := .boolean) rfl (by decide) at_173 (so := []) all0 (by decide) (by decide) rfl
set_option maxRecDepth 65536 in
set_option maxHeartbeats 40000000 in
theorem m61_checkIndex (V : Env1 Z a0 n0 uu0 uu1)  (h0 : Heap) (hO : Old Z n0 h0)  :
    Met Z a0 ELs True n0 l (⟨"jdk/internal/util/Preconditions", "checkIndex", "(IILjava/util/function/BiFunction;)I"⟩ : MethodName) jdk_41_method_11_code 3 (Option.some FieldType.int) ({ frames := 0, cells := 0, slots := 0, locals := 0 } : Room) #[(.int 5), (.int 9), uu1] h0 [] (fun v h so => (v = some (.int 5) ∧ so = [] ∧ h0 = h)) := by
  refine Met.of (EWl V) (by first | decide +kernel | rfl) hO (L0 := #[.val (.int 5), .val (.int 9), .val uu1]) (by rcases XT.refc (hv3 V) with rfl | ⟨_, rfl⟩ <;> rfl) ?_
  intro p e s m below meth c T H
  show Go p e below _ (T.setTop (mkF m 0 #[.val (.int 5), .val (.int 9), .val uu1] []))
  refine G.iloadN H D0_0 (pc' := 1) rfl rfl ?_
  refine G.ifNo H D0_1 (pc' := 4) rfl (by decide) ?_
  refine G.iloadN H D0_4 (pc' := 5) rfl rfl ?_
  refine G.iloadN H D0_5 (pc' := 6) rfl rfl ?_
  refine G.icmpYes H D0_6 (by decide) (by decide) (pc' := 16) rfl ?_
  refine G.iloadN H D0_16 (pc' := 17) rfl rfl ?_
  exact G.retI H rfl D0_17 (so := []) all0 (by decide) (by decide) ⟨rfl, rfl, rfl⟩
set_option maxRecDepth 65536 in
set_option maxHeartbeats 40000000 in
theorem m62_checkIndex (V : Env1 Z a0 n0 uu0 uu1)  (h0 : Heap) (hO : Old Z n0 h0)  :
    Met Z a0 ELs True n0 l (⟨"java/lang/String", "checkIndex", "(II)V"⟩ : MethodName) jdk_42_method_155_code 2 (Option.none : Option FieldType) ({ frames := 1, cells := 0, slots := 0, locals := 14 } : Room) #[(.int 5), (.int 9)] h0 [] (fun v h so => (v = none ∧ so = [] ∧ h0 = h)) := by
  refine Met.of (EWl V) (by first | decide +kernel | rfl) hO (L0 := #[.val (.int 5), .val (.int 9)]) rfl ?_
  intro p e s m below meth c T H
  show Go p e below _ (T.setTop (mkF m 0 #[.val (.int 5), .val (.int 9)] []))
  refine G.iloadN H D3_0 (pc' := 1) rfl rfl ?_
  refine G.iloadN H D3_1 (pc' := 2) rfl rfl ?_
  refine G.getS H (wd71 V) Via.refl (Sta.ext H.old.2 (hv2 V)) D3_2 (pc' := 5) rfl ?_
  intro T1 H2
  refine G.callS H2 (m61_checkIndex V h0 H2.old) (wd73 V) (wd74 V) (wd72 V) (wd75 V) (by decide) (argsL := [(.int 5), (.int 9), uu1]) (rest := []) (W := 0) rfl rfl (lenOf (pd_5) rfl) rfl rfl D3_5 (pc' := 8) rfl (by decide) (by decide) (by decide) (by decide) all0 ?_
  intro T3 h3_ v4 s5 H3 Q6
  obtain ⟨rfl, rfl, rfl⟩ := Q6
  show Go p e below _ (T3.setTop (mkF m 8 #[.val (.int 5), .val (.int 9)] [(.int 5)]))
  refine G.pop H3 D3_8 (pc' := 9) rfl rfl ?_
  exact G.retV H3 rfl D3_9 (so := []) all0 (by decide) (by decide) ⟨rfl, rfl, rfl⟩
set_option maxRecDepth 65536 in
set_option maxHeartbeats 40000000 in
theorem m63_charAt (V : Env1 Z a0 n0 uu0 uu1) (p0 : Addr) (c0 : ClassId) (h0 : Heap) (hO : Old Z n0 h0) (f0 : Arv Z h0 p0 c0 .byte 9 [(.int 67), (.int 79), (.int 78), (.int 78), (.int 69), (.int 67), (.int 84), (.int 69), (.int 68)] (.int 0)) :
    Met Z a0 ELs True n0 l (⟨"java/lang/StringLatin1", "charAt", "([BI)C"⟩ : MethodName) jdk_43_method_2_code 2 (Option.some FieldType.char) ({ frames := 2, cells := 0, slots := 0, locals := 27 } : Room) #[(.ref p0), (.int 5)] h0 [] (fun v h so => (v = some (.int 67) ∧ so = [] ∧ h0 = h)) := by
  refine Met.of (EWl V) (by first | decide +kernel | rfl) hO (L0 := #[.val (.ref p0), .val (.int 5)]) rfl ?_
  intro p e s m below meth c T H
  show Go p e below _ (T.setTop (mkF m 0 #[.val (.ref p0), .val (.int 5)] []))
  refine G.iloadN H D6_0 (pc' := 1) rfl rfl ?_
  refine G.aloadN H D6_1 (pc' := 2) rfl rfl rfl ?_
  refine G.arrlen H f0 D6_2 (pc' := 3) rfl ?_
  refine G.callS H (m62_checkIndex V h0 H.old) (wd68 V) (wd69 V) (wd8 V) (wd70 V) (by decide) (argsL := [(.int 5), (.int 9)]) (rest := []) (W := 0) rfl rfl (lenOf (pd_6) rfl) rfl rfl D6_3 (pc' := 6) rfl (by decide) (by decide) (by decide) (by decide) all0 ?_
  intro T1 h1_ v2 s3 H1 Q4
  obtain ⟨rfl, rfl, rfl⟩ := Q4
  show Go p e below _ (T1.setTop (mkF m 6 #[.val (.ref p0), .val (.int 5)] []))
  refine G.aloadN H1 D6_6 (pc' := 7) rfl rfl rfl ?_
  refine G.iloadN H1 D6_7 (pc' := 8) rfl rfl ?_
  refine G.baloadG H1 f0 (j := 5) (v := (.int 67)) (by decide) rfl D6_8 (pc' := 9) rfl ?_
  refine G.sipush H1 D6_9 (pc' := 12) rfl (v := 255) rfl ?_
  refine G.iand H1 D6_12 (pc' := 13) rfl ?_
  show Go p e below _ (T1.setTop (mkF m 13 #[.val (.ref p0), .val (.int 5)] [(.int 67)]))
  refine G.i2c H1 (y := 67) D6_13 (pc' := 14) rfl rfl ?_
  exact G.retN H1 (t := .char) rfl (by decide) D6_14 (so := []) all0 (by decide) (by decide) ⟨rfl, rfl, rfl⟩
set_option maxRecDepth 65536 in
set_option maxHeartbeats 40000000 in
theorem m64_charAt (V : Env1 Z a0 n0 uu0 uu1) (p0 : Addr) (p1 : Addr) (c0 : ClassId) (h0 : Heap) (hO : Old Z n0 h0) (f0 : Exa Z h0 p0 "java/lang/String") (f1 : Fld Z h0 p0 "java/lang/String" "coder" "B" (.int 0)) (f2 : Fld Z h0 p0 "java/lang/String" "value" "[B" (.ref p1)) (f3 : Arv Z h0 p1 c0 .byte 9 [(.int 67), (.int 79), (.int 78), (.int 78), (.int 69), (.int 67), (.int 84), (.int 69), (.int 68)] (.int 0)) :
    Met Z a0 ELs True n0 l (⟨"java/lang/String", "charAt", "(I)C"⟩ : MethodName) jdk_42_method_56_code 2 (Option.some FieldType.char) ({ frames := 3, cells := 0, slots := 0, locals := 40 } : Room) #[(.ref p0), (.int 5)] h0 [] (fun v h so => (v = some (.int 67) ∧ so = [] ∧ h0 = h)) := by
  refine Met.of (EWl V) (by first | decide +kernel | rfl) hO (L0 := #[.val (.ref p0), .val (.int 5)]) rfl ?_
  intro p e s m below meth c T H
  show Go p e below _ (T.setTop (mkF m 0 #[.val (.ref p0), .val (.int 5)] []))
  refine G.aloadN H D5_0 (pc' := 1) rfl rfl rfl ?_
  refine G.callV H (m18_isLatin1 V p0 h0 H.old f1) (wd60 V) (wd61 V) (nf_sel (wd63 V)) (wd63 V) (wd62 V) (wd8 V) (wd64 V) (by decide) f0 (argsL := []) (rest := []) (W := 0) rfl rfl (lenOf (pd_4) rfl) rfl rfl D5_1 (pc' := 4) rfl (by decide) (by decide) (by decide) (by decide) all0 ?_
  intro T1 h1_ v2 s3 H1 Q4
  obtain ⟨rfl, rfl, rfl⟩ := Q4
  show Go p e below _ (T1.setTop (mkF m 4 #[.val (.ref p0), .val (.int 5)] [(.int 1)]))
  refine G.ifNo H1 D5_4 (pc' := 7) rfl (by decide) ?_
  refine G.aloadN H1 D5_7 (pc' := 8) rfl rfl rfl ?_
  refine G.getF H1 (wd25 V) Via.refl f2 D5_8 (pc' := 11) rfl ?_
  intro T5 H6
  refine G.iloadN H6 D5_11 (pc' := 12) rfl rfl ?_
  refine G.callS H6 (m63_charAt V p1 c0 h0 H6.old f3) (wd65 V) (wd66 V) (wd41 V) (wd67 V) (by decide) (argsL := [(.ref p1), (.int 5)]) (rest := []) (W := 0) rfl rfl (lenOf (pd_7) rfl) rfl rfl D5_12 (pc' := 15) rfl (by decide) (by decide) (by decide) (by decide) all0 ?_
  intro T7 h7_ v8 s9 H7 Q10
  obtain ⟨rfl, rfl, rfl⟩ := Q10
  show Go p e below _ (T7.setTop (mkF m 15 #[.val (.ref p0), .val (.int 5)] [(.int 67)]))
  exact G.retN H7 (t := .char) rfl (by decide) D5_15 (so := []) all0 (by decide) (by decide) ⟨rfl, rfl, rfl⟩
set_option maxRecDepth 65536 in
set_option maxHeartbeats 40000000 in
theorem m65_apply (V : Env1 Z a0 n0 uu0 uu1) (p0 : Addr) (p1 : Addr) (c0 : ClassId) (x0 : Int32) (x1 : Int32) (x2 : Int32) (x3 : Int32) (x4 : Int32) (x5 : Int32) (x6 : Int32) (h0 : Heap) (hO : Old Z n0 h0) (f0 : Str Z h0 p0 p1 c0 [x0, x1, x2, x3, x4, x5, x6]) (cc1 : x0 = 67) (cc2 : x1 = 79) (cc3 : x2 = 78) (cc4 : x3 = 78) (cc5 : x4 = 69) (cc6 : ¬ x5 = 67) (cc7 : x6 = 84) :
    Met Z a0 ELs True n0 l (⟨"bindery/server/stomp/HeaderEscapes", "apply", "(Ljava/lang/String;)Z"⟩ : MethodName) prog_84_method_2_code 1 (Option.some FieldType.boolean) ({ frames := 2, cells := 4, slots := 72, locals := 28 } : Room) #[(.ref p0)] h0 [p0, p1] (fun v h so => (¬ [x0, x1, x2, x3, x4, x5, x6] = [67, 79, 78, 78, 69, 67, 84] ∧ v = some (.int 1) ∧ so = [] ∧ Keep h0 h [])) := by
  refine Met.of (EWl V) (by first | decide +kernel | rfl) hO (L0 := #[.val (.ref p0)]) rfl ?_
  intro p e s m below meth c T H
  show Go p e below _ (T.setTop (mkF m 0 #[.val (.ref p0)] []))
  refine G.aloadN H D8_0 (pc' := 1) rfl rfl rfl ?_
  refine G.ldcS H trivial (wS V) (wd31 V) (by decide) (vs := [(.int 67), (.int 79), (.int 78), (.int 78), (.int 69), (.int 67), (.int 84)]) (z := 7) (by decide) (by decide) rfl (n := 28) (by decide) (by decide) (by decide) (by decide) D8_1 (pc' := 3) rfl ?_
  intro T1 h1_ a2 b4 k5 H1 E3 X6 F7 F8 A9 Q10
  have S11 : Str Z h1_ a2 b4 k5 [67, 79, 78, 78, 69, 67, 84] := ⟨X6, F7, F8, A9, by decide, by decide⟩
  have F12 := (Str.ext E3 f0)
  refine G.strEq H1 (strwEq V) (wd7 V) (wd32 V) (wd33 V) (wd35 V) (wd34 V) F12 S11 (hv0 V) (hv1 V) (rest := []) (W := 0) rfl rfl D8_3 (pc' := 6) rfl (by decide) (by decide) (by decide) (by decide) ?_ ?_
  ·
    intro T13 H14 c15
    exact absurd (List.cons.inj (List.cons.inj (List.cons.inj (List.cons.inj (List.cons.inj (List.cons.inj c15).2).2).2).2).2).1 cc6
  ·
    intro T16 H17 c18
    refine G.ifNo H17 D8_6 (pc' := 9) rfl (by decide) ?_
    refine G.aloadN H17 D8_9 (pc' := 10) rfl rfl rfl ?_
    refine G.ldcS H17 trivial (wS V) (wd43 V) (by decide) (vs := [(.int 67), (.int 79), (.int 78), (.int 78), (.int 69), (.int 67), (.int 84), (.int 69), (.int 68)]) (z := 9) (by decide) (by decide) rfl (n := 36) (by decide) (by decide) (by decide) (by decide) D8_10 (pc' := 12) rfl ?_
    intro T19 h19_ a20 b22 k23 H19 E21 X24 F25 F26 A27 Q28
    have S29 : Str Z h19_ a20 b22 k23 [67, 79, 78, 78, 69, 67, 84, 69, 68] := ⟨X24, F25, F26, A27, by decide, by decide⟩
    have F30 := (Str.ext E21 F12)
    refine G.strEq H19 (strwEq V) (wd7 V) (wd32 V) (wd33 V) (wd35 V) (wd34 V) F30 S29 (hv0 V) (hv1 V) (rest := []) (W := 0) rfl rfl D8_12 (pc' := 15) rfl (by decide) (by decide) (by decide) (by decide) ?_ ?_
    ·
      intro T31 H32 c33
      exact absurd c33 (by intro qq; simp at qq)
    ·
      intro T34 H35 c36
      refine G.ifNo H35 D8_15 (pc' := 18) rfl (by decide) ?_
      refine G.iconst H35 D8_18 (pc' := 19) rfl (v := 1) rfl ?_
      refine G.goto H35 D8_19 (by decide) (pc' := 23) rfl ?_
      have K37 : Keep h0 h19_ [] := (Keep.ext (Keep.ext (Keep.refl h0 []) E3) E21)
      exact G.retN H35 (t := .boolean) rfl (by decide) D8_23 (so := []) all0 (by decide) (by decide) ⟨c18, rfl, rfl, K37⟩
set_option maxRecDepth 65536 in
set_option maxHeartbeats 40000000 in
theorem m66_apply (V : Env1 Z a0 n0 uu0 uu1) (p0 : Addr) (p1 : Addr) (c0 : ClassId) (x0 : Int32) (x1 : Int32) (x2 : Int32) (x3 : Int32) (x4 : Int32) (x5 : Int32) (x6 : Int32) (x7 : Int32) (x8 : Int32) (h0 : Heap) (hO : Old Z n0 h0) (f0 : Str Z h0 p0 p1 c0 [x0, x1, x2, x3, x4, x5, x6, x7, x8]) (cc1 : x0 = 67) (cc2 : x1 = 79) (cc3 : x2 = 78) (cc4 : x3 = 78) (cc5 : x4 = 69) (cc6 : ¬ x5 = 67) (cc7 : x6 = 84) (cc8 : x7 = 69) (cc9 : x8 = 68) :
    Met Z a0 ELs True n0 l (⟨"bindery/server/stomp/HeaderEscapes", "apply", "(Ljava/lang/String;)Z"⟩ : MethodName) prog_84_method_2_code 1 (Option.some FieldType.boolean) ({ frames := 2, cells := 4, slots := 72, locals := 28 } : Room) #[(.ref p0)] h0 [p0, p1] (fun v h so => (¬ [x0, x1, x2, x3, x4, x5, x6, x7, x8] = [67, 79, 78, 78, 69, 67, 84, 69, 68] ∧ v = some (.int 1) ∧ so = [] ∧ Keep h0 h [])) := by
  refine Met.of (EWl V) (by first | decide +kernel | rfl) hO (L0 := #[.val (.ref p0)]) rfl ?_
  intro p e s m below meth c T H
  show Go p e below _ (T.setTop (mkF m 0 #[.val (.ref p0)] []))
  refine G.aloadN H D8_0 (pc' := 1) rfl rfl rfl ?_
  refine G.ldcS H trivial (wS V) (wd31 V) (by decide) (vs := [(.int 67), (.int 79), (.int 78), (.int 78), (.int 69), (.int 67), (.int 84)]) (z := 7) (by decide) (by decide) rfl (n := 28) (by decide) (by decide) (by decide) (by decide) D8_1 (pc' := 3) rfl ?_
  intro T1 h1_ a2 b4 k5 H1 E3 X6 F7 F8 A9 Q10
  have S11 : Str Z h1_ a2 b4 k5 [67, 79, 78, 78, 69, 67, 84] := ⟨X6, F7, F8, A9, by decide, by decide⟩
  have F12 := (Str.ext E3 f0)
  refine G.strEq H1 (strwEq V) (wd7 V) (wd32 V) (wd33 V) (wd35 V) (wd34 V) F12 S11 (hv0 V) (hv1 V) (rest := []) (W := 0) rfl rfl D8_3 (pc' := 6) rfl (by decide) (by decide) (by decide) (by decide) ?_ ?_
  ·
    intro T13 H14 c15
    exact absurd c15 (by intro qq; simp at qq)
  ·
    intro T16 H17 c18
    refine G.ifNo H17 D8_6 (pc' := 9) rfl (by decide) ?_
    refine G.aloadN H17 D8_9 (pc' := 10) rfl rfl rfl ?_
    refine G.ldcS H17 trivial (wS V) (wd43 V) (by decide) (vs := [(.int 67), (.int 79), (.int 78), (.int 78), (.int 69), (.int 67), (.int 84), (.int 69), (.int 68)]) (z := 9) (by decide) (by decide) rfl (n := 36) (by decide) (by decide) (by decide) (by decide) D8_10 (pc' := 12) rfl ?_
    intro T19 h19_ a20 b22 k23 H19 E21 X24 F25 F26 A27 Q28
    have S29 : Str Z h19_ a20 b22 k23 [67, 79, 78, 78, 69, 67, 84, 69, 68] := ⟨X24, F25, F26, A27, by decide, by decide⟩
    have F30 := (Str.ext E21 F12)
    refine G.strEq H19 (strwEq V) (wd7 V) (wd32 V) (wd33 V) (wd35 V) (wd34 V) F30 S29 (hv0 V) (hv1 V) (rest := []) (W := 0) rfl rfl D8_12 (pc' := 15) rfl (by decide) (by decide) (by decide) (by decide) ?_ ?_
    ·
      intro T31 H32 c33
      exact absurd (List.cons.inj (List.cons.inj (List.cons.inj (List.cons.inj (List.cons.inj (List.cons.inj c33).2).2).2).2).2).1 cc6
    ·
      intro T34 H35 c36
      refine G.ifNo H35 D8_15 (pc' := 18) rfl (by decide) ?_
      refine G.iconst H35 D8_18 (pc' := 19) rfl (v := 1) rfl ?_
      refine G.goto H35 D8_19 (by decide) (pc' := 23) rfl ?_
      have K37 : Keep h0 h19_ [] := (Keep.ext (Keep.ext (Keep.refl h0 []) E3) E21)
      exact G.retN H35 (t := .boolean) rfl (by decide) D8_23 (so := []) all0 (by decide) (by decide) ⟨c36, rfl, rfl, K37⟩
set_option maxRecDepth 65536 in
set_option maxHeartbeats 40000000 in
theorem cut67_101 (V : Env1 Z a0 n0 uu0 uu1) (x90101 : Int32) (x70000 : Int32) (x70001 : Int32) (x70002 : Int32) (x70003 : Int32) (x2 : Int32) (x70007 : Int32) (p0 : Addr) (c0 : ClassId) (e0 : Int32) (e1 : Int32) (e2 : Int32) (e3 : Int32) (e4 : Int32) (e5 : Int32) (e6 : Int32) (e7 : Int32) (e8 : Int32) (e9 : Int32) (x3 : Int32) (H : Hs p l e room_1 s m as' below meth c Z a0 ELs True x.cls n0 code maxLocals ret x.name T h0 1 10 []) (re0 : ¬ e0 < 0 ∧ ¬ 255 < e0) (qe0 : e0 = 67) (re1 : ¬ e1 < 0 ∧ ¬ 255 < e1) (qe1 : e1 = 79) (re2 : ¬ e2 < 0 ∧ ¬ 255 < e2) (qe2 : e2 = 78) (re3 : ¬ e3 < 0 ∧ ¬ 255 < e3) (qe3 : e3 = 78) (re4 : ¬ e4 < 0 ∧ ¬ 255 < e4) (qe4 : e4 = 69) (re5 : ¬ e5 < 0 ∧ ¬ 255 < e5) (qe5 : e5 = (x2 &&& 255)) (re6 : ¬ e6 < 0 ∧ ¬ 255 < e6) (qe6 : e6 = 84) (re7 : ¬ e7 < 0 ∧ ¬ 255 < e7) (qe7 : e7 = 69) (re8 : ¬ e8 < 0 ∧ ¬ 255 < e8) (qe8 : e8 = 68) (re9 : ¬ e9 < 0 ∧ ¬ 255 < e9) (qe9 : e9 = (x3 &&& 255)) (fA8 : Arv Z h0 p0 c0 .char 10 [(.int e0), (.int e1), (.int e2), (.int e3), (.int e4), (.int e5), (.int e6), (.int e7), (.int e8), (.int e9)] (.int 0)) (sp : x90101 = 0 ∨ x90101 = 1 ∨ x90101 = 2 ∨ x90101 = 3 ∨ x90101 = 4 ∨ x90101 = 5 ∨ x90101 = 6 ∨ x90101 = 7 ∨ x90101 = 8 ∨ x90101 = 9 ∨ x90101 = 10) :
    Go p e below (FinP s below Z ELs True n0 room_1.cells room_1.slots (fun v h so => v = some (.int 1))) (T.setTop (mkF m 101 #[.val (.int x70000), .val (.int x70001), .val (.int x70002), .val (.int x70003), .val (.int x90101), .val (.int 5), .val (.int (x2 &&& 255)), .val (.int x70007), .val (.ref p0), .unset, .unset] [])) := by
  rcases sp with rfl | rfl | rfl | rfl | rfl | rfl | rfl | rfl | rfl | rfl | rfl
  ·
    refine G.aload H at_101 (pc' := 103) rfl rfl rfl ?_
    refine G.iload H at_103 (pc' := 105) rfl rfl ?_
    refine G.callS H (m3_cut V p0 h0 H.old) (wd2 V) (wd3 V) (wd4 V) (wd5 V) (by decide) (argsL := [(.ref p0), (.int 0)]) (rest := []) (W := 0) rfl rfl (lenOf (pd_2) rfl) rfl rfl at_105 (pc' := 108) rfl (by decide) (by decide) (by decide) (by decide) all0 ?_
    intro T1 h1_ v2 s3 H1 Q4
    obtain ⟨a5, a6, k7, rfl, rfl, K8, g9, F10, F11, F12, F13⟩ := Q4
    have na5 : n0 ≤ a5 := Nat.le_trans H.le g9
    show Go p e below _ (T1.setTop (mkF m 108 #[.val (.int x70000), .val (.int x70001), .val (.int x70002), .val (.int x70003), .val (.int 0), .val (.int 5), .val (.int (x2 &&& 255)), .val (.int x70007), .val (.ref p0), .unset, .unset] [(.ref a5)]))
    refine G.astore H1 (L' := #[.val (.int x70000), .val (.int x70001), .val (.int x70002), .val (.int x70003), .val (.int 0), .val (.int 5), .val (.int (x2 &&& 255)), .val (.int x70007), .val (.ref p0), .val (.ref a5), .unset]) at_108 (pc' := 110) rfl rfl rfl ?_
    refine G.iload H1 at_110 (pc' := 112) rfl rfl ?_
    refine G.bipush H1 at_112 (pc' := 114) rfl (v := 7) rfl ?_
    refine G.icmpNo H1 at_114 (pc' := 117) rfl (by decide) ?_
    refine G.iload H1 at_117 (pc' := 119) rfl rfl ?_
    refine G.bipush H1 at_119 (pc' := 121) rfl (v := 9) rfl ?_
    refine G.icmpYes H1 at_121 (by decide) (by decide) (pc' := 147) rfl ?_
    refine G.iconst H1 at_147 (pc' := 148) rfl (v := 0) rfl ?_
    refine G.istore H1 (L' := #[.val (.int x70000), .val (.int x70001), .val (.int x70002), .val (.int x70003), .val (.int 0), .val (.int 5), .val (.int (x2 &&& 255)), .val (.int x70007), .val (.ref p0), .val (.ref a5), .val (.int 0)]) at_148 (pc' := 150) rfl rfl ?_
    refine G.aload H1 at_150 (pc' := 152) rfl rfl rfl ?_
    have S14 : Str Z h1_ a5 a6 k7 [] := ⟨F10, F12, F11, F13, cb0, Nat.le_of_ble_eq_true rfl⟩
    refine G.callS H1 (m4_apply V a5 a6 k7 h1_ H1.old S14) (wd27 V) (wd28 V) (wd29 V) (wd30 V) (by decide) (argsL := [(.ref a5)]) (rest := []) (W := 0) rfl rfl (lenOf (pd_3) rfl) rfl rfl at_152 (pc' := 155) rfl (by decide) (by decide) (by decide) (by decide) (allS (mG (i := 0) rfl) all0) ?_
    intro T15 h15_ v16 s17 H15 Q18
    obtain ⟨rfl, rfl, K19⟩ := Q18
    show Go p e below _ (T15.setTop (mkF m 155 #[.val (.int x70000), .val (.int x70001), .val (.int x70002), .val (.int x70003), .val (.int 0), .val (.int 5), .val (.int (x2 &&& 255)), .val (.int x70007), .val (.ref p0), .val (.ref a5), .val (.int 0)] [(.int 1)]))
    refine G.iload H15 at_155 (pc' := 157) rfl rfl ?_
    refine G.ifNo H15 at_157 (pc' := 160) rfl (by decide) ?_
    refine G.iconst H15 at_160 (pc' := 161) rfl (v := 1) rfl ?_
    refine G.goto H15 at_161 (by decide) (pc' := 165) rfl ?_
    refine G.icmpNo H15 at_165 (pc' := 168) rfl (by decide) ?_
    refine G.iconst H15 at_168 (pc' := 169) rfl (v := 1) rfl ?_
    refine G.goto H15 at_169 (by decide) (pc' := 173) rfl ?_
    exact G.retN H15 (t := .boolean) rfl (by decide) at_173 (so := []) all0 (by decide) (by decide) rfl
  ·
    refine G.aload H at_101 (pc' := 103) rfl rfl rfl ?_
    refine G.iload H at_103 (pc' := 105) rfl rfl ?_
    refine G.callS H (m5_cut V p0 c0 e0 e1 e2 e3 e4 e5 e6 e7 e8 e9 h0 H.old fA8 (own_u16 re0) re0) (wd2 V) (wd3 V) (wd4 V) (wd5 V) (by decide) (argsL := [(.ref p0), (.int 1)]) (rest := []) (W := 0) rfl rfl (lenOf (pd_2) rfl) rfl rfl at_105 (pc' := 108) rfl (by decide) (by decide) (by decide) (by decide) all0 ?_
    intro T20 h20_ v21 s22 H20 Q23
    obtain ⟨a24, a25, k26, rfl, rfl, K27, g28, g29, F30⟩ := Q23
    have na24 : n0 ≤ a24 := Nat.le_trans H.le g28
    have na25 : n0 ≤ a25 := Nat.le_trans H.le (Nat.le_of_lt (Nat.lt_of_le_of_lt g28 g29))
    show Go p e below _ (T20.setTop (mkF m 108 #[.val (.int x70000), .val (.int x70001), .val (.int x70002), .val (.int x70003), .val (.int 1), .val (.int 5), .val (.int (x2 &&& 255)), .val (.int x70007), .val (.ref p0), .unset, .unset] [(.ref a24)]))
    refine G.astore H20 (L' := #[.val (.int x70000), .val (.int x70001), .val (.int x70002), .val (.int x70003), .val (.int 1), .val (.int 5), .val (.int (x2 &&& 255)), .val (.int x70007), .val (.ref p0), .val (.ref a24), .unset]) at_108 (pc' := 110) rfl rfl rfl ?_
    refine G.iload H20 at_110 (pc' := 112) rfl rfl ?_
    refine G.bipush H20 at_112 (pc' := 114) rfl (v := 7) rfl ?_
    refine G.icmpNo H20 at_114 (pc' := 117) rfl (by decide) ?_
    refine G.iload H20 at_117 (pc' := 119) rfl rfl ?_
    refine G.bipush H20 at_119 (pc' := 121) rfl (v := 9) rfl ?_
    refine G.icmpYes H20 at_121 (by decide) (by decide) (pc' := 147) rfl ?_
    refine G.iconst H20 at_147 (pc' := 148) rfl (v := 0) rfl ?_
    refine G.istore H20 (L' := #[.val (.int x70000), .val (.int x70001), .val (.int x70002), .val (.int x70003), .val (.int 1), .val (.int 5), .val (.int (x2 &&& 255)), .val (.int x70007), .val (.ref p0), .val (.ref a24), .val (.int 0)]) at_148 (pc' := 150) rfl rfl ?_
    refine G.aload H20 at_150 (pc' := 152) rfl rfl rfl ?_
    refine G.callS H20 (m6_apply V a24 a25 k26 e0 h20_ H20.old F30) (wd27 V) (wd28 V) (wd29 V) (wd30 V) (by decide) (argsL := [(.ref a24)]) (rest := []) (W := 0) rfl rfl (lenOf (pd_3) rfl) rfl rfl at_152 (pc' := 155) rfl (by decide) (by decide) (by decide) (by decide) (allS (mG (i := 0) rfl) (allS (mG (i := 1) rfl) all0)) ?_
    intro T31 h31_ v32 s33 H31 Q34
    obtain ⟨rfl, rfl, K35⟩ := Q34
    show Go p e below _ (T31.setTop (mkF m 155 #[.val (.int x70000), .val (.int x70001), .val (.int x70002), .val (.int x70003), .val (.int 1), .val (.int 5), .val (.int (x2 &&& 255)), .val (.int x70007), .val (.ref p0), .val (.ref a24), .val (.int 0)] [(.int 1)]))
    refine G.iload H31 at_155 (pc' := 157) rfl rfl ?_
    refine G.ifNo H31 at_157 (pc' := 160) rfl (by decide) ?_
    refine G.iconst H31 at_160 (pc' := 161) rfl (v := 1) rfl ?_
    refine G.goto H31 at_161 (by decide) (pc' := 165) rfl ?_
    refine G.icmpNo H31 at_165 (pc' := 168) rfl (by decide) ?_
    refine G.iconst H31 at_168 (pc' := 169) rfl (v := 1) rfl ?_
    refine G.goto H31 at_169 (by decide) (pc' := 173) rfl ?_
    exact G.retN H31 (t := .boolean) rfl (by decide) at_173 (so := []) all0 (by decide) (by decide) rfl
  ·
    refine G.aload H at_101 (pc' := 103) rfl rfl rfl ?_
    refine G.iload H at_103 (pc' := 105) rfl rfl ?_
    refine G.callS H (m7_cut V p0 c0 e0 e1 e2 e3 e4 e5 e6 e7 e8 e9 h0 H.old fA8 (own_u16 re0) (own_u16 re1) re1 re0) (wd2 V) (wd3 V) (wd4 V) (wd5 V) (by decide) (argsL := [(.ref p0), (.int 2)]) (rest := []) (W := 0) rfl rfl (lenOf (pd_2) rfl) rfl rfl at_105 (pc' := 108) rfl (by decide) (by decide) (by decide) (by decide) all0 ?_
    intro T36 h36_ v37 s38 H36 Q39
    obtain ⟨a40, a41, k42, rfl, rfl, K43, g44, g45, F46⟩ := Q39
    have na40 : n0 ≤ a40 := Nat.le_trans H.le g44
    have na41 : n0 ≤ a41 := Nat.le_trans H.le (Nat.le_of_lt (Nat.lt_of_le_of_lt g44 g45))
    show Go p e below _ (T36.setTop (mkF m 108 #[.val (.int x70000), .val (.int x70001), .val (.int x70002), .val (.int x70003), .val (.int 2), .val (.int 5), .val (.int (x2 &&& 255)), .val (.int x70007), .val (.ref p0), .unset, .unset] [(.ref a40)]))
    refine G.astore H36 (L' := #[.val (.int x70000), .val (.int x70001), .val (.int x70002), .val (.int x70003), .val (.int 2), .val (.int 5), .val (.int (x2 &&& 255)), .val (.int x70007), .val (.ref p0), .val (.ref a40), .unset]) at_108 (pc' := 110) rfl rfl rfl ?_
    refine G.iload H36 at_110 (pc' := 112) rfl rfl ?_
    refine G.bipush H36 at_112 (pc' := 114) rfl (v := 7) rfl ?_
    refine G.icmpNo H36 at_114 (pc' := 117) rfl (by decide) ?_
    refine G.iload H36 at_117 (pc' := 119) rfl rfl ?_
    refine G.bipush H36 at_119 (pc' := 121) rfl (v := 9) rfl ?_
    refine G.icmpYes H36 at_121 (by decide) (by decide) (pc' := 147) rfl ?_
    refine G.iconst H36 at_147 (pc' := 148) rfl (v := 0) rfl ?_
    refine G.istore H36 (L' := #[.val (.int x70000), .val (.int x70001), .val (.int x70002), .val (.int x70003), .val (.int 2), .val (.int 5), .val (.int (x2 &&& 255)), .val (.int x70007), .val (.ref p0), .val (.ref a40), .val (.int 0)]) at_148 (pc' := 150) rfl rfl ?_
    refine G.aload H36 at_150 (pc' := 152) rfl rfl rfl ?_
    refine G.callS H36 (m8_apply V a40 a41 k42 e0 e1 h36_ H36.old F46) (wd27 V) (wd28 V) (wd29 V) (wd30 V) (by decide) (argsL := [(.ref a40)]) (rest := []) (W := 0) rfl rfl (lenOf (pd_3) rfl) rfl rfl at_152 (pc' := 155) rfl (by decide) (by decide) (by decide) (by decide) (allS (mG (i := 0) rfl) (allS (mG (i := 1) rfl) all0)) ?_
    intro T47 h47_ v48 s49 H47 Q50
    obtain ⟨rfl, rfl, K51⟩ := Q50
    show Go p e below _ (T47.setTop (mkF m 155 #[.val (.int x70000), .val (.int x70001), .val (.int x70002), .val (.int x70003), .val (.int 2), .val (.int 5), .val (.int (x2 &&& 255)), .val (.int x70007), .val (.ref p0), .val (.ref a40), .val (.int 0)] [(.int 1)]))
    refine G.iload H47 at_155 (pc' := 157) rfl rfl ?_
    refine G.ifNo H47 at_157 (pc' := 160) rfl (by decide) ?_
    refine G.iconst H47 at_160 (pc' := 161) rfl (v := 1) rfl ?_
    refine G.goto H47 at_161 (by decide) (pc' := 165) rfl ?_
    refine G.icmpNo H47 at_165 (pc' := 168) rfl (by decide) ?_
    refine G.iconst H47 at_168 (pc' := 169) rfl (v := 1) rfl ?_
    refine G.goto H47 at_169 (by decide) (pc' := 173) rfl ?_
    exact G.retN H47 (t := .boolean) rfl (by decide) at_173 (so := []) all0 (by decide) (by decide) rfl
  ·
    refine G.aload H at_101 (pc' := 103) rfl rfl rfl ?_
    refine G.iload H at_103 (pc' := 105) rfl rfl ?_
    refine G.callS H (m9_cut V p0 c0 e0 e1 e2 e3 e4 e5 e6 e7 e8 e9 h0 H.old fA8 (own_u16 re0) (own_u16 re1) (own_u16 re2) re2 re1 re0) (wd2 V) (wd3 V) (wd4 V) (wd5 V) (by decide) (argsL := [(.ref p0), (.int 3)]) (rest := []) (W := 0) rfl rfl (lenOf (pd_2) rfl) rfl rfl at_105 (pc' := 108) rfl (by decide) (by decide) (by decide) (by decide) all0 ?_
    intro T52 h52_ v53 s54 H52 Q55
    obtain ⟨a56, a57, k58, rfl, rfl, K59, g60, g61, F62⟩ := Q55
    have na56 : n0 ≤ a56 := Nat.le_trans H.le g60
    have na57 : n0 ≤ a57 := Nat.le_trans H.le (Nat.le_of_lt (Nat.lt_of_le_of_lt g60 g61))
    show Go p e below _ (T52.setTop (mkF m 108 #[.val (.int x70000), .val (.int x70001), .val (.int x70002), .val (.int x70003), .val (.int 3), .val (.int 5), .val (.int (x2 &&& 255)), .val (.int x70007), .val (.ref p0), .unset, .unset] [(.ref a56)]))
    refine G.astore H52 (L' := #[.val (.int x70000), .val (.int x70001), .val (.int x70002), .val (.int x70003), .val (.int 3), .val (.int 5), .val (.int (x2 &&& 255)), .val (.int x70007), .val (.ref p0), .val (.ref a56), .unset]) at_108 (pc' := 110) rfl rfl rfl ?_
    refine G.iload H52 at_110 (pc' := 112) rfl rfl ?_
    refine G.bipush H52 at_112 (pc' := 114) rfl (v := 7) rfl ?_
    refine G.icmpNo H52 at_114 (pc' := 117) rfl (by decide) ?_
    refine G.iload H52 at_117 (pc' := 119) rfl rfl ?_
    refine G.bipush H52 at_119 (pc' := 121) rfl (v := 9) rfl ?_
    refine G.icmpYes H52 at_121 (by decide) (by decide) (pc' := 147) rfl ?_
    refine G.iconst H52 at_147 (pc' := 148) rfl (v := 0) rfl ?_
    refine G.istore H52 (L' := #[.val (.int x70000), .val (.int x70001), .val (.int x70002), .val (.int x70003), .val (.int 3), .val (.int 5), .val (.int (x2 &&& 255)), .val (.int x70007), .val (.ref p0), .val (.ref a56), .val (.int 0)]) at_148 (pc' := 150) rfl rfl ?_
    refine G.aload H52 at_150 (pc' := 152) rfl rfl rfl ?_
    refine G.callS H52 (m10_apply V a56 a57 k58 e0 e1 e2 h52_ H52.old F62) (wd27 V) (wd28 V) (wd29 V) (wd30 V) (by decide) (argsL := [(.ref a56)]) (rest := []) (W := 0) rfl rfl (lenOf (pd_3) rfl) rfl rfl at_152 (pc' := 155) rfl (by decide) (by decide) (by decide) (by decide) (allS (mG (i := 0) rfl) (allS (mG (i := 1) rfl) all0)) ?_
    intro T63 h63_ v64 s65 H63 Q66
    obtain ⟨rfl, rfl, K67⟩ := Q66
    show Go p e below _ (T63.setTop (mkF m 155 #[.val (.int x70000), .val (.int x70001), .val (.int x70002), .val (.int x70003), .val (.int 3), .val (.int 5), .val (.int (x2 &&& 255)), .val (.int x70007), .val (.ref p0), .val (.ref a56), .val (.int 0)] [(.int 1)]))
    refine G.iload H63 at_155 (pc' := 157) rfl rfl ?_
    refine G.ifNo H63 at_157 (pc' := 160) rfl (by decide) ?_
    refine G.iconst H63 at_160 (pc' := 161) rfl (v := 1) rfl ?_
    refine G.goto H63 at_161 (by decide) (pc' := 165) rfl ?_
    refine G.icmpNo H63 at_165 (pc' := 168) rfl (by decide) ?_
    refine G.iconst H63 at_168 (pc' := 169) rfl (v := 1) rfl ?_
    refine G.goto H63 at_169 (by decide) (pc' := 173) rfl ?_
    exact G.retN H63 (t := .boolean) rfl (by decide) at_173 (so := []) all0 (by decide) (by decide) rfl
  ·
    refine G.aload H at_101 (pc' := 103) rfl rfl rfl ?_
    refine G.iload H at_103 (pc' := 105) rfl rfl ?_
    refine G.callS H (m11_cut V p0 c0 e0 e1 e2 e3 e4 e5 e6 e7 e8 e9 h0 H.old fA8 (own_u16 re0) (own_u16 re1) (own_u16 re2) (own_u16 re3) re3 re2 re1 re0) (wd2 V) (wd3 V) (wd4 V) (wd5 V) (by decide) (argsL := [(.ref p0), (.int 4)]) (rest := []) (W := 0) rfl rfl (lenOf (pd_2) rfl) rfl rfl at_105 (pc' := 108) rfl (by decide) (by decide) (by decide) (by decide) all0 ?_
    intro T68 h68_ v69 s70 H68 Q71
    obtain ⟨a72, a73, k74, rfl, rfl, K75, g76, g77, F78⟩ := Q71
    have na72 : n0 ≤ a72 := Nat.le_trans H.le g76
    have na73 : n0 ≤ a73 := Nat.le_trans H.le (Nat.le_of_lt (Nat.lt_of_le_of_lt g76 g77))
    show Go p e below _ (T68.setTop (mkF m 108 #[.val (.int x70000), .val (.int x70001), .val (.int x70002), .val (.int x70003), .val (.int 4), .val (.int 5), .val (.int (x2 &&& 255)), .val (.int x70007), .val (.ref p0), .unset, .unset] [(.ref a72)]))
    refine G.astore H68 (L' := #[.val (.int x70000), .val (.int x70001), .val (.int x70002), .val (.int x70003), .val (.int 4), .val (.int 5), .val (.int (x2 &&& 255)), .val (.int x70007), .val (.ref p0), .val (.ref a72), .unset]) at_108 (pc' := 110) rfl rfl rfl ?_
    refine G.iload H68 at_110 (pc' := 112) rfl rfl ?_
    refine G.bipush H68 at_112 (pc' := 114) rfl (v := 7) rfl ?_
    refine G.icmpNo H68 at_114 (pc' := 117) rfl (by decide) ?_
    refine G.iload H68 at_117 (pc' := 119) rfl rfl ?_
    refine G.bipush H68 at_119 (pc' := 121) rfl (v := 9) rfl ?_
    refine G.icmpYes H68 at_121 (by decide) (by decide) (pc' := 147) rfl ?_
    refine G.iconst H68 at_147 (pc' := 148) rfl (v := 0) rfl ?_
    refine G.istore H68 (L' := #[.val (.int x70000), .val (.int x70001), .val (.int x70002), .val (.int x70003), .val (.int 4), .val (.int 5), .val (.int (x2 &&& 255)), .val (.int x70007), .val (.ref p0), .val (.ref a72), .val (.int 0)]) at_148 (pc' := 150) rfl rfl ?_
    refine G.aload H68 at_150 (pc' := 152) rfl rfl rfl ?_
    refine G.callS H68 (m12_apply V a72 a73 k74 e0 e1 e2 e3 h68_ H68.old F78) (wd27 V) (wd28 V) (wd29 V) (wd30 V) (by decide) (argsL := [(.ref a72)]) (rest := []) (W := 0) rfl rfl (lenOf (pd_3) rfl) rfl rfl at_152 (pc' := 155) rfl (by decide) (by decide) (by decide) (by decide) (allS (mG (i := 0) rfl) (allS (mG (i := 1) rfl) all0)) ?_
    intro T79 h79_ v80 s81 H79 Q82
    obtain ⟨rfl, rfl, K83⟩ := Q82
    show Go p e below _ (T79.setTop (mkF m 155 #[.val (.int x70000), .val (.int x70001), .val (.int x70002), .val (.int x70003), .val (.int 4), .val (.int 5), .val (.int (x2 &&& 255)), .val (.int x70007), .val (.ref p0), .val (.ref a72), .val (.int 0)] [(.int 1)]))
    refine G.iload H79 at_155 (pc' := 157) rfl rfl ?_
    refine G.ifNo H79 at_157 (pc' := 160) rfl (by decide) ?_
    refine G.iconst H79 at_160 (pc' := 161) rfl (v := 1) rfl ?_
    refine G.goto H79 at_161 (by decide) (pc' := 165) rfl ?_
    refine G.icmpNo H79 at_165 (pc' := 168) rfl (by decide) ?_
    refine G.iconst H79 at_168 (pc' := 169) rfl (v := 1) rfl ?_
    refine G.goto H79 at_169 (by decide) (pc' := 173) rfl ?_
    exact G.retN H79 (t := .boolean) rfl (by decide) at_173 (so := []) all0 (by decide) (by decide) rfl
  ·
    refine G.aload H at_101 (pc' := 103) rfl rfl rfl ?_
    refine G.iload H at_103 (pc' := 105) rfl rfl ?_
    refine G.callS H (m13_cut V p0 c0 e0 e1 e2 e3 e4 e5 e6 e7 e8 e9 h0 H.old fA8 (own_u16 re0) (own_u16 re1) (own_u16 re2) (own_u16 re3) (own_u16 re4) re4 re3 re2 re1 re0) (wd2 V) (wd3 V) (wd4 V) (wd5 V) (by decide) (argsL := [(.ref p0), (.int 5)]) (rest := []) (W := 0) rfl rfl (lenOf (pd_2) rfl) rfl rfl at_105 (pc' := 108) rfl (by decide) (by decide) (by decide) (by decide) all0 ?_
    intro T84 h84_ v85 s86 H84 Q87
    obtain ⟨a88, a89, k90, rfl, rfl, K91, g92, g93, F94⟩ := Q87
    have na88 : n0 ≤ a88 := Nat.le_trans H.le g92
    have na89 : n0 ≤ a89 := Nat.le_trans H.le (Nat.le_of_lt (Nat.lt_of_le_of_lt g92 g93))
    show Go p e below _ (T84.setTop (mkF m 108 #[.val (.int x70000), .val (.int x70001), .val (.int x70002), .val (.int x70003), .val (.int 5), .val (.int 5), .val (.int (x2 &&& 255)), .val (.int x70007), .val (.ref p0), .unset, .unset] [(.ref a88)]))
    refine G.astore H84 (L' := #[.val (.int x70000), .val (.int x70001), .val (.int x70002), .val (.int x70003), .val (.int 5), .val (.int 5), .val (.int (x2 &&& 255)), .val (.int x70007), .val (.ref p0), .val (.ref a88), .unset]) at_108 (pc' := 110) rfl rfl rfl ?_
    refine G.iload H84 at_110 (pc' := 112) rfl rfl ?_
    refine G.bipush H84 at_112 (pc' := 114) rfl (v := 7) rfl ?_
    refine G.icmpNo H84 at_114 (pc' := 117) rfl (by decide) ?_
    refine G.iload H84 at_117 (pc' := 119) rfl rfl ?_
    refine G.bipush H84 at_119 (pc' := 121) rfl (v := 9) rfl ?_
    refine G.icmpYes H84 at_121 (by decide) (by decide) (pc' := 147) rfl ?_
    refine G.iconst H84 at_147 (pc' := 148) rfl (v := 0) rfl ?_
    refine G.istore H84 (L' := #[.val (.int x70000), .val (.int x70001), .val (.int x70002), .val (.int x70003), .val (.int 5), .val (.int 5), .val (.int (x2 &&& 255)), .val (.int x70007), .val (.ref p0), .val (.ref a88), .val (.int 0)]) at_148 (pc' := 150) rfl rfl ?_
    refine G.aload H84 at_150 (pc' := 152) rfl rfl rfl ?_
    refine G.callS H84 (m14_apply V a88 a89 k90 e0 e1 e2 e3 e4 h84_ H84.old F94) (wd27 V) (wd28 V) (wd29 V) (wd30 V) (by decide) (argsL := [(.ref a88)]) (rest := []) (W := 0) rfl rfl (lenOf (pd_3) rfl) rfl rfl at_152 (pc' := 155) rfl (by decide) (by decide) (by decide) (by decide) (allS (mG (i := 0) rfl) (allS (mG (i := 1) rfl) all0)) ?_
    intro T95 h95_ v96 s97 H95 Q98
    obtain ⟨rfl, rfl, K99⟩ := Q98
    show Go p e below _ (T95.setTop (mkF m 155 #[.val (.int x70000), .val (.int x70001), .val (.int x70002), .val (.int x70003), .val (.int 5), .val (.int 5), .val (.int (x2 &&& 255)), .val (.int x70007), .val (.ref p0), .val (.ref a88), .val (.int 0)] [(.int 1)]))
    refine G.iload H95 at_155 (pc' := 157) rfl rfl ?_
    refine G.ifNo H95 at_157 (pc' := 160) rfl (by decide) ?_
    refine G.iconst H95 at_160 (pc' := 161) rfl (v := 1) rfl ?_
    refine G.goto H95 at_161 (by decide) (pc' := 165) rfl ?_
    refine G.icmpNo H95 at_165 (pc' := 168) rfl (by decide) ?_
    refine G.iconst H95 at_168 (pc' := 169) rfl (v := 1) rfl ?_
    refine G.goto H95 at_169 (by decide) (pc' := 173) rfl ?_
    exact G.retN H95 (t := .boolean) rfl (by decide) at_173 (so := []) all0 (by decide) (by decide) rfl
  ·
    refine G.aload H at_101 (pc' := 103) rfl rfl rfl ?_
    refine G.iload H at_103 (pc' := 105) rfl rfl ?_
    refine G.callS H (m15_cut V p0 c0 e0 e1 e2 e3 e4 e5 e6 e7 e8 e9 h0 H.old fA8 (own_u16 re0) (own_u16 re1) (own_u16 re2) (own_u16 re3) (own_u16 re4) (own_u16 re5) re5 re4 re3 re2 re1 re0) (wd2 V) (wd3 V) (wd4 V) (wd5 V) (by decide) (argsL := [(.ref p0), (.int 6)]) (rest := []) (W := 0) rfl rfl (lenOf (pd_2) rfl) rfl rfl at_105 (pc' := 108) rfl (by decide) (by decide) (by decide) (by decide) all0 ?_
    intro T100 h100_ v101 s102 H100 Q103
    obtain ⟨a104, a105, k106, rfl, rfl, K107, g108, g109, F110⟩ := Q103
    have na104 : n0 ≤ a104 := Nat.le_trans H.le g108
    have na105 : n0 ≤ a105 := Nat.le_trans H.le (Nat.le_of_lt (Nat.lt_of_le_of_lt g108 g109))
    show Go p e below _ (T100.setTop (mkF m 108 #[.val (.int x70000), .val (.int x70001), .val (.int x70002), .val (.int x70003), .val (.int 6), .val (.int 5), .val (.int (x2 &&& 255)), .val (.int x70007), .val (.ref p0), .unset, .unset] [(.ref a104)]))
    refine G.astore H100 (L' := #[.val (.int x70000), .val (.int x70001), .val (.int x70002), .val (.int x70003), .val (.int 6), .val (.int 5), .val (.int (x2 &&& 255)), .val (.int x70007), .val (.ref p0), .val (.ref a104), .unset]) at_108 (pc' := 110) rfl rfl rfl ?_
    refine G.iload H100 at_110 (pc' := 112) rfl rfl ?_
    refine G.bipush H100 at_112 (pc' := 114) rfl (v := 7) rfl ?_
    refine G.icmpNo H100 at_114 (pc' := 117) rfl (by decide) ?_
    refine G.iload H100 at_117 (pc' := 119) rfl rfl ?_
    refine G.bipush H100 at_119 (pc' := 121) rfl (v := 9) rfl ?_
    refine G.icmpYes H100 at_121 (by decide) (by decide) (pc' := 147) rfl ?_
    refine G.iconst H100 at_147 (pc' := 148) rfl (v := 0) rfl ?_
    refine G.istore H100 (L' := #[.val (.int x70000), .val (.int x70001), .val (.int x70002), .val (.int x70003), .val (.int 6), .val (.int 5), .val (.int (x2 &&& 255)), .val (.int x70007), .val (.ref p0), .val (.ref a104), .val (.int 0)]) at_148 (pc' := 150) rfl rfl ?_
    refine G.aload H100 at_150 (pc' := 152) rfl rfl rfl ?_
    refine G.callS H100 (m16_apply V a104 a105 k106 e0 e1 e2 e3 e4 e5 h100_ H100.old F110) (wd27 V) (wd28 V) (wd29 V) (wd30 V) (by decide) (argsL := [(.ref a104)]) (rest := []) (W := 0) rfl rfl (lenOf (pd_3) rfl) rfl rfl at_152 (pc' := 155) rfl (by decide) (by decide) (by decide) (by decide) (allS (mG (i := 0) rfl) (allS (mG (i := 1) rfl) all0)) ?_
    intro T111 h111_ v112 s113 H111 Q114
    obtain ⟨rfl, rfl, K115⟩ := Q114
    show Go p e below _ (T111.setTop (mkF m 155 #[.val (.int x70000), .val (.int x70001), .val (.int x70002), .val (.int x70003), .val (.int 6), .val (.int 5), .val (.int (x2 &&& 255)), .val (.int x70007), .val (.ref p0), .val (.ref a104), .val (.int 0)] [(.int 1)]))
    refine G.iload H111 at_155 (pc' := 157) rfl rfl ?_
    refine G.ifNo H111 at_157 (pc' := 160) rfl (by decide) ?_
    refine G.iconst H111 at_160 (pc' := 161) rfl (v := 1) rfl ?_
    refine G.goto H111 at_161 (by decide) (pc' := 165) rfl ?_
    refine G.icmpNo H111 at_165 (pc' := 168) rfl (by decide) ?_
    refine G.iconst H111 at_168 (pc' := 169) rfl (v := 1) rfl ?_
    refine G.goto H111 at_169 (by decide) (pc' := 173) rfl ?_
    exact G.retN H111 (t := .boolean) rfl (by decide) at_173 (so := []) all0 (by decide) (by decide) rfl
  ·
    refine G.aload H at_101 (pc' := 103) rfl rfl rfl ?_
    refine G.iload H at_103 (pc' := 105) rfl rfl ?_
    refine G.callS H (m17_cut V p0 c0 e0 e1 e2 e3 e4 e5 e6 e7 e8 e9 h0 H.old fA8 (own_u16 re0) (own_u16 re1) (own_u16 re2) (own_u16 re3) (own_u16 re4) (own_u16 re5) (own_u16 re6) re6 re5 re4 re3 re2 re1 re0) (wd2 V) (wd3 V) (wd4 V) (wd5 V) (by decide) (argsL := [(.ref p0), (.int 7)]) (rest := []) (W := 0) rfl rfl (lenOf (pd_2) rfl) rfl rfl at_105 (pc' := 108) rfl (by decide) (by decide) (by decide) (by decide) all0 ?_
    intro T116 h116_ v117 s118 H116 Q119
    obtain ⟨a120, a121, k122, rfl, rfl, K123, g124, g125, F126⟩ := Q119
    have na120 : n0 ≤ a120 := Nat.le_trans H.le g124
    have na121 : n0 ≤ a121 := Nat.le_trans H.le (Nat.le_of_lt (Nat.lt_of_le_of_lt g124 g125))
    show Go p e below _ (T116.setTop (mkF m 108 #[.val (.int x70000), .val (.int x70001), .val (.int x70002), .val (.int x70003), .val (.int 7), .val (.int 5), .val (.int (x2 &&& 255)), .val (.int x70007), .val (.ref p0), .unset, .unset] [(.ref a120)]))
    refine G.astore H116 (L' := #[.val (.int x70000), .val (.int x70001), .val (.int x70002), .val (.int x70003), .val (.int 7), .val (.int 5), .val (.int (x2 &&& 255)), .val (.int x70007), .val (.ref p0), .val (.ref a120), .unset]) at_108 (pc' := 110) rfl rfl rfl ?_
    refine G.iload H116 at_110 (pc' := 112) rfl rfl ?_
    refine G.bipush H116 at_112 (pc' := 114) rfl (v := 7) rfl ?_
    refine G.icmpYes H116 at_114 (by decide) (by decide) (pc' := 124) rfl ?_
    refine G.iload H116 at_124 (pc' := 126) rfl rfl ?_
    refine G.iload H116 at_126 (pc' := 128) rfl rfl ?_
    refine G.icmpNo H116 at_128 (pc' := 131) rfl (by decide) ?_
    refine G.iload H116 at_131 (pc' := 133) rfl rfl ?_
    refine G.ldcS H116 trivial (wS V) (wd54 V) (by decide) (vs := [(.int 67), (.int 79), (.int 78), (.int 78), (.int 69), (.int 67), (.int 84), (.int 69), (.int 68)]) (z := 9) (by decide) (by decide) rfl (n := 36) (by decide) (by decide) (by decide) (by decide) at_133 (pc' := 135) rfl ?_
    intro T127 h127_ a128 b130 k131 H127 E129 X132 F133 F134 A135 Q136
    have S137 : Str Z h127_ a128 b130 k131 [67, 79, 78, 78, 69, 67, 84, 69, 68] := ⟨X132, F133, F134, A135, by decide, by decide⟩
    refine G.iload H127 at_135 (pc' := 137) rfl rfl ?_
    refine G.callV H127 (m64_charAt V a128 b130 k131 h127_ H127.old X132 F133 F134 A135) (wd55 V) (wd56 V) (nf_sel (wd58 V)) (wd58 V) (wd57 V) (wd8 V) (wd59 V) (by decide) X132 (argsL := [(.int 5)]) (rest := [(.int (x2 &&& 255))]) (W := 1) rfl rfl (lenOf (pd_8) rfl) rfl rfl at_137 (pc' := 140) rfl (by decide) (by decide) (by decide) (by decide) all0 ?_
    intro T138 h138_ v139 s140 H138 Q141
    obtain ⟨rfl, rfl, rfl⟩ := Q141
    show Go p e below _ (T138.setTop (mkF m 140 #[.val (.int x70000), .val (.int x70001), .val (.int x70002), .val (.int x70003), .val (.int 7), .val (.int 5), .val (.int (x2 &&& 255)), .val (.int x70007), .val (.ref p0), .val (.ref a120), .unset] [(.int 67), (.int (x2 &&& 255))]))
    by_cases c142 : (x2 &&& 255) = 67
    ·
      refine G.icmpNo H138 at_140 (pc' := 143) rfl (XT.ii_ne_f c142) ?_
      refine G.iconst H138 at_143 (pc' := 144) rfl (v := 1) rfl ?_
      refine G.goto H138 at_144 (by decide) (pc' := 148) rfl ?_
      refine G.istore H138 (L' := #[.val (.int x70000), .val (.int x70001), .val (.int x70002), .val (.int x70003), .val (.int 7), .val (.int 5), .val (.int (x2 &&& 255)), .val (.int x70007), .val (.ref p0), .val (.ref a120), .val (.int 1)]) at_148 (pc' := 150) rfl rfl ?_
      refine G.aload H138 at_150 (pc' := 152) rfl rfl rfl ?_
      have F143 := (Str.ext E129 F126)
      refine G.callS H138 (m23_apply V a120 a121 k122 e0 e1 e2 e3 e4 e5 e6 h127_ H138.old F143 qe0 qe1 qe2 qe3 qe4 (Eq.trans qe5 c142) qe6) (wd27 V) (wd28 V) (wd29 V) (wd30 V) (by decide) (argsL := [(.ref a120)]) (rest := []) (W := 0) rfl rfl (lenOf (pd_3) rfl) rfl rfl at_152 (pc' := 155) rfl (by decide) (by decide) (by decide) (by decide) all0 ?_
      intro T144 h144_ v145 s146 H144 Q147
      obtain ⟨c148, rfl, rfl, K149⟩ := Q147
      show Go p e below _ (T144.setTop (mkF m 155 #[.val (.int x70000), .val (.int x70001), .val (.int x70002), .val (.int x70003), .val (.int 7), .val (.int 5), .val (.int (x2 &&& 255)), .val (.int x70007), .val (.ref p0), .val (.ref a120), .val (.int 1)] [(.int 0)]))
      refine G.iload H144 at_155 (pc' := 157) rfl rfl ?_
      refine G.ifYes H144 at_157 (by decide) (by decide) (pc' := 164) rfl ?_
      refine G.iconst H144 at_164 (pc' := 165) rfl (v := 0) rfl ?_
      refine G.icmpNo H144 at_165 (pc' := 168) rfl (by decide) ?_
      refine G.iconst H144 at_168 (pc' := 169) rfl (v := 1) rfl ?_
      refine G.goto H144 at_169 (by decide) (pc' := 173) rfl ?_
      exact G.retN H144 (t := .boolean) rfl (by decide) at_173 (so := []) all0 (by decide) (by decide) rfl
    ·
      refine G.icmpYes H138 at_140 (XT.ii_ne_t c142) (by decide) (pc' := 147) rfl ?_
      refine G.iconst H138 at_147 (pc' := 148) rfl (v := 0) rfl ?_
      refine G.istore H138 (L' := #[.val (.int x70000), .val (.int x70001), .val (.int x70002), .val (.int x70003), .val (.int 7), .val (.int 5), .val (.int (x2 &&& 255)), .val (.int x70007), .val (.ref p0), .val (.ref a120), .val (.int 0)]) at_148 (pc' := 150) rfl rfl ?_
      refine G.aload H138 at_150 (pc' := 152) rfl rfl rfl ?_
      have F150 := (Str.ext E129 F126)
      refine G.callS H138 (m65_apply V a120 a121 k122 e0 e1 e2 e3 e4 e5 e6 h127_ H138.old F150 qe0 qe1 qe2 qe3 qe4 (fun qq => c142 (Eq.trans (Eq.symm qe5) qq)) qe6) (wd27 V) (wd28 V) (wd29 V) (wd30 V) (by decide) (argsL := [(.ref a120)]) (rest := []) (W := 0) rfl rfl (lenOf (pd_3) rfl) rfl rfl at_152 (pc' := 155) rfl (by decide) (by decide) (by decide) (by decide) (allS (mG (i := 0) rfl) (allS (mG (i := 1) rfl) all0)) ?_
      intro T151 h151_ v152 s153 H151 Q154
      obtain ⟨c155, rfl, rfl, K156⟩ := Q154
      show Go p e below _ (T151.setTop (mkF m 155 #[.val (.int x70000), .val (.int x70001), .val (.int x70002), .val (.int x70003), .val (.int 7), .val (.int 5), .val (.int (x2 &&& 255)), .val (.int x70007), .val (.ref p0), .val (.ref a120), .val (.int 0)] [(.int 1)]))
      refine G.iload H151 at_155 (pc' := 157) rfl rfl ?_
      refine G.ifNo H151 at_157 (pc' := 160) rfl (by decide) ?_
      refine G.iconst H151 at_160 (pc' := 161) rfl (v := 1) rfl ?_
      refine G.goto H151 at_161 (by decide) (pc' := 165) rfl ?_
      refine G.icmpNo H151 at_165 (pc' := 168) rfl (by decide) ?_
      refine G.iconst H151 at_168 (pc' := 169) rfl (v := 1) rfl ?_
      refine G.goto H151 at_169 (by decide) (pc' := 173) rfl ?_
      exact G.retN H151 (t := .boolean) rfl (by decide) at_173 (so := []) all0 (by decide) (by decide) rfl
  ·
    refine G.aload H at_101 (pc' := 103) rfl rfl rfl ?_
    refine G.iload H at_103 (pc' := 105) rfl rfl ?_
    refine G.callS H (m25_cut V p0 c0 e0 e1 e2 e3 e4 e5 e6 e7 e8 e9 h0 H.old fA8 (own_u16 re0) (own_u16 re1) (own_u16 re2) (own_u16 re3) (own_u16 re4) (own_u16 re5) (own_u16 re6) (own_u16 re7) re7 re6 re5 re4 re3 re2 re1 re0) (wd2 V) (wd3 V) (wd4 V) (wd5 V) (by decide) (argsL := [(.ref p0), (.int 8)]) (rest := []) (W := 0) rfl rfl (lenOf (pd_2) rfl) rfl rfl at_105 (pc' := 108) rfl (by decide) (by decide) (by decide) (by decide) all0 ?_
    intro T157 h157_ v158 s159 H157 Q160
    obtain ⟨a161, a162, k163, rfl, rfl, K164, g165, g166, F167⟩ := Q160
    have na161 : n0 ≤ a161 := Nat.le_trans H.le g165
    have na162 : n0 ≤ a162 := Nat.le_trans H.le (Nat.le_of_lt (Nat.lt_of_le_of_lt g165 g166))
    show Go p e below _ (T157.setTop (mkF m 108 #[.val (.int x70000), .val (.int x70001), .val (.int x70002), .val (.int x70003), .val (.int 8), .val (.int 5), .val (.int (x2 &&& 255)), .val (.int x70007), .val (.ref p0), .unset, .unset] [(.ref a161)]))
    refine G.astore H157 (L' := #[.val (.int x70000), .val (.int x70001), .val (.int x70002), .val (.int x70003), .val (.int 8), .val (.int 5), .val (.int (x2 &&& 255)), .val (.int x70007), .val (.ref p0), .val (.ref a161), .unset]) at_108 (pc' := 110) rfl rfl rfl ?_
    refine G.iload H157 at_110 (pc' := 112) rfl rfl ?_
    refine G.bipush H157 at_112 (pc' := 114) rfl (v := 7) rfl ?_
    refine G.icmpNo H157 at_114 (pc' := 117) rfl (by decide) ?_
    refine G.iload H157 at_117 (pc' := 119) rfl rfl ?_
    refine G.bipush H157 at_119 (pc' := 121) rfl (v := 9) rfl ?_
    refine G.icmpYes H157 at_121 (by decide) (by decide) (pc' := 147) rfl ?_
    refine G.iconst H157 at_147 (pc' := 148) rfl (v := 0) rfl ?_
    refine G.istore H157 (L' := #[.val (.int x70000), .val (.int x70001), .val (.int x70002), .val (.int x70003), .val (.int 8), .val (.int 5), .val (.int (x2 &&& 255)), .val (.int x70007), .val (.ref p0), .val (.ref a161), .val (.int 0)]) at_148 (pc' := 150) rfl rfl ?_
    refine G.aload H157 at_150 (pc' := 152) rfl rfl rfl ?_
    refine G.callS H157 (m26_apply V a161 a162 k163 e0 e1 e2 e3 e4 e5 e6 e7 h157_ H157.old F167) (wd27 V) (wd28 V) (wd29 V) (wd30 V) (by decide) (argsL := [(.ref a161)]) (rest := []) (W := 0) rfl rfl (lenOf (pd_3) rfl) rfl rfl at_152 (pc' := 155) rfl (by decide) (by decide) (by decide) (by decide) (allS (mG (i := 0) rfl) (allS (mG (i := 1) rfl) all0)) ?_
    intro T168 h168_ v169 s170 H168 Q171
    obtain ⟨rfl, rfl, K172⟩ := Q171
    show Go p e below _ (T168.setTop (mkF m 155 #[.val (.int x70000), .val (.int x70001), .val (.int x70002), .val (.int x70003), .val (.int 8), .val (.int 5), .val (.int (x2 &&& 255)), .val (.int x70007), .val (.ref p0), .val (.ref a161), .val (.int 0)] [(.int 1)]))
    refine G.iload H168 at_155 (pc' := 157) rfl rfl ?_
    refine G.ifNo H168 at_157 (pc' := 160) rfl (by decide) ?_
    refine G.iconst H168 at_160 (pc' := 161) rfl (v := 1) rfl ?_
    refine G.goto H168 at_161 (by decide) (pc' := 165) rfl ?_
    refine G.icmpNo H168 at_165 (pc' := 168) rfl (by decide) ?_
    refine G.iconst H168 at_168 (pc' := 169) rfl (v := 1) rfl ?_
    refine G.goto H168 at_169 (by decide) (pc' := 173) rfl ?_
    exact G.retN H168 (t := .boolean) rfl (by decide) at_173 (so := []) all0 (by decide) (by decide) rfl
  ·
    refine G.aload H at_101 (pc' := 103) rfl rfl rfl ?_
    refine G.iload H at_103 (pc' := 105) rfl rfl ?_
    refine G.callS H (m27_cut V p0 c0 e0 e1 e2 e3 e4 e5 e6 e7 e8 e9 h0 H.old fA8 (own_u16 re0) (own_u16 re1) (own_u16 re2) (own_u16 re3) (own_u16 re4) (own_u16 re5) (own_u16 re6) (own_u16 re7) (own_u16 re8) re8 re7 re6 re5 re4 re3 re2 re1 re0) (wd2 V) (wd3 V) (wd4 V) (wd5 V) (by decide) (argsL := [(.ref p0), (.int 9)]) (rest := []) (W := 0) rfl rfl (lenOf (pd_2) rfl) rfl rfl at_105 (pc' := 108) rfl (by decide) (by decide) (by decide) (by decide) all0 ?_
    intro T173 h173_ v174 s175 H173 Q176
    obtain ⟨a177, a178, k179, rfl, rfl, K180, g181, g182, F183⟩ := Q176
    have na177 : n0 ≤ a177 := Nat.le_trans H.le g181
    have na178 : n0 ≤ a178 := Nat.le_trans H.le (Nat.le_of_lt (Nat.lt_of_le_of_lt g181 g182))
    show Go p e below _ (T173.setTop (mkF m 108 #[.val (.int x70000), .val (.int x70001), .val (.int x70002), .val (.int x70003), .val (.int 9), .val (.int 5), .val (.int (x2 &&& 255)), .val (.int x70007), .val (.ref p0), .unset, .unset] [(.ref a177)]))
    refine G.astore H173 (L' := #[.val (.int x70000), .val (.int x70001), .val (.int x70002), .val (.int x70003), .val (.int 9), .val (.int 5), .val (.int (x2 &&& 255)), .val (.int x70007), .val (.ref p0), .val (.ref a177), .unset]) at_108 (pc' := 110) rfl rfl rfl ?_
    refine G.iload H173 at_110 (pc' := 112) rfl rfl ?_
    refine G.bipush H173 at_112 (pc' := 114) rfl (v := 7) rfl ?_
    refine G.icmpNo H173 at_114 (pc' := 117) rfl (by decide) ?_
    refine G.iload H173 at_117 (pc' := 119) rfl rfl ?_
    refine G.bipush H173 at_119 (pc' := 121) rfl (v := 9) rfl ?_
    refine G.icmpNo H173 at_121 (pc' := 124) rfl (by decide) ?_
    refine G.iload H173 at_124 (pc' := 126) rfl rfl ?_
    refine G.iload H173 at_126 (pc' := 128) rfl rfl ?_
    refine G.icmpNo H173 at_128 (pc' := 131) rfl (by decide) ?_
    refine G.iload H173 at_131 (pc' := 133) rfl rfl ?_
    refine G.ldcS H173 trivial (wS V) (wd54 V) (by decide) (vs := [(.int 67), (.int 79), (.int 78), (.int 78), (.int 69), (.int 67), (.int 84), (.int 69), (.int 68)]) (z := 9) (by decide) (by decide) rfl (n := 36) (by decide) (by decide) (by decide) (by decide) at_133 (pc' := 135) rfl ?_
    intro T184 h184_ a185 b187 k188 H184 E186 X189 F190 F191 A192 Q193
    have S194 : Str Z h184_ a185 b187 k188 [67, 79, 78, 78, 69, 67, 84, 69, 68] := ⟨X189, F190, F191, A192, by decide, by decide⟩
    refine G.iload H184 at_135 (pc' := 137) rfl rfl ?_
    refine G.callV H184 (m64_charAt V a185 b187 k188 h184_ H184.old X189 F190 F191 A192) (wd55 V) (wd56 V) (nf_sel (wd58 V)) (wd58 V) (wd57 V) (wd8 V) (wd59 V) (by decide) X189 (argsL := [(.int 5)]) (rest := [(.int (x2 &&& 255))]) (W := 1) rfl rfl (lenOf (pd_8) rfl) rfl rfl at_137 (pc' := 140) rfl (by decide) (by decide) (by decide) (by decide) all0 ?_
    intro T195 h195_ v196 s197 H195 Q198
    obtain ⟨rfl, rfl, rfl⟩ := Q198
    show Go p e below _ (T195.setTop (mkF m 140 #[.val (.int x70000), .val (.int x70001), .val (.int x70002), .val (.int x70003), .val (.int 9), .val (.int 5), .val (.int (x2 &&& 255)), .val (.int x70007), .val (.ref p0), .val (.ref a177), .unset] [(.int 67), (.int (x2 &&& 255))]))
    by_cases c199 : (x2 &&& 255) = 67
    ·
      refine G.icmpNo H195 at_140 (pc' := 143) rfl (XT.ii_ne_f c199) ?_
      refine G.iconst H195 at_143 (pc' := 144) rfl (v := 1) rfl ?_
      refine G.goto H195 at_144 (by decide) (pc' := 148) rfl ?_
      refine G.istore H195 (L' := #[.val (.int x70000), .val (.int x70001), .val (.int x70002), .val (.int x70003), .val (.int 9), .val (.int 5), .val (.int (x2 &&& 255)), .val (.int x70007), .val (.ref p0), .val (.ref a177), .val (.int 1)]) at_148 (pc' := 150) rfl rfl ?_
      refine G.aload H195 at_150 (pc' := 152) rfl rfl rfl ?_
      have F200 := (Str.ext E186 F183)
      refine G.callS H195 (m28_apply V a177 a178 k179 e0 e1 e2 e3 e4 e5 e6 e7 e8 h184_ H195.old F200 qe0 qe1 qe2 qe3 qe4 (Eq.trans qe5 c199) qe6 qe7 qe8) (wd27 V) (wd28 V) (wd29 V) (wd30 V) (by decide) (argsL := [(.ref a177)]) (rest := []) (W := 0) rfl rfl (lenOf (pd_3) rfl) rfl rfl at_152 (pc' := 155) rfl (by decide) (by decide) (by decide) (by decide) (allS (mG (i := 0) rfl) (allS (mG (i := 1) rfl) all0)) ?_
      intro T201 h201_ v202 s203 H201 Q204
      obtain ⟨c205, rfl, rfl, K206⟩ := Q204
      show Go p e below _ (T201.setTop (mkF m 155 #[.val (.int x70000), .val (.int x70001), .val (.int x70002), .val (.int x70003), .val (.int 9), .val (.int 5), .val (.int (x2 &&& 255)), .val (.int x70007), .val (.ref p0), .val (.ref a177), .val (.int 1)] [(.int 0)]))
      refine G.iload H201 at_155 (pc' := 157) rfl rfl ?_
      refine G.ifYes H201 at_157 (by decide) (by decide) (pc' := 164) rfl ?_
      refine G.iconst H201 at_164 (pc' := 165) rfl (v := 0) rfl ?_
      refine G.icmpNo H201 at_165 (pc' := 168) rfl (by decide) ?_
      refine G.iconst H201 at_168 (pc' := 169) rfl (v := 1) rfl ?_
      refine G.goto H201 at_169 (by decide) (pc' := 173) rfl ?_
      exact G.retN H201 (t := .boolean) rfl (by decide) at_173 (so := []) all0 (by decide) (by decide) rfl
    ·
      refine G.icmpYes H195 at_140 (XT.ii_ne_t c199) (by decide) (pc' := 147) rfl ?_
      refine G.iconst H195 at_147 (pc' := 148) rfl (v := 0) rfl ?_
      refine G.istore H195 (L' := #[.val (.int x70000), .val (.int x70001), .val (.int x70002), .val (.int x70003), .val (.int 9), .val (.int 5), .val (.int (x2 &&& 255)), .val (.int x70007), .val (.ref p0), .val (.ref a177), .val (.int 0)]) at_148 (pc' := 150) rfl rfl ?_
      refine G.aload H195 at_150 (pc' := 152) rfl rfl rfl ?_
      have F207 := (Str.ext E186 F183)
      refine G.callS H195 (m66_apply V a177 a178 k179 e0 e1 e2 e3 e4 e5 e6 e7 e8 h184_ H195.old F207 qe0 qe1 qe2 qe3 qe4 (fun qq => c199 (Eq.trans (Eq.symm qe5) qq)) qe6 qe7 qe8) (wd27 V) (wd28 V) (wd29 V) (wd30 V) (by decide) (argsL := [(.ref a177)]) (rest := []) (W := 0) rfl rfl (lenOf (pd_3) rfl) rfl rfl at_152 (pc' := 155) rfl (by decide) (by decide) (by decide) (by decide) (allS (mG (i := 0) rfl) (allS (mG (i := 1) rfl) all0)) ?_
      intro T208 h208_ v209 s210 H208 Q211
      obtain ⟨c212, rfl, rfl, K213⟩ := Q211
      show Go p e below _ (T208.setTop (mkF m 155 #[.val (.int x70000), .val (.int x70001), .val (.int x70002), .val (.int x70003), .val (.int 9), .val (.int 5), .val (.int (x2 &&& 255)), .val (.int x70007), .val (.ref p0), .val (.ref a177), .val (.int 0)] [(.int 1)]))
      refine G.iload H208 at_155 (pc' := 157) rfl rfl ?_
      refine G.ifNo H208 at_157 (pc' := 160) rfl (by decide) ?_
      refine G.iconst H208 at_160 (pc' := 161) rfl (v := 1) rfl ?_
      refine G.goto H208 at_161 (by decide) (pc' := 165) rfl ?_
      refine G.icmpNo H208 at_165 (pc' := 168) rfl (by decide) ?_
      refine G.iconst H208 at_168 (pc' := 169) rfl (v := 1) rfl ?_
      refine G.goto H208 at_169 (by decide) (pc' := 173) rfl ?_
      exact G.retN H208 (t := .boolean) rfl (by decide) at_173 (so := []) all0 (by decide) (by decide) rfl
  ·
    refine G.aload H at_101 (pc' := 103) rfl rfl rfl ?_
    refine G.iload H at_103 (pc' := 105) rfl rfl ?_
    refine G.callS H (m30_cut V p0 c0 e0 e1 e2 e3 e4 e5 e6 e7 e8 e9 h0 H.old fA8 (own_u16 re0) (own_u16 re1) (own_u16 re2) (own_u16 re3) (own_u16 re4) (own_u16 re5) (own_u16 re6) (own_u16 re7) (own_u16 re8) (own_u16 re9) re9 re8 re7 re6 re5 re4 re3 re2 re1 re0) (wd2 V) (wd3 V) (wd4 V) (wd5 V) (by decide) (argsL := [(.ref p0), (.int 10)]) (rest := []) (W := 0) rfl rfl (lenOf (pd_2) rfl) rfl rfl at_105 (pc' := 108) rfl (by decide) (by decide) (by decide) (by decide) all0 ?_
    intro T214 h214_ v215 s216 H214 Q217
    obtain ⟨a218, a219, k220, rfl, rfl, K221, g222, g223, F224⟩ := Q217
    have na218 : n0 ≤ a218 := Nat.le_trans H.le g222
    have na219 : n0 ≤ a219 := Nat.le_trans H.le (Nat.le_of_lt (Nat.lt_of_le_of_lt g222 g223))
    show Go p e below _ (T214.setTop (mkF m 108 #[.val (.int x70000), .val (.int x70001), .val (.int x70002), .val (.int x70003), .val (.int 10), .val (.int 5), .val (.int (x2 &&& 255)), .val (.int x70007), .val (.ref p0), .unset, .unset] [(.ref a218)]))
    refine G.astore H214 (L' := #[.val (.int x70000), .val (.int x70001), .val (.int x70002), .val (.int x70003), .val (.int 10), .val (.int 5), .val (.int (x2 &&& 255)), .val (.int x70007), .val (.ref p0), .val (.ref a218), .unset]) at_108 (pc' := 110) rfl rfl rfl ?_
    refine G.iload H214 at_110 (pc' := 112) rfl rfl ?_
    refine G.bipush H214 at_112 (pc' := 114) rfl (v := 7) rfl ?_
    refine G.icmpNo H214 at_114 (pc' := 117) rfl (by decide) ?_
    refine G.iload H214 at_117 (pc' := 119) rfl rfl ?_
    refine G.bipush H214 at_119 (pc' := 121) rfl (v := 9) rfl ?_
    refine G.icmpYes H214 at_121 (by decide) (by decide) (pc' := 147) rfl ?_
    refine G.iconst H214 at_147 (pc' := 148) rfl (v := 0) rfl ?_
    refine G.istore H214 (L' := #[.val (.int x70000), .val (.int x70001), .val (.int x70002), .val (.int x70003), .val (.int 10), .val (.int 5), .val (.int (x2 &&& 255)), .val (.int x70007), .val (.ref p0), .val (.ref a218), .val (.int 0)]) at_148 (pc' := 150) rfl rfl ?_
    refine G.aload H214 at_150 (pc' := 152) rfl rfl rfl ?_
    refine G.callS H214 (m31_apply V a218 a219 k220 e0 e1 e2 e3 e4 e5 e6 e7 e8 e9 h214_ H214.old F224) (wd27 V) (wd28 V) (wd29 V) (wd30 V) (by decide) (argsL := [(.ref a218)]) (rest := []) (W := 0) rfl rfl (lenOf (pd_3) rfl) rfl rfl at_152 (pc' := 155) rfl (by decide) (by decide) (by decide) (by decide) (allS (mG (i := 0) rfl) (allS (mG (i := 1) rfl) all0)) ?_
    intro T225 h225_ v226 s227 H225 Q228
    obtain ⟨rfl, rfl, K229⟩ := Q228
    show Go p e below _ (T225.setTop (mkF m 155 #[.val (.int x70000), .val (.int x70001), .val (.int x70002), .val (.int x70003), .val (.int 10), .val (.int 5), .val (.int (x2 &&& 255)), .val (.int x70007), .val (.ref p0), .val (.ref a218), .val (.int 0)] [(.int 1)]))
    refine G.iload H225 at_155 (pc' := 157) rfl rfl ?_
    refine G.ifNo H225 at_157 (pc' := 160) rfl (by decide) ?_
    refine G.iconst H225 at_160 (pc' := 161) rfl (v := 1) rfl ?_
    refine G.goto H225 at_161 (by decide) (pc' := 165) rfl ?_
    refine G.icmpNo H225 at_165 (pc' := 168) rfl (by decide) ?_
    refine G.iconst H225 at_168 (pc' := 169) rfl (v := 1) rfl ?_
    refine G.goto H225 at_169 (by decide) (pc' := 173) rfl ?_
    exact G.retN H225 (t := .boolean) rfl (by decide) at_173 (so := []) all0 (by decide) (by decide) rfl
set_option maxRecDepth 65536 in
set_option maxHeartbeats 40000000 in
theorem m68_checkIndex (V : Env1 Z a0 n0 uu0 uu1)  (h0 : Heap) (hO : Old Z n0 h0)  :
    Met Z a0 ELs True n0 l (⟨"jdk/internal/util/Preconditions", "checkIndex", "(IILjava/util/function/BiFunction;)I"⟩ : MethodName) jdk_41_method_11_code 3 (Option.some FieldType.int) ({ frames := 0, cells := 0, slots := 0, locals := 0 } : Room) #[(.int 6), (.int 9), uu1] h0 [] (fun v h so => (v = some (.int 6) ∧ so = [] ∧ h0 = h)) := by
  refine Met.of (EWl V) (by first | decide +kernel | rfl) hO (L0 := #[.val (.int 6), .val (.int 9), .val uu1]) (by rcases XT.refc (hv3 V) with rfl | ⟨_, rfl⟩ <;> rfl) ?_
  intro p e s m below meth c T H
  show Go p e below _ (T.setTop (mkF m 0 #[.val (.int 6), .val (.int 9), .val uu1] []))
  refine G.iloadN H D0_0 (pc' := 1) rfl rfl ?_
  refine G.ifNo H D0_1 (pc' := 4) rfl (by decide) ?_
  refine G.iloadN H D0_4 (pc' := 5) rfl rfl ?_
  refine G.iloadN H D0_5 (pc' := 6) rfl rfl ?_
  refine G.icmpYes H D0_6 (by decide) (by decide) (pc' := 16) rfl ?_
  refine G.iloadN H D0_16 (pc' := 17) rfl rfl ?_
  exact G.retI H rfl D0_17 (so := []) all0 (by decide) (by decide) ⟨rfl, rfl, rfl⟩
set_option maxRecDepth 65536 in
set_option maxHeartbeats 40000000 in
theorem m69_checkIndex (V : Env1 Z a0 n0 uu0 uu1)  (h0 : Heap) (hO : Old Z n0 h0)  :
    Met Z a0 ELs True n0 l (⟨"java/lang/String", "checkIndex", "(II)V"⟩ : MethodName) jdk_42_method_155_code 2 (Option.none : Option FieldType) ({ frames := 1, cells := 0, slots := 0, locals := 14 } : Room) #[(.int 6), (.int 9)] h0 [] (fun v h so => (v = none ∧ so = [] ∧ h0 = h)) := by
  refine Met.of (EWl V) (by first | decide +kernel | rfl) hO (L0 := #[.val (.int 6), .val (.int 9)]) rfl ?_
  intro p e s m below meth c T H
  show Go p e below _ (T.setTop (mkF m 0 #[.val (.int 6), .val (.int 9)] []))
  refine G.iloadN H D3_0 (pc' := 1) rfl rfl ?_
  refine G.iloadN H D3_1 (pc' := 2) rfl rfl ?_
  refine G.getS H (wd71 V) Via.refl (Sta.ext H.old.2 (hv2 V)) D3_2 (pc' := 5) rfl ?_
  intro T1 H2
  refine G.callS H2 (m68_checkIndex V h0 H2.old) (wd73 V) (wd74 V) (wd72 V) (wd75 V) (by decide) (argsL := [(.int 6), (.int 9), uu1]) (rest := []) (W := 0) rfl rfl (lenOf (pd_5) rfl) rfl rfl D3_5 (pc' := 8) rfl (by decide) (by decide) (by decide) (by decide) all0 ?_
  intro T3 h3_ v4 s5 H3 Q6
  obtain ⟨rfl, rfl, rfl⟩ := Q6
  show Go p e below _ (T3.setTop (mkF m 8 #[.val (.int 6), .val (.int 9)] [(.int 6)]))
  refine G.pop H3 D3_8 (pc' := 9) rfl rfl ?_
  exact G.retV H3 rfl D3_9 (so := []) all0 (by decide) (by decide) ⟨rfl, rfl, rfl⟩
set_option maxRecDepth 65536 in
set_option maxHeartbeats 40000000 in
theorem m70_charAt (V : Env1 Z a0 n0 uu0 uu1) (p0 : Addr) (c0 : ClassId) (h0 : Heap) (hO : Old Z n0 h0) (f0 : Arv Z h0 p0 c0 .byte 9 [(.int 67), (.int 79), (.int 78), (.int 78), (.int 69), (.int 67), (.int 84), (.int 69), (.int 68)] (.int 0)) :
    Met Z a0 ELs True n0 l (⟨"java/lang/StringLatin1", "charAt", "([BI)C"⟩ : MethodName) jdk_43_method_2_code 2 (Option.some FieldType.char) ({ frames := 2, cells := 0, slots := 0, locals := 27 } : Room) #[(.ref p0), (.int 6)] h0 [] (fun v h so => (v = some (.int 84) ∧ so = [] ∧ h0 = h)) := by
  refine Met.of (EWl V) (by first | decide +kernel | rfl) hO (L0 := #[.val (.ref p0), .val (.int 6)]) rfl ?_
  intro p e s m below meth c T H
  show Go p e below _ (T.setTop (mkF m 0 #[.val (.ref p0), .val (.int 6)] []))
  refine G.iloadN H D6_0 (pc' := 1) rfl rfl ?_
  refine G.aloadN H D6_1 (pc' := 2) rfl rfl rfl ?_
  refine G.arrlen H f0 D6_2 (pc' := 3) rfl ?_
  refine G.callS H (m69_checkIndex V h0 H.old) (wd68 V) (wd69 V) (wd8 V) (wd70 V) (by decide) (argsL := [(.int 6), (.int 9)]) (rest := []) (W := 0) rfl rfl (lenOf (pd_6) rfl) rfl rfl D6_3 (pc' := 6) rfl (by decide) (by decide) (by decide) (by decide) all0 ?_
  intro T1 h1_ v2 s3 H1 Q4
  obtain ⟨rfl, rfl, rfl⟩ := Q4
  show Go p e below _ (T1.setTop (mkF m 6 #[.val (.ref p0), .val (.int 6)] []))
  refine G.aloadN H1 D6_6 (pc' := 7) rfl rfl rfl ?_
  refine G.iloadN H1 D6_7 (pc' := 8) rfl rfl ?_
  refine G.baloadG H1 f0 (j := 6) (v := (.int 84)) (by decide) rfl D6_8 (pc' := 9) rfl ?_
  refine G.sipush H1 D6_9 (pc' := 12) rfl (v := 255) rfl ?_
  refine G.iand H1 D6_12 (pc' := 13) rfl ?_
  show Go p e below _ (T1.setTop (mkF m 13 #[.val (.ref p0), .val (.int 6)] [(.int 84)]))
  refine G.i2c H1 (y := 84) D6_13 (pc' := 14) rfl rfl ?_
  exact G.retN H1 (t := .char) rfl (by decide) D6_14 (so := []) all0 (by decide) (by decide) ⟨rfl, rfl, rfl⟩
set_option maxRecDepth 65536 in
set_option maxHeartbeats 40000000 in
theorem m71_charAt (V : Env1 Z a0 n0 uu0 uu1) (p0 : Addr) (p1 : Addr) (c0 : ClassId) (h0 : Heap) (hO : Old Z n0 h0) (f0 : Exa Z h0 p0 "java/lang/String") (f1 : Fld Z h0 p0 "java/lang/String" "coder" "B" (.int 0)) (f2 : Fld Z h0 p0 "java/lang/String" "value" "[B" (.ref p1)) (f3 : Arv Z h0 p1 c0 .byte 9 [(.int 67), (.int 79), (.int 78), (.int 78), (.int 69), (.int 67), (.int 84), (.int 69), (.int 68)] (.int 0)) :
    Met Z a0 ELs True n0 l (⟨"java/lang/String", "charAt", "(I)C"⟩ : MethodName) jdk_42_method_56_code 2 (Option.some FieldType.char) ({ frames := 3, cells := 0, slots := 0, locals := 40 } : Room) #[(.ref p0), (.int 6)] h0 [] (fun v h so => (v = some (.int 84) ∧ so = [] ∧ h0 = h)) := by
  refine Met.of (EWl V) (by first | decide +kernel | rfl) hO (L0 := #[.val (.ref p0), .val (.int 6)]) rfl ?_
  intro p e s m below meth c T H
  show Go p e below _ (T.setTop (mkF m 0 #[.val (.ref p0), .val (.int 6)] []))
  refine G.aloadN H D5_0 (pc' := 1) rfl rfl rfl ?_
  refine G.callV H (m18_isLatin1 V p0 h0 H.old f1) (wd60 V) (wd61 V) (nf_sel (wd63 V)) (wd63 V) (wd62 V) (wd8 V) (wd64 V) (by decide) f0 (argsL := []) (rest := []) (W := 0) rfl rfl (lenOf (pd_4) rfl) rfl rfl D5_1 (pc' := 4) rfl (by decide) (by decide) (by decide) (by decide) all0 ?_
  intro T1 h1_ v2 s3 H1 Q4
  obtain ⟨rfl, rfl, rfl⟩ := Q4
  show Go p e below _ (T1.setTop (mkF m 4 #[.val (.ref p0), .val (.int 6)] [(.int 1)]))
  refine G.ifNo H1 D5_4 (pc' := 7) rfl (by decide) ?_
  refine G.aloadN H1 D5_7 (pc' := 8) rfl rfl rfl ?_
  refine G.getF H1 (wd25 V) Via.refl f2 D5_8 (pc' := 11) rfl ?_
  intro T5 H6
  refine G.iloadN H6 D5_11 (pc' := 12) rfl rfl ?_
  refine G.callS H6 (m70_charAt V p1 c0 h0 H6.old f3) (wd65 V) (wd66 V) (wd41 V) (wd67 V) (by decide) (argsL := [(.ref p1), (.int 6)]) (rest := []) (W := 0) rfl rfl (lenOf (pd_7) rfl) rfl rfl D5_12 (pc' := 15) rfl (by decide) (by decide) (by decide) (by decide) all0 ?_
  intro T7 h7_ v8 s9 H7 Q10
  obtain ⟨rfl, rfl, rfl⟩ := Q10
  show Go p e below _ (T7.setTop (mkF m 15 #[.val (.ref p0), .val (.int 6)] [(.int 84)]))
  exact G.retN H7 (t := .char) rfl (by decide) D5_15 (so := []) all0 (by decide) (by decide) ⟨rfl, rfl, rfl⟩
set_option maxRecDepth 65536 in
set_option maxHeartbeats 40000000 in
theorem m72_apply (V : Env1 Z a0 n0 uu0 uu1) (p0 : Addr) (p1 : Addr) (c0 : ClassId) (x0 : Int32) (x1 : Int32) (x2 : Int32) (x3 : Int32) (x4 : Int32) (x5 : Int32) (x6 : Int32) (h0 : Heap) (hO : Old Z n0 h0) (f0 : Str Z h0 p0 p1 c0 [x0, x1, x2, x3, x4, x5, x6]) (cc1 : x0 = 67) (cc2 : x1 = 79) (cc3 : x2 = 78) (cc4 : x3 = 78) (cc5 : x4 = 69) (cc6 : x5 = 67) (cc7 : ¬ x6 = 84) :
    Met Z a0 ELs True n0 l (⟨"bindery/server/stomp/HeaderEscapes", "apply", "(Ljava/lang/String;)Z"⟩ : MethodName) prog_84_method_2_code 1 (Option.some FieldType.boolean) ({ frames := 2, cells := 4, slots := 72, locals := 28 } : Room) #[(.ref p0)] h0 [p0, p1] (fun v h so => (¬ [x0, x1, x2, x3, x4, x5, x6] = [67, 79, 78, 78, 69, 67, 84] ∧ v = some (.int 1) ∧ so = [] ∧ Keep h0 h [])) := by
  refine Met.of (EWl V) (by first | decide +kernel | rfl) hO (L0 := #[.val (.ref p0)]) rfl ?_
  intro p e s m below meth c T H
  show Go p e below _ (T.setTop (mkF m 0 #[.val (.ref p0)] []))
  refine G.aloadN H D8_0 (pc' := 1) rfl rfl rfl ?_
  refine G.ldcS H trivial (wS V) (wd31 V) (by decide) (vs := [(.int 67), (.int 79), (.int 78), (.int 78), (.int 69), (.int 67), (.int 84)]) (z := 7) (by decide) (by decide) rfl (n := 28) (by decide) (by decide) (by decide) (by decide) D8_1 (pc' := 3) rfl ?_
  intro T1 h1_ a2 b4 k5 H1 E3 X6 F7 F8 A9 Q10
  have S11 : Str Z h1_ a2 b4 k5 [67, 79, 78, 78, 69, 67, 84] := ⟨X6, F7, F8, A9, by decide, by decide⟩
  have F12 := (Str.ext E3 f0)
  refine G.strEq H1 (strwEq V) (wd7 V) (wd32 V) (wd33 V) (wd35 V) (wd34 V) F12 S11 (hv0 V) (hv1 V) (rest := []) (W := 0) rfl rfl D8_3 (pc' := 6) rfl (by decide) (by decide) (by decide) (by decide) ?_ ?_
  ·
    intro T13 H14 c15
    exact absurd (List.cons.inj (List.cons.inj (List.cons.inj (List.cons.inj (List.cons.inj (List.cons.inj (List.cons.inj c15).2).2).2).2).2).2).1 cc7
  ·
    intro T16 H17 c18
    refine G.ifNo H17 D8_6 (pc' := 9) rfl (by decide) ?_
    refine G.aloadN H17 D8_9 (pc' := 10) rfl rfl rfl ?_
    refine G.ldcS H17 trivial (wS V) (wd43 V) (by decide) (vs := [(.int 67), (.int 79), (.int 78), (.int 78), (.int 69), (.int 67), (.int 84), (.int 69), (.int 68)]) (z := 9) (by decide) (by decide) rfl (n := 36) (by decide) (by decide) (by decide) (by decide) D8_10 (pc' := 12) rfl ?_
    intro T19 h19_ a20 b22 k23 H19 E21 X24 F25 F26 A27 Q28
    have S29 : Str Z h19_ a20 b22 k23 [67, 79, 78, 78, 69, 67, 84, 69, 68] := ⟨X24, F25, F26, A27, by decide, by decide⟩
    have F30 := (Str.ext E21 F12)
    refine G.strEq H19 (strwEq V) (wd7 V) (wd32 V) (wd33 V) (wd35 V) (wd34 V) F30 S29 (hv0 V) (hv1 V) (rest := []) (W := 0) rfl rfl D8_12 (pc' := 15) rfl (by decide) (by decide) (by decide) (by decide) ?_ ?_
    ·
      intro T31 H32 c33
      exact absurd c33 (by intro qq; simp at qq)
    ·
      intro T34 H35 c36
      refine G.ifNo H35 D8_15 (pc' := 18) rfl (by decide) ?_
      refine G.iconst H35 D8_18 (pc' := 19) rfl (v := 1) rfl ?_
      refine G.goto H35 D8_19 (by decide) (pc' := 23) rfl ?_
      have K37 : Keep h0 h19_ [] := (Keep.ext (Keep.ext (Keep.refl h0 []) E3) E21)
      exact G.retN H35 (t := .boolean) rfl (by decide) D8_23 (so := []) all0 (by decide) (by decide) ⟨c18, rfl, rfl, K37⟩
set_option maxRecDepth 65536 in
set_option maxHeartbeats 40000000 in
theorem m73_apply (V : Env1 Z a0 n0 uu0 uu1) (p0 : Addr) (p1 : Addr) (c0 : ClassId) (x0 : Int32) (x1 : Int32) (x2 : Int32) (x3 : Int32) (x4 : Int32) (x5 : Int32) (x6 : Int32) (x7 : Int32) (x8 : Int32) (h0 : Heap) (hO : Old Z n0 h0) (f0 : Str Z h0 p0 p1 c0 [x0, x1, x2, x3, x4, x5, x6, x7, x8]) (cc1 : x0 = 67) (cc2 : x1 = 79) (cc3 : x2 = 78) (cc4 : x3 = 78) (cc5 : x4 = 69) (cc6 : x5 = 67) (cc7 : ¬ x6 = 84) (cc8 : x7 = 69) (cc9 : x8 = 68) :
    Met Z a0 ELs True n0 l (⟨"bindery/server/stomp/HeaderEscapes", "apply", "(Ljava/lang/String;)Z"⟩ : MethodName) prog_84_method_2_code 1 (Option.some FieldType.boolean) ({ frames := 2, cells := 4, slots := 72, locals := 28 } : Room) #[(.ref p0)] h0 [p0, p1] (fun v h so => (¬ [x0, x1, x2, x3, x4, x5, x6, x7, x8] = [67, 79, 78, 78, 69, 67, 84, 69, 68] ∧ v = some (.int 1) ∧ so = [] ∧ Keep h0 h [])) := by
  refine Met.of (EWl V) (by first | decide +kernel | rfl) hO (L0 := #[.val (.ref p0)]) rfl ?_
  intro p e s m below meth c T H
  show Go p e below _ (T.setTop (mkF m 0 #[.val (.ref p0)] []))
  refine G.aloadN H D8_0 (pc' := 1) rfl rfl rfl ?_
  refine G.ldcS H trivial (wS V) (wd31 V) (by decide) (vs := [(.int 67), (.int 79), (.int 78), (.int 78), (.int 69), (.int 67), (.int 84)]) (z := 7) (by decide) (by decide) rfl (n := 28) (by decide) (by decide) (by decide) (by decide) D8_1 (pc' := 3) rfl ?_
  intro T1 h1_ a2 b4 k5 H1 E3 X6 F7 F8 A9 Q10
  have S11 : Str Z h1_ a2 b4 k5 [67, 79, 78, 78, 69, 67, 84] := ⟨X6, F7, F8, A9, by decide, by decide⟩
  have F12 := (Str.ext E3 f0)
  refine G.strEq H1 (strwEq V) (wd7 V) (wd32 V) (wd33 V) (wd35 V) (wd34 V) F12 S11 (hv0 V) (hv1 V) (rest := []) (W := 0) rfl rfl D8_3 (pc' := 6) rfl (by decide) (by decide) (by decide) (by decide) ?_ ?_
  ·
    intro T13 H14 c15
    exact absurd c15 (by intro qq; simp at qq)
  ·
    intro T16 H17 c18
    refine G.ifNo H17 D8_6 (pc' := 9) rfl (by decide) ?_
    refine G.aloadN H17 D8_9 (pc' := 10) rfl rfl rfl ?_
    refine G.ldcS H17 trivial (wS V) (wd43 V) (by decide) (vs := [(.int 67), (.int 79), (.int 78), (.int 78), (.int 69), (.int 67), (.int 84), (.int 69), (.int 68)]) (z := 9) (by decide) (by decide) rfl (n := 36) (by decide) (by decide) (by decide) (by decide) D8_10 (pc' := 12) rfl ?_
    intro T19 h19_ a20 b22 k23 H19 E21 X24 F25 F26 A27 Q28
    have S29 : Str Z h19_ a20 b22 k23 [67, 79, 78, 78, 69, 67, 84, 69, 68] := ⟨X24, F25, F26, A27, by decide, by decide⟩
    have F30 := (Str.ext E21 F12)
    refine G.strEq H19 (strwEq V) (wd7 V) (wd32 V) (wd33 V) (wd35 V) (wd34 V) F30 S29 (hv0 V) (hv1 V) (rest := []) (W := 0) rfl rfl D8_12 (pc' := 15) rfl (by decide) (by decide) (by decide) (by decide) ?_ ?_
    ·
      intro T31 H32 c33
      exact absurd (List.cons.inj (List.cons.inj (List.cons.inj (List.cons.inj (List.cons.inj (List.cons.inj (List.cons.inj c33).2).2).2).2).2).2).1 cc7
    ·
      intro T34 H35 c36
      refine G.ifNo H35 D8_15 (pc' := 18) rfl (by decide) ?_
      refine G.iconst H35 D8_18 (pc' := 19) rfl (v := 1) rfl ?_
      refine G.goto H35 D8_19 (by decide) (pc' := 23) rfl ?_
      have K37 : Keep h0 h19_ [] := (Keep.ext (Keep.ext (Keep.refl h0 []) E3) E21)
      exact G.retN H35 (t := .boolean) rfl (by decide) D8_23 (so := []) all0 (by decide) (by decide) ⟨c36, rfl, rfl, K37⟩
set_option maxRecDepth 65536 in
set_option maxHeartbeats 40000000 in
theorem cut74_101 (V : Env1 Z a0 n0 uu0 uu1) (x90101 : Int32) (x70000 : Int32) (x70001 : Int32) (x70002 : Int32) (x70003 : Int32) (x2 : Int32) (x70007 : Int32) (p0 : Addr) (c0 : ClassId) (e0 : Int32) (e1 : Int32) (e2 : Int32) (e3 : Int32) (e4 : Int32) (e5 : Int32) (e6 : Int32) (e7 : Int32) (e8 : Int32) (e9 : Int32) (x3 : Int32) (H : Hs p l e room_1 s m as' below meth c Z a0 ELs True x.cls n0 code maxLocals ret x.name T h0 1 10 []) (re0 : ¬ e0 < 0 ∧ ¬ 255 < e0) (qe0 : e0 = 67) (re1 : ¬ e1 < 0 ∧ ¬ 255 < e1) (qe1 : e1 = 79) (re2 : ¬ e2 < 0 ∧ ¬ 255 < e2) (qe2 : e2 = 78) (re3 : ¬ e3 < 0 ∧ ¬ 255 < e3) (qe3 : e3 = 78) (re4 : ¬ e4 < 0 ∧ ¬ 255 < e4) (qe4 : e4 = 69) (re5 : ¬ e5 < 0 ∧ ¬ 255 < e5) (qe5 : e5 = 67) (re6 : ¬ e6 < 0 ∧ ¬ 255 < e6) (qe6 : e6 = (x2 &&& 255)) (re7 : ¬ e7 < 0 ∧ ¬ 255 < e7) (qe7 : e7 = 69) (re8 : ¬ e8 < 0 ∧ ¬ 255 < e8) (qe8 : e8 = 68) (re9 : ¬ e9 < 0 ∧ ¬ 255 < e9) (qe9 : e9 = (x3 &&& 255)) (fA8 : Arv Z h0 p0 c0 .char 10 [(.int e0), (.int e1), (.int e2), (.int e3), (.int e4), (.int e5), (.int e6), (.int e7), (.int e8), (.int e9)] (.int 0)) (sp : x90101 = 0 ∨ x90101 = 1 ∨ x90101 = 2 ∨ x90101 = 3 ∨ x90101 = 4 ∨ x90101 = 5 ∨ x90101 = 6 ∨ x90101 = 7 ∨ x90101 = 8 ∨ x90101 = 9 ∨ x90101 = 10) :
    Go p e below (FinP s below Z ELs True n0 room_1.cells room_1.slots (fun v h so => v = some (.int 1))) (T.setTop (mkF m 101 #[.val (.int x70000), .val (.int x70001), .val (.int x70002), .val (.int x70003), .val (.int x90101), .val (.int 6), .val (.int (x2 &&& 255)), .val (.int x70007), .val (.ref p0), .unset, .unset] [])) := by
  rcases sp with rfl | rfl | rfl | rfl | rfl | rfl | rfl | rfl | rfl | rfl | rfl
  ·
    refine G.aload H at_101 (pc' := 103) rfl rfl rfl ?_
    refine G.iload H at_103 (pc' := 105) rfl rfl ?_
    refine G.callS H (m3_cut V p0 h0 H.old) (wd2 V) (wd3 V) (wd4 V) (wd5 V) (by decide) (argsL := [(.ref p0), (.int 0)]) (rest := []) (W := 0) rfl rfl (lenOf (pd_2) rfl) rfl rfl at_105 (pc' := 108) rfl (by decide) (by decide) (by decide) (by decide) all0 ?_
    intro T1 h1_ v2 s3 H1 Q4
    obtain ⟨a5, a6, k7, rfl, rfl, K8, g9, F10, F11, F12, F13⟩ := Q4
    have na5 : n0 ≤ a5 := Nat.le_trans H.le g9
    show Go p e below _ (T1.setTop (mkF m 108 #[.val (.int x70000), .val (.int x70001), .val (.int x70002), .val (.int x70003), .val (.int 0), .val (.int 6), .val (.int (x2 &&& 255)), .val (.int x70007), .val (.ref p0), .unset, .unset] [(.ref a5)]))
    refine G.astore H1 (L' := #[.val (.int x70000), .val (.int x70001), .val (.int x70002), .val (.int x70003), .val (.int 0), .val (.int 6), .val (.int (x2 &&& 255)), .val (.int x70007), .val (.ref p0), .val (.ref a5), .unset]) at_108 (pc' := 110) rfl rfl rfl ?_
    refine G.iload H1 at_110 (pc' := 112) rfl rfl ?_
    refine G.bipush H1 at_112 (pc' := 114) rfl (v := 7) rfl ?_
    refine G.icmpNo H1 at_114 (pc' := 117) rfl (by decide) ?_
    refine G.iload H1 at_117 (pc' := 119) rfl rfl ?_
    refine G.bipush H1 at_119 (pc' := 121) rfl (v := 9) rfl ?_
    refine G.icmpYes H1 at_121 (by decide) (by decide) (pc' := 147) rfl ?_
    refine G.iconst H1 at_147 (pc' := 148) rfl (v := 0) rfl ?_
    refine G.istore H1 (L' := #[.val (.int x70000), .val (.int x70001), .val (.int x70002), .val (.int x70003), .val (.int 0), .val (.int 6), .val (.int (x2 &&& 255)), .val (.int x70007), .val (.ref p0), .val (.ref a5), .val (.int 0)]) at_148 (pc' := 150) rfl rfl ?_
    refine G.aload H1 at_150 (pc' := 152) rfl rfl rfl ?_
    have S14 : Str Z h1_ a5 a6 k7 [] := ⟨F10, F12, F11, F13, cb0, Nat.le_of_ble_eq_true rfl⟩
    refine G.callS H1 (m4_apply V a5 a6 k7 h1_ H1.old S14) (wd27 V) (wd28 V) (wd29 V) (wd30 V) (by decide) (argsL := [(.ref a5)]) (rest := []) (W := 0) rfl rfl (lenOf (pd_3) rfl) rfl rfl at_152 (pc' := 155) rfl (by decide) (by decide) (by decide) (by decide) (allS (mG (i := 0) rfl) all0) ?_
    intro T15 h15_ v16 s17 H15 Q18
    obtain ⟨rfl, rfl, K19⟩ := Q18
    show Go p e below _ (T15.setTop (mkF m 155 #[.val (.int x70000), .val (.int x70001), .val (.int x70002), .val (.int x70003), .val (.int 0), .val (.int 6), .val (.int (x2 &&& 255)), .val (.int x70007), .val (.ref p0), .val (.ref a5), .val (.int 0)] [(.int 1)]))
    refine G.iload H15 at_155 (pc' := 157) rfl rfl ?_
    refine G.ifNo H15 at_157 (pc' := 160) rfl (by decide) ?_
    refine G.iconst H15 at_160 (pc' := 161) rfl (v := 1) rfl ?_
    refine G.goto H15 at_161 (by decide) (pc' := 165) rfl ?_
    refine G.icmpNo H15 at_165 (pc' := 168) rfl (by decide) ?_
    refine G.iconst H15 at_168 (pc' := 169) rfl (v := 1) rfl ?_
    refine G.goto H15 at_169 (by decide) (pc' := 173) rfl ?_
    exact G.retN H15 (t := .boolean) rfl (by decide) at_173 (so := []) all0 (by decide) (by decide) rfl
  ·
    refine G.aload H at_101 (pc' := 103) rfl rfl rfl ?_
    refine G.iload H at_103 (pc' := 105) rfl rfl ?_
    refine G.callS H (m5_cut V p0 c0 e0 e1 e2 e3 e4 e5 e6 e7 e8 e9 h0 H.old fA8 (own_u16 re0) re0) (wd2 V) (wd3 V) (wd4 V) (wd5 V) (by decide) (argsL := [(.ref p0), (.int 1)]) (rest := []) (W := 0) rfl rfl (lenOf (pd_2) rfl) rfl rfl at_105 (pc' := 108) rfl (by decide) (by decide) (by decide) (by decide) all0 ?_
    intro T20 h20_ v21 s22 H20 Q23
    obtain ⟨a24, a25, k26, rfl, rfl, K27, g28, g29, F30⟩ := Q23
    have na24 : n0 ≤ a24 := Nat.le_trans H.le g28
    have na25 : n0 ≤ a25 := Nat.le_trans H.le (Nat.le_of_lt (Nat.lt_of_le_of_lt g28 g29))
    show Go p e below _ (T20.setTop (mkF m 108 #[.val (.int x70000), .val (.int x70001), .val (.int x70002), .val (.int x70003), .val (.int 1), .val (.int 6), .val (.int (x2 &&& 255)), .val (.int x70007), .val (.ref p0), .unset, .unset] [(.ref a24)]))
    refine G.astore H20 (L' := #[.val (.int x70000), .val (.int x70001), .val (.int x70002), .val (.int x70003), .val (.int 1), .val (.int 6), .val (.int (x2 &&& 255)), .val (.int x70007), .val (.ref p0), .val (.ref a24), .unset]) at_108 (pc' := 110) rfl rfl rfl ?_
    refine G.iload H20 at_110 (pc' := 112) rfl rfl ?_
    refine G.bipush H20 at_112 (pc' := 114) rfl (v := 7) rfl ?_
    refine G.icmpNo H20 at_114 (pc' := 117) rfl (by decide) ?_
    refine G.iload H20 at_117 (pc' := 119) rfl rfl ?_
    refine G.bipush H20 at_119 (pc' := 121) rfl (v := 9) rfl ?_
    refine G.icmpYes H20 at_121 (by decide) (by decide) (pc' := 147) rfl ?_
    refine G.iconst H20 at_147 (pc' := 148) rfl (v := 0) rfl ?_
    refine G.istore H20 (L' := #[.val (.int x70000), .val (.int x70001), .val (.int x70002), .val (.int x70003), .val (.int 1), .val (.int 6), .val (.int (x2 &&& 255)), .val (.int x70007), .val (.ref p0), .val (.ref a24), .val (.int 0)]) at_148 (pc' := 150) rfl rfl ?_
    refine G.aload H20 at_150 (pc' := 152) rfl rfl rfl ?_
    refine G.callS H20 (m6_apply V a24 a25 k26 e0 h20_ H20.old F30) (wd27 V) (wd28 V) (wd29 V) (wd30 V) (by decide) (argsL := [(.ref a24)]) (rest := []) (W := 0) rfl rfl (lenOf (pd_3) rfl) rfl rfl at_152 (pc' := 155) rfl (by decide) (by decide) (by decide) (by decide) (allS (mG (i := 0) rfl) (allS (mG (i := 1) rfl) all0)) ?_
    intro T31 h31_ v32 s33 H31 Q34
    obtain ⟨rfl, rfl, K35⟩ := Q34
    show Go p e below _ (T31.setTop (mkF m 155 #[.val (.int x70000), .val (.int x70001), .val (.int x70002), .val (.int x70003), .val (.int 1), .val (.int 6), .val (.int (x2 &&& 255)), .val (.int x70007), .val (.ref p0), .val (.ref a24), .val (.int 0)] [(.int 1)]))
    refine G.iload H31 at_155 (pc' := 157) rfl rfl ?_
    refine G.ifNo H31 at_157 (pc' := 160) rfl (by decide) ?_
    refine G.iconst H31 at_160 (pc' := 161) rfl (v := 1) rfl ?_
    refine G.goto H31 at_161 (by decide) (pc' := 165) rfl ?_
    refine G.icmpNo H31 at_165 (pc' := 168) rfl (by decide) ?_
    refine G.iconst H31 at_168 (pc' := 169) rfl (v := 1) rfl ?_
    refine G.goto H31 at_169 (by decide) (pc' := 173) rfl ?_
    exact G.retN H31 (t := .boolean) rfl (by decide) at_173 (so := []) all0 (by decide) (by decide) rfl
  ·
    refine G.aload H at_101 (pc' := 103) rfl rfl rfl ?_
    refine G.iload H at_103 (pc' := 105) rfl rfl ?_
    refine G.callS H (m7_cut V p0 c0 e0 e1 e2 e3 e4 e5 e6 e7 e8 e9 h0 H.old fA8 (own_u16 re0) (own_u16 re1) re1 re0) (wd2 V) (wd3 V) (wd4 V) (wd5 V) (by decide) (argsL := [(.ref p0), (.int 2)]) (rest := []) (W := 0) rfl rfl (lenOf (pd_2) rfl) rfl rfl at_105 (pc' := 108) rfl (by decide) (by decide) (by decide) (by decide) all0 ?_
    intro T36 h36_ v37 s38 H36 Q39
    obtain ⟨a40, a41, k42, rfl, rfl, K43, g44, g45, F46⟩ := Q39
    have na40 : n0 ≤ a40 := Nat.le_trans H.le g44
    have na41 : n0 ≤ a41 := Nat.le_trans H.le (Nat.le_of_lt (Nat.lt_of_le_of_lt g44 g45))
    show Go p e below _ (T36.setTop (mkF m 108 #[.val (.int x70000), .val (.int x70001), .val (.int x70002), .val (.int x70003), .val (.int 2), .val (.int 6), .val (.int (x2 &&& 255)), .val (.int x70007), .val (.ref p0), .unset, .unset] [(.ref a40)]))
    refine G.astore H36 (L' := #[.val (.int x70000), .val (.int x70001), .val (.int x70002), .val (.int x70003), .val (.int 2), .val (.int 6), .val (.int (x2 &&& 255)), .val (.int x70007), .val (.ref p0), .val (.ref a40), .unset]) at_108 (pc' := 110) rfl rfl rfl ?_
    refine G.iload H36 at_110 (pc' := 112) rfl rfl ?_
    refine G.bipush H36 at_112 (pc' := 114) rfl (v := 7) rfl ?_
    refine G.icmpNo H36 at_114 (pc' := 117) rfl (by decide) ?_
    refine G.iload H36 at_117 (pc' := 119) rfl rfl ?_
    refine G.bipush H36 at_119 (pc' := 121) rfl (v := 9) rfl ?_
    refine G.icmpYes H36 at_121 (by decide) (by decide) (pc' := 147) rfl ?_
    refine G.iconst H36 at_147 (pc' := 148) rfl (v := 0) rfl ?_
    refine G.istore H36 (L' := #[.val (.int x70000), .val (.int x70001), .val (.int x70002), .val (.int x70003), .val (.int 2), .val (.int 6), .val (.int (x2 &&& 255)), .val (.int x70007), .val (.ref p0), .val (.ref a40), .val (.int 0)]) at_148 (pc' := 150) rfl rfl ?_
    refine G.aload H36 at_150 (pc' := 152) rfl rfl rfl ?_
    refine G.callS H36 (m8_apply V a40 a41 k42 e0 e1 h36_ H36.old F46) (wd27 V) (wd28 V) (wd29 V) (wd30 V) (by decide) (argsL := [(.ref a40)]) (rest := []) (W := 0) rfl rfl (lenOf (pd_3) rfl) rfl rfl at_152 (pc' := 155) rfl (by decide) (by decide) (by decide) (by decide) (allS (mG (i := 0) rfl) (allS (mG (i := 1) rfl) all0)) ?_
    intro T47 h47_ v48 s49 H47 Q50
    obtain ⟨rfl, rfl, K51⟩ := Q50
    show Go p e below _ (T47.setTop (mkF m 155 #[.val (.int x70000), .val (.int x70001), .val (.int x70002), .val (.int x70003), .val (.int 2), .val (.int 6), .val (.int (x2 &&& 255)), .val (.int x70007), .val (.ref p0), .val (.ref a40), .val (.int 0)] [(.int 1)]))
    refine G.iload H47 at_155 (pc' := 157) rfl rfl ?_
    refine G.ifNo H47 at_157 (pc' := 160) rfl (by decide) ?_
    refine G.iconst H47 at_160 (pc' := 161) rfl (v := 1) rfl ?_
    refine G.goto H47 at_161 (by decide) (pc' := 165) rfl ?_
    refine G.icmpNo H47 at_165 (pc' := 168) rfl (by decide) ?_
    refine G.iconst H47 at_168 (pc' := 169) rfl (v := 1) rfl ?_
    refine G.goto H47 at_169 (by decide) (pc' := 173) rfl ?_
    exact G.retN H47 (t := .boolean) rfl (by decide) at_173 (so := []) all0 (by decide) (by decide) rfl
  ·
    refine G.aload H at_101 (pc' := 103) rfl rfl rfl ?_
    refine G.iload H at_103 (pc' := 105) rfl rfl ?_
    refine G.callS H (m9_cut V p0 c0 e0 e1 e2 e3 e4 e5 e6 e7 e8 e9 h0 H.old fA8 (own_u16 re0) (own_u16 re1) (own_u16 re2) re2 re1 re0) (wd2 V) (wd3 V) (wd4 V) (wd5 V) (by decide) (argsL := [(.ref p0), (.int 3)]) (rest := []) (W := 0) rfl rfl (lenOf (pd_2) rfl) rfl rfl at_105 (pc' := 108) rfl (by decide) (by decide) (by decide) (by decide) all0 ?_
    intro T52 h52_ v53 s54 H52 Q55
    obtain ⟨a56, a57, k58, rfl, rfl, K59, g60, g61, F62⟩ := Q55
    have na56 : n0 ≤ a56 := Nat.le_trans H.le g60
    have na57 : n0 ≤ a57 := Nat.le_trans H.le (Nat.le_of_lt (Nat.lt_of_le_of_lt g60 g61))
    show Go p e below _ (T52.setTop (mkF m 108 #[.val (.int x70000), .val (.int x70001), .val (.int x70002), .val (.int x70003), .val (.int 3), .val (.int 6), .val (.int (x2 &&& 255)), .val (.int x70007), .val (.ref p0), .unset, .unset] [(.ref a56)]))
    refine G.astore H52 (L' := #[.val (.int x70000), .val (.int x70001), .val (.int x70002), .val (.int x70003), .val (.int 3), .val (.int 6), .val (.int (x2 &&& 255)), .val (.int x70007), .val (.ref p0), .val (.ref a56), .unset]) at_108 (pc' := 110) rfl rfl rfl ?_
    refine G.iload H52 at_110 (pc' := 112) rfl rfl ?_
    refine G.bipush H52 at_112 (pc' := 114) rfl (v := 7) rfl ?_
    refine G.icmpNo H52 at_114 (pc' := 117) rfl (by decide) ?_
    refine G.iload H52 at_117 (pc' := 119) rfl rfl ?_
    refine G.bipush H52 at_119 (pc' := 121) rfl (v := 9) rfl ?_
    refine G.icmpYes H52 at_121 (by decide) (by decide) (pc' := 147) rfl ?_
    refine G.iconst H52 at_147 (pc' := 148) rfl (v := 0) rfl ?_
    refine G.istore H52 (L' := #[.val (.int x70000), .val (.int x70001), .val (.int x70002), .val (.int x70003), .val (.int 3), .val (.int 6), .val (.int (x2 &&& 255)), .val (.int x70007), .val (.ref p0), .val (.ref a56), .val (.int 0)]) at_148 (pc' := 150) rfl rfl ?_
    refine G.aload H52 at_150 (pc' := 152) rfl rfl rfl ?_
    refine G.callS H52 (m10_apply V a56 a57 k58 e0 e1 e2 h52_ H52.old F62) (wd27 V) (wd28 V) (wd29 V) (wd30 V) (by decide) (argsL := [(.ref a56)]) (rest := []) (W := 0) rfl rfl (lenOf (pd_3) rfl) rfl rfl at_152 (pc' := 155) rfl (by decide) (by decide) (by decide) (by decide) (allS (mG (i := 0) rfl) (allS (mG (i := 1) rfl) all0)) ?_
    intro T63 h63_ v64 s65 H63 Q66
    obtain ⟨rfl, rfl, K67⟩ := Q66
    show Go p e below _ (T63.setTop (mkF m 155 #[.val (.int x70000), .val (.int x70001), .val (.int x70002), .val (.int x70003), .val (.int 3), .val (.int 6), .val (.int (x2 &&& 255)), .val (.int x70007), .val (.ref p0), .val (.ref a56), .val (.int 0)] [(.int 1)]))
    refine G.iload H63 at_155 (pc' := 157) rfl rfl ?_
    refine G.ifNo H63 at_157 (pc' := 160) rfl (by decide) ?_
    refine G.iconst H63 at_160 (pc' := 161) rfl (v := 1) rfl ?_
    refine G.goto H63 at_161 (by decide) (pc' := 165) rfl ?_
    refine G.icmpNo H63 at_165 (pc' := 168) rfl (by decide) ?_
    refine G.iconst H63 at_168 (pc' := 169) rfl (v := 1) rfl ?_
    refine G.goto H63 at_169 (by decide) (pc' := 173) rfl ?_
    exact G.retN H63 (t := .boolean) rfl (by decide) at_173 (so := []) all0 (by decide) (by decide) rfl
  ·
    refine G.aload H at_101 (pc' := 103) rfl rfl rfl ?_
    refine G.iload H at_103 (pc' := 105) rfl rfl ?_
    refine G.callS H (m11_cut V p0 c0 e0 e1 e2 e3 e4 e5 e6 e7 e8 e9 h0 H.old fA8 (own_u16 re0) (own_u16 re1) (own_u16 re2) (own_u16 re3) re3 re2 re1 re0) (wd2 V) (wd3 V) (wd4 V) (wd5 V) (by decide) (argsL := [(.ref p0), (.int 4)]) (rest := []) (W := 0) rfl rfl (lenOf (pd_2) rfl) rfl rfl at_105 (pc' := 108) rfl (by decide) (by decide) (by decide) (by decide) all0 ?_
    intro T68 h68_ v69 s70 H68 Q71
    obtain ⟨a72, a73, k74, rfl, rfl, K75, g76, g77, F78⟩ := Q71
    have na72 : n0 ≤ a72 := Nat.le_trans H.le g76
    have na73 : n0 ≤ a73 := Nat.le_trans H.le (Nat.le_of_lt (Nat.lt_of_le_of_lt g76 g77))
    show Go p e below _ (T68.setTop (mkF m 108 #[.val (.int x70000), .val (.int x70001), .val (.int x70002), .val (.int x70003), .val (.int 4), .val (.int 6), .val (.int (x2 &&& 255)), .val (.int x70007), .val (.ref p0), .unset, .unset] [(.ref a72)]))
    refine G.astore H68 (L' := #[.val (.int x70000), .val (.int x70001), .val (.int x70002), .val (.int x70003), .val (.int 4), .val (.int 6), .val (.int (x2 &&& 255)), .val (.int x70007), .val (.ref p0), .val (.ref a72), .unset]) at_108 (pc' := 110) rfl rfl rfl ?_
    refine G.iload H68 at_110 (pc' := 112) rfl rfl ?_
    refine G.bipush H68 at_112 (pc' := 114) rfl (v := 7) rfl ?_
    refine G.icmpNo H68 at_114 (pc' := 117) rfl (by decide) ?_
    refine G.iload H68 at_117 (pc' := 119) rfl rfl ?_
    refine G.bipush H68 at_119 (pc' := 121) rfl (v := 9) rfl ?_
    refine G.icmpYes H68 at_121 (by decide) (by decide) (pc' := 147) rfl ?_
    refine G.iconst H68 at_147 (pc' := 148) rfl (v := 0) rfl ?_
    refine G.istore H68 (L' := #[.val (.int x70000), .val (.int x70001), .val (.int x70002), .val (.int x70003), .val (.int 4), .val (.int 6), .val (.int (x2 &&& 255)), .val (.int x70007), .val (.ref p0), .val (.ref a72), .val (.int 0)]) at_148 (pc' := 150) rfl rfl ?_
    refine G.aload H68 at_150 (pc' := 152) rfl rfl rfl ?_
    refine G.callS H68 (m12_apply V a72 a73 k74 e0 e1 e2 e3 h68_ H68.old F78) (wd27 V) (wd28 V) (wd29 V) (wd30 V) (by decide) (argsL := [(.ref a72)]) (rest := []) (W := 0) rfl rfl (lenOf (pd_3) rfl) rfl rfl at_152 (pc' := 155) rfl (by decide) (by decide) (by decide) (by decide) (allS (mG (i := 0) rfl) (allS (mG (i := 1) rfl) all0)) ?_
    intro T79 h79_ v80 s81 H79 Q82
    obtain ⟨rfl, rfl, K83⟩ := Q82
    show Go p e below _ (T79.setTop (mkF m 155 #[.val (.int x70000), .val (.int x70001), .val (.int x70002), .val (.int x70003), .val (.int 4), .val (.int 6), .val (.int (x2 &&& 255)), .val (.int x70007), .val (.ref p0), .val (.ref a72), .val (.int 0)] [(.int 1)]))
    refine G.iload H79 at_155 (pc' := 157) rfl rfl ?_
    refine G.ifNo H79 at_157 (pc' := 160) rfl (by decide) ?_
    refine G.iconst H79 at_160 (pc' := 161) rfl (v := 1) rfl ?_
    refine G.goto H79 at_161 (by decide) (pc' := 165) rfl ?_
    refine G.icmpNo H79 at_165 (pc' := 168) rfl (by decide) ?_
    refine G.iconst H79 at_168 (pc' := 169) rfl (v := 1) rfl ?_
    refine G.goto H79 at_169 (by decide) (pc' := 173) rfl ?_
    exact G.retN H79 (t := .boolean) rfl (by decide) at_173 (so := []) all0 (by decide) (by decide) rfl
  ·
    refine G.aload H at_101 (pc' := 103) rfl rfl rfl ?_
    refine G.iload H at_103 (pc' := 105) rfl rfl ?_
    refine G.callS H (m13_cut V p0 c0 e0 e1 e2 e3 e4 e5 e6 e7 e8 e9 h0 H.old fA8 (own_u16 re0) (own_u16 re1) (own_u16 re2) (own_u16 re3) (own_u16 re4) re4 re3 re2 re1 re0) (wd2 V) (wd3 V) (wd4 V) (wd5 V) (by decide) (argsL := [(.ref p0), (.int 5)]) (rest := []) (W := 0) rfl rfl (lenOf (pd_2) rfl) rfl rfl at_105 (pc' := 108) rfl (by decide) (by decide) (by decide) (by decide) all0 ?_
    intro T84 h84_ v85 s86 H84 Q87
    obtain ⟨a88, a89, k90, rfl, rfl, K91, g92, g93, F94⟩ := Q87
    have na88 : n0 ≤ a88 := Nat.le_trans H.le g92
    have na89 : n0 ≤ a89 := Nat.le_trans H.le (Nat.le_of_lt (Nat.lt_of_le_of_lt g92 g93))
    show Go p e below _ (T84.setTop (mkF m 108 #[.val (.int x70000), .val (.int x70001), .val (.int x70002), .val (.int x70003), .val (.int 5), .val (.int 6), .val (.int (x2 &&& 255)), .val (.int x70007), .val (.ref p0), .unset, .unset] [(.ref a88)]))
    refine G.astore H84 (L' := #[.val (.int x70000), .val (.int x70001), .val (.int x70002), .val (.int x70003), .val (.int 5), .val (.int 6), .val (.int (x2 &&& 255)), .val (.int x70007), .val (.ref p0), .val (.ref a88), .unset]) at_108 (pc' := 110) rfl rfl rfl ?_
    refine G.iload H84 at_110 (pc' := 112) rfl rfl ?_
    refine G.bipush H84 at_112 (pc' := 114) rfl (v := 7) rfl ?_
    refine G.icmpNo H84 at_114 (pc' := 117) rfl (by decide) ?_
    refine G.iload H84 at_117 (pc' := 119) rfl rfl ?_
    refine G.bipush H84 at_119 (pc' := 121) rfl (v := 9) rfl ?_
    refine G.icmpYes H84 at_121 (by decide) (by decide) (pc' := 147) rfl ?_
    refine G.iconst H84 at_147 (pc' := 148) rfl (v := 0) rfl ?_
    refine G.istore H84 (L' := #[.val (.int x70000), .val (.int x70001), .val (.int x70002), .val (.int x70003), .val (.int 5), .val (.int 6), .val (.int (x2 &&& 255)), .val (.int x70007), .val (.ref p0), .val (.ref a88), .val (.int 0)]) at_148 (pc' := 150) rfl rfl ?_
    refine G.aload H84 at_150 (pc' := 152) rfl rfl rfl ?_
    refine G.callS H84 (m14_apply V a88 a89 k90 e0 e1 e2 e3 e4 h84_ H84.old F94) (wd27 V) (wd28 V) (wd29 V) (wd30 V) (by decide) (argsL := [(.ref a88)]) (rest := []) (W := 0) rfl rfl (lenOf (pd_3) rfl) rfl rfl at_152 (pc' := 155) rfl (by decide) (by decide) (by decide) (by decide) (allS (mG (i := 0) rfl) (allS (mG (i := 1) rfl) all0)) ?_
    intro T95 h95_ v96 s97 H95 Q98
    obtain ⟨rfl, rfl, K99⟩ := Q98
    show Go p e below _ (T95.setTop (mkF m 155 #[.val (.int x70000), .val (.int x70001), .val (.int x70002), .val (.int x70003), .val (.int 5), .val (.int 6), .val (.int (x2 &&& 255)), .val (.int x70007), .val (.ref p0), .val (.ref a88), .val (.int 0)] [(.int 1)]))
    refine G.iload H95 at_155 (pc' := 157) rfl rfl ?_
    refine G.ifNo H95 at_157 (pc' := 160) rfl (by decide) ?_
    refine G.iconst H95 at_160 (pc' := 161) rfl (v := 1) rfl ?_
    refine G.goto H95 at_161 (by decide) (pc' := 165) rfl ?_
    refine G.icmpNo H95 at_165 (pc' := 168) rfl (by decide) ?_
    refine G.iconst H95 at_168 (pc' := 169) rfl (v := 1) rfl ?_
    refine G.goto H95 at_169 (by decide) (pc' := 173) rfl ?_
    exact G.retN H95 (t := .boolean) rfl (by decide) at_173 (so := []) all0 (by decide) (by decide) rfl
  ·
    refine G.aload H at_101 (pc' := 103) rfl rfl rfl ?_
    refine G.iload H at_103 (pc' := 105) rfl rfl ?_
    refine G.callS H (m15_cut V p0 c0 e0 e1 e2 e3 e4 e5 e6 e7 e8 e9 h0 H.old fA8 (own_u16 re0) (own_u16 re1) (own_u16 re2) (own_u16 re3) (own_u16 re4) (own_u16 re5) re5 re4 re3 re2 re1 re0) (wd2 V) (wd3 V) (wd4 V) (wd5 V) (by decide) (argsL := [(.ref p0), (.int 6)]) (rest := []) (W := 0) rfl rfl (lenOf (pd_2) rfl) rfl rfl at_105 (pc' := 108) rfl (by decide) (by decide) (by decide) (by decide) all0 ?_
    intro T100 h100_ v101 s102 H100 Q103
    obtain ⟨a104, a105, k106, rfl, rfl, K107, g108, g109, F110⟩ := Q103
    have na104 : n0 ≤ a104 := Nat.le_trans H.le g108
    have na105 : n0 ≤ a105 := Nat.le_trans H.le (Nat.le_of_lt (Nat.lt_of_le_of_lt g108 g109))
    show Go p e below _ (T100.setTop (mkF m 108 #[.val (.int x70000), .val (.int x70001), .val (.int x70002), .val (.int x70003), .val (.int 6), .val (.int 6), .val (.int (x2 &&& 255)), .val (.int x70007), .val (.ref p0), .unset, .unset] [(.ref a104)]))
    refine G.astore H100 (L' := #[.val (.int x70000), .val (.int x70001), .val (.int x70002), .val (.int x70003), .val (.int 6), .val (.int 6), .val (.int (x2 &&& 255)), .val (.int x70007), .val (.ref p0), .val (.ref a104), .unset]) at_108 (pc' := 110) rfl rfl rfl ?_
    refine G.iload H100 at_110 (pc' := 112) rfl rfl ?_
    refine G.bipush H100 at_112 (pc' := 114) rfl (v := 7) rfl ?_
    refine G.icmpNo H100 at_114 (pc' := 117) rfl (by decide) ?_
    refine G.iload H100 at_117 (pc' := 119) rfl rfl ?_
    refine G.bipush H100 at_119 (pc' := 121) rfl (v := 9) rfl ?_
    refine G.icmpYes H100 at_121 (by decide) (by decide) (pc' := 147) rfl ?_
    refine G.iconst H100 at_147 (pc' := 148) rfl (v := 0) rfl ?_
    refine G.istore H100 (L' := #[.val (.int x70000), .val (.int x70001), .val (.int x70002), .val (.int x70003), .val (.int 6), .val (.int 6), .val (.int (x2 &&& 255)), .val (.int x70007), .val (.ref p0), .val (.ref a104), .val (.int 0)]) at_148 (pc' := 150) rfl rfl ?_
    refine G.aload H100 at_150 (pc' := 152) rfl rfl rfl ?_
    refine G.callS H100 (m16_apply V a104 a105 k106 e0 e1 e2 e3 e4 e5 h100_ H100.old F110) (wd27 V) (wd28 V) (wd29 V) (wd30 V) (by decide) (argsL := [(.ref a104)]) (rest := []) (W := 0) rfl rfl (lenOf (pd_3) rfl) rfl rfl at_152 (pc' := 155) rfl (by decide) (by decide) (by decide) (by decide) (allS (mG (i := 0) rfl) (allS (mG (i := 1) rfl) all0)) ?_
    intro T111 h111_ v112 s113 H111 Q114
    obtain ⟨rfl, rfl, K115⟩ := Q114
    show Go p e below _ (T111.setTop (mkF m 155 #[.val (.int x70000), .val (.int x70001), .val (.int x70002), .val (.int x70003), .val (.int 6), .val (.int 6), .val (.int (x2 &&& 255)), .val (.int x70007), .val (.ref p0), .val (.ref a104), .val (.int 0)] [(.int 1)]))
    refine G.iload H111 at_155 (pc' := 157) rfl rfl ?_
    refine G.ifNo H111 at_157 (pc' := 160) rfl (by decide) ?_
    refine G.iconst H111 at_160 (pc' := 161) rfl (v := 1) rfl ?_
    refine G.goto H111 at_161 (by decide) (pc' := 165) rfl ?_
    refine G.icmpNo H111 at_165 (pc' := 168) rfl (by decide) ?_
    refine G.iconst H111 at_168 (pc' := 169) rfl (v := 1) rfl ?_
    refine G.goto H111 at_169 (by decide) (pc' := 173) rfl ?_
    exact G.retN H111 (t := .boolean) rfl (by decide) at_173 (so := []) all0 (by decide) (by decide) rfl
  ·
    refine G.aload H at_101 (pc' := 103) rfl rfl rfl ?_
    refine G.iload H at_103 (pc' := 105) rfl rfl ?_
    refine G.callS H (m17_cut V p0 c0 e0 e1 e2 e3 e4 e5 e6 e7 e8 e9 h0 H.old fA8 (own_u16 re0) (own_u16 re1) (own_u16 re2) (own_u16 re3) (own_u16 re4) (own_u16 re5) (own_u16 re6) re6 re5 re4 re3 re2 re1 re0) (wd2 V) (wd3 V) (wd4 V) (wd5 V) (by decide) (argsL := [(.ref p0), (.int 7)]) (rest := []) (W := 0) rfl rfl (lenOf (pd_2) rfl) rfl rfl at_105 (pc' := 108) rfl (by decide) (by decide) (by decide) (by decide) all0 ?_
    intro T116 h116_ v117 s118 H116 Q119
    obtain ⟨a120, a121, k122, rfl, rfl, K123, g124, g125, F126⟩ := Q119
    have na120 : n0 ≤ a120 := Nat.le_trans H.le g124
    have na121 : n0 ≤ a121 := Nat.le_trans H.le (Nat.le_of_lt (Nat.lt_of_le_of_lt g124 g125))
    show Go p e below _ (T116.setTop (mkF m 108 #[.val (.int x70000), .val (.int x70001), .val (.int x70002), .val (.int x70003), .val (.int 7), .val (.int 6), .val (.int (x2 &&& 255)), .val (.int x70007), .val (.ref p0), .unset, .unset] [(.ref a120)]))
    refine G.astore H116 (L' := #[.val (.int x70000), .val (.int x70001), .val (.int x70002), .val (.int x70003), .val (.int 7), .val (.int 6), .val (.int (x2 &&& 255)), .val (.int x70007), .val (.ref p0), .val (.ref a120), .unset]) at_108 (pc' := 110) rfl rfl rfl ?_
    refine G.iload H116 at_110 (pc' := 112) rfl rfl ?_
    refine G.bipush H116 at_112 (pc' := 114) rfl (v := 7) rfl ?_
    refine G.icmpYes H116 at_114 (by decide) (by decide) (pc' := 124) rfl ?_
    refine G.iload H116 at_124 (pc' := 126) rfl rfl ?_
    refine G.iload H116 at_126 (pc' := 128) rfl rfl ?_
    refine G.icmpNo H116 at_128 (pc' := 131) rfl (by decide) ?_
    refine G.iload H116 at_131 (pc' := 133) rfl rfl ?_
    refine G.ldcS H116 trivial (wS V) (wd54 V) (by decide) (vs := [(.int 67), (.int 79), (.int 78), (.int 78), (.int 69), (.int 67), (.int 84), (.int 69), (.int 68)]) (z := 9) (by decide) (by decide) rfl (n := 36) (by decide) (by decide) (by decide) (by decide) at_133 (pc' := 135) rfl ?_
    intro T127 h127_ a128 b130 k131 H127 E129 X132 F133 F134 A135 Q136
    have S137 : Str Z h127_ a128 b130 k131 [67, 79, 78, 78, 69, 67, 84, 69, 68] := ⟨X132, F133, F134, A135, by decide, by decide⟩
    refine G.iload H127 at_135 (pc' := 137) rfl rfl ?_
    refine G.callV H127 (m71_charAt V a128 b130 k131 h127_ H127.old X132 F133 F134 A135) (wd55 V) (wd56 V) (nf_sel (wd58 V)) (wd58 V) (wd57 V) (wd8 V) (wd59 V) (by decide) X132 (argsL := [(.int 6)]) (rest := [(.int (x2 &&& 255))]) (W := 1) rfl rfl (lenOf (pd_8) rfl) rfl rfl at_137 (pc' := 140) rfl (by decide) (by decide) (by decide) (by decide) all0 ?_
    intro T138 h138_ v139 s140 H138 Q141
    obtain ⟨rfl, rfl, rfl⟩ := Q141
    show Go p e below _ (T138.setTop (mkF m 140 #[.val (.int x70000), .val (.int x70001), .val (.int x70002), .val (.int x70003), .val (.int 7), .val (.int 6), .val (.int (x2 &&& 255)), .val (.int x70007), .val (.ref p0), .val (.ref a120), .unset] [(.int 84), (.int (x2 &&& 255))]))
    by_cases c142 : (x2 &&& 255) = 84
    ·
      refine G.icmpNo H138 at_140 (pc' := 143) rfl (XT.ii_ne_f c142) ?_
      refine G.iconst H138 at_143 (pc' := 144) rfl (v := 1) rfl ?_
      refine G.goto H138 at_144 (by decide) (pc' := 148) rfl ?_
      refine G.istore H138 (L' := #[.val (.int x70000), .val (.int x70001), .val (.int x70002), .val (.int x70003), .val (.int 7), .val (.int 6), .val (.int (x2 &&& 255)), .val (.int x70007), .val (.ref p0), .val (.ref a120), .val (.int 1)]) at_148 (pc' := 150) rfl rfl ?_
      refine G.aload H138 at_150 (pc' := 152) rfl rfl rfl ?_
      have F143 := (Str.ext E129 F126)
      refine G.callS H138 (m23_apply V a120 a121 k122 e0 e1 e2 e3 e4 e5 e6 h127_ H138.old F143 qe0 qe1 qe2 qe3 qe4 qe5 (Eq.trans qe6 c142)) (wd27 V) (wd28 V) (wd29 V) (wd30 V) (by decide) (argsL := [(.ref a120)]) (rest := []) (W := 0) rfl rfl (lenOf (pd_3) rfl) rfl rfl at_152 (pc' := 155) rfl (by decide) (by decide) (by decide) (by decide) all0 ?_
      intro T144 h144_ v145 s146 H144 Q147
      obtain ⟨c148, rfl, rfl, K149⟩ := Q147
      show Go p e below _ (T144.setTop (mkF m 155 #[.val (.int x70000), .val (.int x70001), .val (.int x70002), .val (.int x70003), .val (.int 7), .val (.int 6), .val (.int (x2 &&& 255)), .val (.int x70007), .val (.ref p0), .val (.ref a120), .val (.int 1)] [(.int 0)]))
      refine G.iload H144 at_155 (pc' := 157) rfl rfl ?_
      refine G.ifYes H144 at_157 (by decide) (by decide) (pc' := 164) rfl ?_
      refine G.iconst H144 at_164 (pc' := 165) rfl (v := 0) rfl ?_
      refine G.icmpNo H144 at_165 (pc' := 168) rfl (by decide) ?_
      refine G.iconst H144 at_168 (pc' := 169) rfl (v := 1) rfl ?_
      refine G.goto H144 at_169 (by decide) (pc' := 173) rfl ?_
      exact G.retN H144 (t := .boolean) rfl (by decide) at_173 (so := []) all0 (by decide) (by decide) rfl
    ·
      refine G.icmpYes H138 at_140 (XT.ii_ne_t c142) (by decide) (pc' := 147) rfl ?_
      refine G.iconst H138 at_147 (pc' := 148) rfl (v := 0) rfl ?_
      refine G.istore H138 (L' := #[.val (.int x70000), .val (.int x70001), .val (.int x70002), .val (.int x70003), .val (.int 7), .val (.int 6), .val (.int (x2 &&& 255)), .val (.int x70007), .val (.ref p0), .val (.ref a120), .val (.int 0)]) at_148 (pc' := 150) rfl rfl ?_
      refine G.aload H138 at_150 (pc' := 152) rfl rfl rfl ?_
      have F150 := (Str.ext E129 F126)
      refine G.callS H138 (m72_apply V a120 a121 k122 e0 e1 e2 e3 e4 e5 e6 h127_ H138.old F150 qe0 qe1 qe2 qe3 qe4 qe5 (fun qq => c142 (Eq.trans (Eq.symm qe6) qq))) (wd27 V) (wd28 V) (wd29 V) (wd30 V) (by decide) (argsL := [(.ref a120)]) (rest := []) (W := 0) rfl rfl (lenOf (pd_3) rfl) rfl rfl at_152 (pc' := 155) rfl (by decide) (by decide) (by decide) (by decide) (allS (mG (i := 0) rfl) (allS (mG (i := 1) rfl) all0)) ?_
      intro T151 h151_ v152 s153 H151 Q154
      obtain ⟨c155, rfl, rfl, K156⟩ := Q154
      show Go p e below _ (T151.setTop (mkF m 155 #[.val (.int x70000), .val (.int x70001), .val (.int x70002), .val (.int x70003), .val (.int 7), .val (.int 6), .val (.int (x2 &&& 255)), .val (.int x70007), .val (.ref p0), .val (.ref a120), .val (.int 0)] [(.int 1)]))
      refine G.iload H151 at_155 (pc' := 157) rfl rfl ?_
      refine G.ifNo H151 at_157 (pc' := 160) rfl (by decide) ?_
      refine G.iconst H151 at_160 (pc' := 161) rfl (v := 1) rfl ?_
      refine G.goto H151 at_161 (by decide) (pc' := 165) rfl ?_
      refine G.icmpNo H151 at_165 (pc' := 168) rfl (by decide) ?_
      refine G.iconst H151 at_168 (pc' := 169) rfl (v := 1) rfl ?_
      refine G.goto H151 at_169 (by decide) (pc' := 173) rfl ?_
      exact G.retN H151 (t := .boolean) rfl (by decide) at_173 (so := []) all0 (by decide) (by decide) rfl
  ·
    refine G.aload H at_101 (pc' := 103) rfl rfl rfl ?_
    refine G.iload H at_103 (pc' := 105) rfl rfl ?_
    refine G.callS H (m25_cut V p0 c0 e0 e1 e2 e3 e4 e5 e6 e7 e8 e9 h0 H.old fA8 (own_u16 re0) (own_u16 re1) (own_u16 re2) (own_u16 re3) (own_u16 re4) (own_u16 re5) (own_u16 re6) (own_u16 re7) re7 re6 re5 re4 re3 re2 re1 re0) (wd2 V) (wd3 V) (wd4 V) (wd5 V) (by decide) (argsL := [(.ref p0), (.int 8)]) (rest := []) (W := 0) rfl rfl (lenOf (pd_2) rfl) rfl rfl at_105 (pc' := 108) rfl (by decide) (by decide) (by decide) (by decide) all0 ?_
    intro T157 h157_ v158 s159 H157 Q160
    obtain ⟨a161, a162, k163, rfl, rfl, K164, g165, g166, F167⟩ := Q160
    have na161 : n0 ≤ a161 := Nat.le_trans H.le g165
    have na162 : n0 ≤ a162 := Nat.le_trans H.le (Nat.le_of_lt (Nat.lt_of_le_of_lt g165 g166))
    show Go p e below _ (T157.setTop (mkF m 108 #[.val (.int x70000), .val (.int x70001), .val (.int x70002), .val (.int x70003), .val (.int 8), .val (.int 6), .val (.int (x2 &&& 255)), .val (.int x70007), .val (.ref p0), .unset, .unset] [(.ref a161)]))
    refine G.astore H157 (L' := #[.val (.int x70000), .val (.int x70001), .val (.int x70002), .val (.int x70003), .val (.int 8), .val (.int 6), .val (.int (x2 &&& 255)), .val (.int x70007), .val (.ref p0), .val (.ref a161), .unset]) at_108 (pc' := 110) rfl rfl rfl ?_
    refine G.iload H157 at_110 (pc' := 112) rfl rfl ?_
    refine G.bipush H157 at_112 (pc' := 114) rfl (v := 7) rfl ?_
    refine G.icmpNo H157 at_114 (pc' := 117) rfl (by decide) ?_
    refine G.iload H157 at_117 (pc' := 119) rfl rfl ?_
    refine G.bipush H157 at_119 (pc' := 121) rfl (v := 9) rfl ?_
    refine G.icmpYes H157 at_121 (by decide) (by decide) (pc' := 147) rfl ?_
    refine G.iconst H157 at_147 (pc' := 148) rfl (v := 0) rfl ?_
    refine G.istore H157 (L' := #[.val (.int x70000), .val (.int x70001), .val (.int x70002), .val (.int x70003), .val (.int 8), .val (.int 6), .val (.int (x2 &&& 255)), .val (.int x70007), .val (.ref p0), .val (.ref a161), .val (.int 0)]) at_148 (pc' := 150) rfl rfl ?_
    refine G.aload H157 at_150 (pc' := 152) rfl rfl rfl ?_
    refine G.callS H157 (m26_apply V a161 a162 k163 e0 e1 e2 e3 e4 e5 e6 e7 h157_ H157.old F167) (wd27 V) (wd28 V) (wd29 V) (wd30 V) (by decide) (argsL := [(.ref a161)]) (rest := []) (W := 0) rfl rfl (lenOf (pd_3) rfl) rfl rfl at_152 (pc' := 155) rfl (by decide) (by decide) (by decide) (by decide) (allS (mG (i := 0) rfl) (allS (mG (i := 1) rfl) all0)) ?_
    intro T168 h168_ v169 s170 H168 Q171
    obtain ⟨rfl, rfl, K172⟩ := Q171
    show Go p e below _ (T168.setTop (mkF m 155 #[.val (.int x70000), .val (.int x70001), .val (.int x70002), .val (.int x70003), .val (.int 8), .val (.int 6), .val (.int (x2 &&& 255)), .val (.int x70007), .val (.ref p0), .val (.ref a161), .val (.int 0)] [(.int 1)]))
    refine G.iload H168 at_155 (pc' := 157) rfl rfl ?_
    refine G.ifNo H168 at_157 (pc' := 160) rfl (by decide) ?_
    refine G.iconst H168 at_160 (pc' := 161) rfl (v := 1) rfl ?_
    refine G.goto H168 at_161 (by decide) (pc' := 165) rfl ?_
    refine G.icmpNo H168 at_165 (pc' := 168) rfl (by decide) ?_
    refine G.iconst H168 at_168 (pc' := 169) rfl (v := 1) rfl ?_
    refine G.goto H168 at_169 (by decide) (pc' := 173) rfl ?_
    exact G.retN H168 (t := .boolean) rfl (by decide) at_173 (so := []) all0 (by decide) (by decide) rfl
  ·
    refine G.aload H at_101 (pc' := 103) rfl rfl rfl ?_
    refine G.iload H at_103 (pc' := 105) rfl rfl ?_
    refine G.callS H (m27_cut V p0 c0 e0 e1 e2 e3 e4 e5 e6 e7 e8 e9 h0 H.old fA8 (own_u16 re0) (own_u16 re1) (own_u16 re2) (own_u16 re3) (own_u16 re4) (own_u16 re5) (own_u16 re6) (own_u16 re7) (own_u16 re8) re8 re7 re6 re5 re4 re3 re2 re1 re0) (wd2 V) (wd3 V) (wd4 V) (wd5 V) (by decide) (argsL := [(.ref p0), (.int 9)]) (rest := []) (W := 0) rfl rfl (lenOf (pd_2) rfl) rfl rfl at_105 (pc' := 108) rfl (by decide) (by decide) (by decide) (by decide) all0 ?_
    intro T173 h173_ v174 s175 H173 Q176
    obtain ⟨a177, a178, k179, rfl, rfl, K180, g181, g182, F183⟩ := Q176
    have na177 : n0 ≤ a177 := Nat.le_trans H.le g181
    have na178 : n0 ≤ a178 := Nat.le_trans H.le (Nat.le_of_lt (Nat.lt_of_le_of_lt g181 g182))
    show Go p e below _ (T173.setTop (mkF m 108 #[.val (.int x70000), .val (.int x70001), .val (.int x70002), .val (.int x70003), .val (.int 9), .val (.int 6), .val (.int (x2 &&& 255)), .val (.int x70007), .val (.ref p0), .unset, .unset] [(.ref a177)]))
    refine G.astore H173 (L' := #[.val (.int x70000), .val (.int x70001), .val (.int x70002), .val (.int x70003), .val (.int 9), .val (.int 6), .val (.int (x2 &&& 255)), .val (.int x70007), .val (.ref p0), .val (.ref a177), .unset]) at_108 (pc' := 110) rfl rfl rfl ?_
    refine G.iload H173 at_110 (pc' := 112) rfl rfl ?_
    refine G.bipush H173 at_112 (pc' := 114) rfl (v := 7) rfl ?_
    refine G.icmpNo H173 at_114 (pc' := 117) rfl (by decide) ?_
    refine G.iload H173 at_117 (pc' := 119) rfl rfl ?_
    refine G.bipush H173 at_119 (pc' := 121) rfl (v := 9) rfl ?_
    refine G.icmpNo H173 at_121 (pc' := 124) rfl (by decide) ?_
    refine G.iload H173 at_124 (pc' := 126) rfl rfl ?_
    refine G.iload H173 at_126 (pc' := 128) rfl rfl ?_
    refine G.icmpNo H173 at_128 (pc' := 131) rfl (by decide) ?_
    refine G.iload H173 at_131 (pc' := 133) rfl rfl ?_
    refine G.ldcS H173 trivial (wS V) (wd54 V) (by decide) (vs := [(.int 67), (.int 79), (.int 78), (.int 78), (.int 69), (.int 67), (.int 84), (.int 69), (.int 68)]) (z := 9) (by decide) (by decide) rfl (n := 36) (by decide) (by decide) (by decide) (by decide) at_133 (pc' := 135) rfl ?_
    intro T184 h184_ a185 b187 k188 H184 E186 X189 F190 F191 A192 Q193
    have S194 : Str Z h184_ a185 b187 k188 [67, 79, 78, 78, 69, 67, 84, 69, 68] := ⟨X189, F190, F191, A192, by decide, by decide⟩
    refine G.iload H184 at_135 (pc' := 137) rfl rfl ?_
    refine G.callV H184 (m71_charAt V a185 b187 k188 h184_ H184.old X189 F190 F191 A192) (wd55 V) (wd56 V) (nf_sel (wd58 V)) (wd58 V) (wd57 V) (wd8 V) (wd59 V) (by decide) X189 (argsL := [(.int 6)]) (rest := [(.int (x2 &&& 255))]) (W := 1) rfl rfl (lenOf (pd_8) rfl) rfl rfl at_137 (pc' := 140) rfl (by decide) (by decide) (by decide) (by decide) all0 ?_
    intro T195 h195_ v196 s197 H195 Q198
    obtain ⟨rfl, rfl, rfl⟩ := Q198
    show Go p e below _ (T195.setTop (mkF m 140 #[.val (.int x70000), .val (.int x70001), .val (.int x70002), .val (.int x70003), .val (.int 9), .val (.int 6), .val (.int (x2 &&& 255)), .val (.int x70007), .val (.ref p0), .val (.ref a177), .unset] [(.int 84), (.int (x2 &&& 255))]))
    by_cases c199 : (x2 &&& 255) = 84
    ·
      refine G.icmpNo H195 at_140 (pc' := 143) rfl (XT.ii_ne_f c199) ?_
      refine G.iconst H195 at_143 (pc' := 144) rfl (v := 1) rfl ?_
      refine G.goto H195 at_144 (by decide) (pc' := 148) rfl ?_
      refine G.istore H195 (L' := #[.val (.int x70000), .val (.int x70001), .val (.int x70002), .val (.int x70003), .val (.int 9), .val (.int 6), .val (.int (x2 &&& 255)), .val (.int x70007), .val (.ref p0), .val (.ref a177), .val (.int 1)]) at_148 (pc' := 150) rfl rfl ?_
      refine G.aload H195 at_150 (pc' := 152) rfl rfl rfl ?_
      have F200 := (Str.ext E186 F183)
      refine G.callS H195 (m28_apply V a177 a178 k179 e0 e1 e2 e3 e4 e5 e6 e7 e8 h184_ H195.old F200 qe0 qe1 qe2 qe3 qe4 qe5 (Eq.trans qe6 c199) qe7 qe8) (wd27 V) (wd28 V) (wd29 V) (wd30 V) (by decide) (argsL := [(.ref a177)]) (rest := []) (W := 0) rfl rfl (lenOf (pd_3) rfl) rfl rfl at_152 (pc' := 155) rfl (by decide) (by decide) (by decide) (by decide) (allS (mG (i := 0) rfl) (allS (mG (i := 1) rfl) all0)) ?_
      intro T201 h201_ v202 s203 H201 Q204
      obtain ⟨c205, rfl, rfl, K206⟩ := Q204
      show Go p e below _ (T201.setTop (mkF m 155 #[.val (.int x70000), .val (.int x70001), .val (.int x70002), .val (.int x70003), .val (.int 9), .val (.int 6), .val (.int (x2 &&& 255)), .val (.int x70007), .val (.ref p0), .val (.ref a177), .val (.int 1)] [(.int 0)]))
      refine G.iload H201 at_155 (pc' := 157) rfl rfl ?_
      refine G.ifYes H201 at_157 (by decide) (by decide) (pc' := 164) rfl ?_
      refine G.iconst H201 at_164 (pc' := 165) rfl (v := 0) rfl ?_
      refine G.icmpNo H201 at_165 (pc' := 168) rfl (by decide) ?_
      refine G.iconst H201 at_168 (pc' := 169) rfl (v := 1) rfl ?_
      refine G.goto H201 at_169 (by decide) (pc' := 173) rfl ?_
      exact G.retN H201 (t := .boolean) rfl (by decide) at_173 (so := []) all0 (by decide) (by decide) rfl
    ·
      refine G.icmpYes H195 at_140 (XT.ii_ne_t c199) (by decide) (pc' := 147) rfl ?_
      refine G.iconst H195 at_147 (pc' := 148) rfl (v := 0) rfl ?_
      refine G.istore H195 (L' := #[.val (.int x70000), .val (.int x70001), .val (.int x70002), .val (.int x70003), .val (.int 9), .val (.int 6), .val (.int (x2 &&& 255)), .val (.int x70007), .val (.ref p0), .val (.ref a177), .val (.int 0)]) at_148 (pc' := 150) rfl rfl ?_
      refine G.aload H195 at_150 (pc' := 152) rfl rfl rfl ?_
      have F207 := (Str.ext E186 F183)
      refine G.callS H195 (m73_apply V a177 a178 k179 e0 e1 e2 e3 e4 e5 e6 e7 e8 h184_ H195.old F207 qe0 qe1 qe2 qe3 qe4 qe5 (fun qq => c199 (Eq.trans (Eq.symm qe6) qq)) qe7 qe8) (wd27 V) (wd28 V) (wd29 V) (wd30 V) (by decide) (argsL := [(.ref a177)]) (rest := []) (W := 0) rfl rfl (lenOf (pd_3) rfl) rfl rfl at_152 (pc' := 155) rfl (by decide) (by decide) (by decide) (by decide) (allS (mG (i := 0) rfl) (allS (mG (i := 1) rfl) all0)) ?_
      intro T208 h208_ v209 s210 H208 Q211
      obtain ⟨c212, rfl, rfl, K213⟩ := Q211
      show Go p e below _ (T208.setTop (mkF m 155 #[.val (.int x70000), .val (.int x70001), .val (.int x70002), .val (.int x70003), .val (.int 9), .val (.int 6), .val (.int (x2 &&& 255)), .val (.int x70007), .val (.ref p0), .val (.ref a177), .val (.int 0)] [(.int 1)]))
      refine G.iload H208 at_155 (pc' := 157) rfl rfl ?_
      refine G.ifNo H208 at_157 (pc' := 160) rfl (by decide) ?_
      refine G.iconst H208 at_160 (pc' := 161) rfl (v := 1) rfl ?_
      refine G.goto H208 at_161 (by decide) (pc' := 165) rfl ?_
      refine G.icmpNo H208 at_165 (pc' := 168) rfl (by decide) ?_
      refine G.iconst H208 at_168 (pc' := 169) rfl (v := 1) rfl ?_
      refine G.goto H208 at_169 (by decide) (pc' := 173) rfl ?_
      exact G.retN H208 (t := .boolean) rfl (by decide) at_173 (so := []) all0 (by decide) (by decide) rfl
  ·
    refine G.aload H at_101 (pc' := 103) rfl rfl rfl ?_
    refine G.iload H at_103 (pc' := 105) rfl rfl ?_
    refine G.callS H (m30_cut V p0 c0 e0 e1 e2 e3 e4 e5 e6 e7 e8 e9 h0 H.old fA8 (own_u16 re0) (own_u16 re1) (own_u16 re2) (own_u16 re3) (own_u16 re4) (own_u16 re5) (own_u16 re6) (own_u16 re7) (own_u16 re8) (own_u16 re9) re9 re8 re7 re6 re5 re4 re3 re2 re1 re0) (wd2 V) (wd3 V) (wd4 V) (wd5 V) (by decide) (argsL := [(.ref p0), (.int 10)]) (rest := []) (W := 0) rfl rfl (lenOf (pd_2) rfl) rfl rfl at_105 (pc' := 108) rfl (by decide) (by decide) (by decide) (by decide) all0 ?_
    intro T214 h214_ v215 s216 H214 Q217
    obtain ⟨a218, a219, k220, rfl, rfl, K221, g222, g223, F224⟩ := Q217
    have na218 : n0 ≤ a218 := Nat.le_trans H.le g222
    have na219 : n0 ≤ a219 := Nat.le_trans H.le (Nat.le_of_lt (Nat.lt_of_le_of_lt g222 g223))
    show Go p e below _ (T214.setTop (mkF m 108 #[.val (.int x70000), .val (.int x70001), .val (.int x70002), .val (.int x70003), .val (.int 10), .val (.int 6), .val (.int (x2 &&& 255)), .val (.int x70007), .val (.ref p0), .unset, .unset] [(.ref a218)]))
    refine G.astore H214 (L' := #[.val (.int x70000), .val (.int x70001), .val (.int x70002), .val (.int x70003), .val (.int 10), .val (.int 6), .val (.int (x2 &&& 255)), .val (.int x70007), .val (.ref p0), .val (.ref a218), .unset]) at_108 (pc' := 110) rfl rfl rfl ?_
    refine G.iload H214 at_110 (pc' := 112) rfl rfl ?_
    refine G.bipush H214 at_112 (pc' := 114) rfl (v := 7) rfl ?_
    refine G.icmpNo H214 at_114 (pc' := 117) rfl (by decide) ?_
    refine G.iload H214 at_117 (pc' := 119) rfl rfl ?_
    refine G.bipush H214 at_119 (pc' := 121) rfl (v := 9) rfl ?_
    refine G.icmpYes H214 at_121 (by decide) (by decide) (pc' := 147) rfl ?_
    refine G.iconst H214 at_147 (pc' := 148) rfl (v := 0) rfl ?_
    refine G.istore H214 (L' := #[.val (.int x70000), .val (.int x70001), .val (.int x70002), .val (.int x70003), .val (.int 10), .val (.int 6), .val (.int (x2 &&& 255)), .val (.int x70007), .val (.ref p0), .val (.ref a218), .val (.int 0)]) at_148 (pc' := 150) rfl rfl ?_
    refine G.aload H214 at_150 (pc' := 152) rfl rfl rfl ?_
    refine G.callS H214 (m31_apply V a218 a219 k220 e0 e1 e2 e3 e4 e5 e6 e7 e8 e9 h214_ H214.old F224) (wd27 V) (wd28 V) (wd29 V) (wd30 V) (by decide) (argsL := [(.ref a218)]) (rest := []) (W := 0) rfl rfl (lenOf (pd_3) rfl) rfl rfl at_152 (pc' := 155) rfl (by decide) (by decide) (by decide) (by decide) (allS (mG (i := 0) rfl) (allS (mG (i := 1) rfl) all0)) ?_
    intro T225 h225_ v226 s227 H225 Q228
    obtain ⟨rfl, rfl, K229⟩ := Q228
    show Go p e below _ (T225.setTop (mkF m 155 #[.val (.int x70000), .val (.int x70001), .val (.int x70002), .val (.int x70003), .val (.int 10), .val (.int 6), .val (.int (x2 &&& 255)), .val (.int x70007), .val (.ref p0), .val (.ref a218), .val (.int 0)] [(.int 1)]))
    refine G.iload H225 at_155 (pc' := 157) rfl rfl ?_
    refine G.ifNo H225 at_157 (pc' := 160) rfl (by decide) ?_
    refine G.iconst H225 at_160 (pc' := 161) rfl (v := 1) rfl ?_
    refine G.goto H225 at_161 (by decide) (pc' := 165) rfl ?_
    refine G.icmpNo H225 at_165 (pc' := 168) rfl (by decide) ?_
    refine G.iconst H225 at_168 (pc' := 169) rfl (v := 1) rfl ?_
    refine G.goto H225 at_169 (by decide) (pc' := 173) rfl ?_
    exact G.retN H225 (t := .boolean) rfl (by decide) at_173 (so := []) all0 (by decide) (by decide) rfl
set_option maxRecDepth 65536 in
set_option maxHeartbeats 40000000 in
theorem m75_checkIndex (V : Env1 Z a0 n0 uu0 uu1)  (h0 : Heap) (hO : Old Z n0 h0)  :
    Met Z a0 ELs True n0 l (⟨"jdk/internal/util/Preconditions", "checkIndex", "(IILjava/util/function/BiFunction;)I"⟩ : MethodName) jdk_41_method_11_code 3 (Option.some FieldType.int) ({ frames := 0, cells := 0, slots := 0, locals := 0 } : Room) #[(.int 7), (.int 9), uu1] h0 [] (fun v h so => (v = some (.int 7) ∧ so = [] ∧ h0 = h)) := by
  refine Met.of (EWl V) (by first | decide +kernel | rfl) hO (L0 := #[.val (.int 7), .val (.int 9), .val uu1]) (by rcases XT.refc (hv3 V) with rfl | ⟨_, rfl⟩ <;> rfl) ?_
  intro p e s m below meth c T H
  show Go p e below _ (T.setTop (mkF m 0 #[.val (.int 7), .val (.int 9), .val uu1] []))
  refine G.iloadN H D0_0 (pc' := 1) rfl rfl ?_
  refine G.ifNo H D0_1 (pc' := 4) rfl (by decide) ?_
  refine G.iloadN H D0_4 (pc' := 5) rfl rfl ?_
  refine G.iloadN H D0_5 (pc' := 6) rfl rfl ?_
  refine G.icmpYes H D0_6 (by decide) (by decide) (pc' := 16) rfl ?_
  refine G.iloadN H D0_16 (pc' := 17) rfl rfl ?_
  exact G.retI H rfl D0_17 (so := []) all0 (by decide) (by decide) ⟨rfl, rfl, rfl⟩
set_option maxRecDepth 65536 in
set_option maxHeartbeats 40000000 in
theorem m76_checkIndex (V : Env1 Z a0 n0 uu0 uu1)  (h0 : Heap) (hO : Old Z n0 h0)  :
    Met Z a0 ELs True n0 l (⟨"java/lang/String", "checkIndex", "(II)V"⟩ : MethodName) jdk_42_method_155_code 2 (Option.none : Option FieldType) ({ frames := 1, cells := 0, slots := 0, locals := 14 } : Room) #[(.int 7), (.int 9)] h0 [] (fun v h so => (v = none ∧ so = [] ∧ h0 = h)) := by
  refine Met.of (EWl V) (by first | decide +kernel | rfl) hO (L0 := #[.val (.int 7), .val (.int 9)]) rfl ?_
  intro p e s m below meth c T H
  show Go p e below _ (T.setTop (mkF m 0 #[.val (.int 7), .val (.int 9)] []))
  refine G.iloadN H D3_0 (pc' := 1) rfl rfl ?_
  refine G.iloadN H D3_1 (pc' := 2) rfl rfl ?_
  refine G.getS H (wd71 V) Via.refl (Sta.ext H.old.2 (hv2 V)) D3_2 (pc' := 5) rfl ?_
  intro T1 H2
  refine G.callS H2 (m75_checkIndex V h0 H2.old) (wd73 V) (wd74 V) (wd72 V) (wd75 V) (by decide) (argsL := [(.int 7), (.int 9), uu1]) (rest := []) (W := 0) rfl rfl (lenOf (pd_5) rfl) rfl rfl D3_5 (pc' := 8) rfl (by decide) (by decide) (by decide) (by decide) all0 ?_
  intro T3 h3_ v4 s5 H3 Q6
  obtain ⟨rfl, rfl, rfl⟩ := Q6
  show Go p e below _ (T3.setTop (mkF m 8 #[.val (.int 7), .val (.int 9)] [(.int 7)]))
  refine G.pop H3 D3_8 (pc' := 9) rfl rfl ?_
  exact G.retV H3 rfl D3_9 (so := []) all0 (by decide) (by decide) ⟨rfl, rfl, rfl⟩
set_option maxRecDepth 65536 in
set_option maxHeartbeats 40000000 in
theorem m77_charAt (V : Env1 Z a0 n0 uu0 uu1) (p0 : Addr) (c0 : ClassId) (h0 : Heap) (hO : Old Z n0 h0) (f0 : Arv Z h0 p0 c0 .byte 9 [(.int 67), (.int 79), (.int 78), (.int 78), (.int 69), (.int 67), (.int 84), (.int 69), (.int 68)] (.int 0)) :
    Met Z a0 ELs True n0 l (⟨"java/lang/StringLatin1", "charAt", "([BI)C"⟩ : MethodName) jdk_43_method_2_code 2 (Option.some FieldType.char) ({ frames := 2, cells := 0, slots := 0, locals := 27 } : Room) #[(.ref p0), (.int 7)] h0 [] (fun v h so => (v = some (.int 69) ∧ so = [] ∧ h0 = h)) := by
  refine Met.of (EWl V) (by first | decide +kernel | rfl) hO (L0 := #[.val (.ref p0), .val (.int 7)]) rfl ?_
  intro p e s m below meth c T H
  show Go p e below _ (T.setTop (mkF m 0 #[.val (.ref p0), .val (.int 7)] []))
  refine G.iloadN H D6_0 (pc' := 1) rfl rfl ?_
  refine G.aloadN H D6_1 (pc' := 2) rfl rfl rfl ?_
  refine G.arrlen H f0 D6_2 (pc' := 3) rfl ?_
  refine G.callS H (m76_checkIndex V h0 H.old) (wd68 V) (wd69 V) (wd8 V) (wd70 V) (by decide) (argsL := [(.int 7), (.int 9)]) (rest := []) (W := 0) rfl rfl (lenOf (pd_6) rfl) rfl rfl D6_3 (pc' := 6) rfl (by decide) (by decide) (by decide) (by decide) all0 ?_
  intro T1 h1_ v2 s3 H1 Q4
  obtain ⟨rfl, rfl, rfl⟩ := Q4
  show Go p e below _ (T1.setTop (mkF m 6 #[.val (.ref p0), .val (.int 7)] []))
  refine G.aloadN H1 D6_6 (pc' := 7) rfl rfl rfl ?_
  refine G.iloadN H1 D6_7 (pc' := 8) rfl rfl ?_
  refine G.baloadG H1 f0 (j := 7) (v := (.int 69)) (by decide) rfl D6_8 (pc' := 9) rfl ?_
  refine G.sipush H1 D6_9 (pc' := 12) rfl (v := 255) rfl ?_
  refine G.iand H1 D6_12 (pc' := 13) rfl ?_
  show Go p e below _ (T1.setTop (mkF m 13 #[.val (.ref p0), .val (.int 7)] [(.int 69)]))
  refine G.i2c H1 (y := 69) D6_13 (pc' := 14) rfl rfl ?_
  exact G.retN H1 (t := .char) rfl (by decide) D6_14 (so := []) all0 (by decide) (by decide) ⟨rfl, rfl, rfl⟩
set_option maxRecDepth 65536 in
set_option maxHeartbeats 40000000 in
theorem m78_charAt (V : Env1 Z a0 n0 uu0 uu1) (p0 : Addr) (p1 : Addr) (c0 : ClassId) (h0 : Heap) (hO : Old Z n0 h0) (f0 : Exa Z h0 p0 "java/lang/String") (f1 : Fld Z h0 p0 "java/lang/String" "coder" "B" (.int 0)) (f2 : Fld Z h0 p0 "java/lang/String" "value" "[B" (.ref p1)) (f3 : Arv Z h0 p1 c0 .byte 9 [(.int 67), (.int 79), (.int 78), (.int 78), (.int 69), (.int 67), (.int 84), (.int 69), (.int 68)] (.int 0)) :
    Met Z a0 ELs True n0 l (⟨"java/lang/String", "charAt", "(I)C"⟩ : MethodName) jdk_42_method_56_code 2 (Option.some FieldType.char) ({ frames := 3, cells := 0, slots := 0, locals := 40 } : Room) #[(.ref p0), (.int 7)] h0 [] (fun v h so => (v = some (.int 69) ∧ so = [] ∧ h0 = h)) := by
  refine Met.of (EWl V) (by first | decide +kernel | rfl) hO (L0 := #[.val (.ref p0), .val (.int 7)]) rfl ?_
  intro p e s m below meth c T H
  show Go p e below _ (T.setTop (mkF m 0 #[.val (.ref p0), .val (.int 7)] []))
  refine G.aloadN H D5_0 (pc' := 1) rfl rfl rfl ?_
  refine G.callV H (m18_isLatin1 V p0 h0 H.old f1) (wd60 V) (wd61 V) (nf_sel (wd63 V)) (wd63 V) (wd62 V) (wd8 V) (wd64 V) (by decide) f0 (argsL := []) (rest := []) (W := 0) rfl rfl (lenOf (pd_4) rfl) rfl rfl D5_1 (pc' := 4) rfl (by decide) (by decide) (by decide) (by decide) all0 ?_
  intro T1 h1_ v2 s3 H1 Q4
  obtain ⟨rfl, rfl, rfl⟩ := Q4
  show Go p e below _ (T1.setTop (mkF m 4 #[.val (.ref p0), .val (.int 7)] [(.int 1)]))
  refine G.ifNo H1 D5_4 (pc' := 7) rfl (by decide) ?_
  refine G.aloadN H1 D5_7 (pc' := 8) rfl rfl rfl ?_
  refine G.getF H1 (wd25 V) Via.refl f2 D5_8 (pc' := 11) rfl ?_
  intro T5 H6
  refine G.iloadN H6 D5_11 (pc' := 12) rfl rfl ?_
  refine G.callS H6 (m77_charAt V p1 c0 h0 H6.old f3) (wd65 V) (wd66 V) (wd41 V) (wd67 V) (by decide) (argsL := [(.ref p1), (.int 7)]) (rest := []) (W := 0) rfl rfl (lenOf (pd_7) rfl) rfl rfl D5_12 (pc' := 15) rfl (by decide) (by decide) (by decide) (by decide) all0 ?_
  intro T7 h7_ v8 s9 H7 Q10
  obtain ⟨rfl, rfl, rfl⟩ := Q10
  show Go p e below _ (T7.setTop (mkF m 15 #[.val (.ref p0), .val (.int 7)] [(.int 69)]))
  exact G.retN H7 (t := .char) rfl (by decide) D5_15 (so := []) all0 (by decide) (by decide) ⟨rfl, rfl, rfl⟩
set_option maxRecDepth 65536 in
set_option maxHeartbeats 40000000 in
theorem m79_apply (V : Env1 Z a0 n0 uu0 uu1) (p0 : Addr) (p1 : Addr) (c0 : ClassId) (x0 : Int32) (x1 : Int32) (x2 : Int32) (x3 : Int32) (x4 : Int32) (x5 : Int32) (x6 : Int32) (x7 : Int32) (x8 : Int32) (h0 : Heap) (hO : Old Z n0 h0) (f0 : Str Z h0 p0 p1 c0 [x0, x1, x2, x3, x4, x5, x6, x7, x8]) (cc1 : x0 = 67) (cc2 : x1 = 79) (cc3 : x2 = 78) (cc4 : x3 = 78) (cc5 : x4 = 69) (cc6 : x5 = 67) (cc7 : x6 = 84) (cc8 : ¬ x7 = 69) (cc9 : x8 = 68) :
    Met Z a0 ELs True n0 l (⟨"bindery/server/stomp/HeaderEscapes", "apply", "(Ljava/lang/String;)Z"⟩ : MethodName) prog_84_method_2_code 1 (Option.some FieldType.boolean) ({ frames := 2, cells := 4, slots := 72, locals := 28 } : Room) #[(.ref p0)] h0 [p0, p1] (fun v h so => (¬ [x0, x1, x2, x3, x4, x5, x6, x7, x8] = [67, 79, 78, 78, 69, 67, 84, 69, 68] ∧ v = some (.int 1) ∧ so = [] ∧ Keep h0 h [])) := by
  refine Met.of (EWl V) (by first | decide +kernel | rfl) hO (L0 := #[.val (.ref p0)]) rfl ?_
  intro p e s m below meth c T H
  show Go p e below _ (T.setTop (mkF m 0 #[.val (.ref p0)] []))
  refine G.aloadN H D8_0 (pc' := 1) rfl rfl rfl ?_
  refine G.ldcS H trivial (wS V) (wd31 V) (by decide) (vs := [(.int 67), (.int 79), (.int 78), (.int 78), (.int 69), (.int 67), (.int 84)]) (z := 7) (by decide) (by decide) rfl (n := 28) (by decide) (by decide) (by decide) (by decide) D8_1 (pc' := 3) rfl ?_
  intro T1 h1_ a2 b4 k5 H1 E3 X6 F7 F8 A9 Q10
  have S11 : Str Z h1_ a2 b4 k5 [67, 79, 78, 78, 69, 67, 84] := ⟨X6, F7, F8, A9, by decide, by decide⟩
  have F12 := (Str.ext E3 f0)
  refine G.strEq H1 (strwEq V) (wd7 V) (wd32 V) (wd33 V) (wd35 V) (wd34 V) F12 S11 (hv0 V) (hv1 V) (rest := []) (W := 0) rfl rfl D8_3 (pc' := 6) rfl (by decide) (by decide) (by decide) (by decide) ?_ ?_
  ·
    intro T13 H14 c15
    exact absurd c15 (by intro qq; simp at qq)
  ·
    intro T16 H17 c18
    refine G.ifNo H17 D8_6 (pc' := 9) rfl (by decide) ?_
    refine G.aloadN H17 D8_9 (pc' := 10) rfl rfl rfl ?_
    refine G.ldcS H17 trivial (wS V) (wd43 V) (by decide) (vs := [(.int 67), (.int 79), (.int 78), (.int 78), (.int 69), (.int 67), (.int 84), (.int 69), (.int 68)]) (z := 9) (by decide) (by decide) rfl (n := 36) (by decide) (by decide) (by decide) (by decide) D8_10 (pc' := 12) rfl ?_
    intro T19 h19_ a20 b22 k23 H19 E21 X24 F25 F26 A27 Q28
    have S29 : Str Z h19_ a20 b22 k23 [67, 79, 78, 78, 69, 67, 84, 69, 68] := ⟨X24, F25, F26, A27, by decide, by decide⟩
    have F30 := (Str.ext E21 F12)
    refine G.strEq H19 (strwEq V) (wd7 V) (wd32 V) (wd33 V) (wd35 V) (wd34 V) F30 S29 (hv0 V) (hv1 V) (rest := []) (W := 0) rfl rfl D8_12 (pc' := 15) rfl (by decide) (by decide) (by decide) (by decide) ?_ ?_
    ·
      intro T31 H32 c33
      exact absurd (List.cons.inj (List.cons.inj (List.cons.inj (List.cons.inj (List.cons.inj (List.cons.inj (List.cons.inj (List.cons.inj c33).2).2).2).2).2).2).2).1 cc8
    ·
      intro T34 H35 c36
      refine G.ifNo H35 D8_15 (pc' := 18) rfl (by decide) ?_
      refine G.iconst H35 D8_18 (pc' := 19) rfl (v := 1) rfl ?_
      refine G.goto H35 D8_19 (by decide) (pc' := 23) rfl ?_
      have K37 : Keep h0 h19_ [] := (Keep.ext (Keep.ext (Keep.refl h0 []) E3) E21)
      exact G.retN H35 (t := .boolean) rfl (by decide) D8_23 (so := []) all0 (by decide) (by decide) ⟨c36, rfl, rfl, K37⟩
set_option maxRecDepth 65536 in
set_option maxHeartbeats 40000000 in
theorem cut80_101 (V : Env1 Z a0 n0 uu0 uu1) (x90101 : Int32) (x70000 : Int32) (x70001 : Int32) (x70002 : Int32) (x70003 : Int32) (x2 : Int32) (x70007 : Int32) (p0 : Addr) (c0 : ClassId) (e0 : Int32) (e1 : Int32) (e2 : Int32) (e3 : Int32) (e4 : Int32) (e5 : Int32) (e6 : Int32) (e7 : Int32) (e8 : Int32) (e9 : Int32) (x3 : Int32) (H : Hs p l e room_1 s m as' below meth c Z a0 ELs True x.cls n0 code maxLocals ret x.name T h0 1 10 []) (re0 : ¬ e0 < 0 ∧ ¬ 255 < e0) (qe0 : e0 = 67) (re1 : ¬ e1 < 0 ∧ ¬ 255 < e1) (qe1 : e1 = 79) (re2 : ¬ e2 < 0 ∧ ¬ 255 < e2) (qe2 : e2 = 78) (re3 : ¬ e3 < 0 ∧ ¬ 255 < e3) (qe3 : e3 = 78) (re4 : ¬ e4 < 0 ∧ ¬ 255 < e4) (qe4 : e4 = 69) (re5 : ¬ e5 < 0 ∧ ¬ 255 < e5) (qe5 : e5 = 67) (re6 : ¬ e6 < 0 ∧ ¬ 255 < e6) (qe6 : e6 = 84) (re7 : ¬ e7 < 0 ∧ ¬ 255 < e7) (qe7 : e7 = (x2 &&& 255)) (re8 : ¬ e8 < 0 ∧ ¬ 255 < e8) (qe8 : e8 = 68) (re9 : ¬ e9 < 0 ∧ ¬ 255 < e9) (qe9 : e9 = (x3 &&& 255)) (fA8 : Arv Z h0 p0 c0 .char 10 [(.int e0), (.int e1), (.int e2), (.int e3), (.int e4), (.int e5), (.int e6), (.int e7), (.int e8), (.int e9)] (.int 0)) (sp : x90101 = 0 ∨ x90101 = 1 ∨ x90101 = 2 ∨ x90101 = 3 ∨ x90101 = 4 ∨ x90101 = 5 ∨ x90101 = 6 ∨ x90101 = 7 ∨ x90101 = 8 ∨ x90101 = 9 ∨ x90101 = 10) :
    Go p e below (FinP s below Z ELs True n0 room_1.cells room_1.slots (fun v h so => v = some (.int 1))) (T.setTop (mkF m 101 #[.val (.int x70000), .val (.int x70001), .val (.int x70002), .val (.int x70003), .val (.int x90101), .val (.int 7), .val (.int (x2 &&& 255)), .val (.int x70007), .val (.ref p0), .unset, .unset] [])) := by
  rcases sp with rfl | rfl | rfl | rfl | rfl | rfl | rfl | rfl | rfl | rfl | rfl
  ·
    refine G.aload H at_101 (pc' := 103) rfl rfl rfl ?_
    refine G.iload H at_103 (pc' := 105) rfl rfl ?_
    refine G.callS H (m3_cut V p0 h0 H.old) (wd2 V) (wd3 V) (wd4 V) (wd5 V) (by decide) (argsL := [(.ref p0), (.int 0)]) (rest := []) (W := 0) rfl rfl (lenOf (pd_2) rfl) rfl rfl at_105 (pc' := 108) rfl (by decide) (by decide) (by decide) (by decide) all0 ?_
    intro T1 h1_ v2 s3 H1 Q4
    obtain ⟨a5, a6, k7, rfl, rfl, K8, g9, F10, F11, F12, F13⟩ := Q4
    have na5 : n0 ≤ a5 := Nat.le_trans H.le g9
    show Go p e below _ (T1.setTop (mkF m 108 #[.val (.int x70000), .val (.int x70001), .val (.int x70002), .val (.int x70003), .val (.int 0), .val (.int 7), .val (.int (x2 &&& 255)), .val (.int x70007), .val (.ref p0), .unset, .unset] [(.ref a5)]))
    refine G.astore H1 (L' := #[.val (.int x70000), .val (.int x70001), .val (.int x70002), .val (.int x70003), .val (.int 0), .val (.int 7), .val (.int (x2 &&& 255)), .val (.int x70007), .val (.ref p0), .val (.ref a5), .unset]) at_108 (pc' := 110) rfl rfl rfl ?_
    refine G.iload H1 at_110 (pc' := 112) rfl rfl ?_
    refine G.bipush H1 at_112 (pc' := 114) rfl (v := 7) rfl ?_
    refine G.icmpNo H1 at_114 (pc' := 117) rfl (by decide) ?_
    refine G.iload H1 at_117 (pc' := 119) rfl rfl ?_
    refine G.bipush H1 at_119 (pc' := 121) rfl (v := 9) rfl ?_
    refine G.icmpYes H1 at_121 (by decide) (by decide) (pc' := 147) rfl ?_
    refine G.iconst H1 at_147 (pc' := 148) rfl (v := 0) rfl ?_
    refine G.istore H1 (L' := #[.val (.int x70000), .val (.int x70001), .val (.int x70002), .val (.int x70003), .val (.int 0), .val (.int 7), .val (.int (x2 &&& 255)), .val (.int x70007), .val (.ref p0), .val (.ref a5), .val (.int 0)]) at_148 (pc' := 150) rfl rfl ?_
    refine G.aload H1 at_150 (pc' := 152) rfl rfl rfl ?_
    have S14 : Str Z h1_ a5 a6 k7 [] := ⟨F10, F12, F11, F13, cb0, Nat.le_of_ble_eq_true rfl⟩
    refine G.callS H1 (m4_apply V a5 a6 k7 h1_ H1.old S14) (wd27 V) (wd28 V) (wd29 V) (wd30 V) (by decide) (argsL := [(.ref a5)]) (rest := []) (W := 0) rfl rfl (lenOf (pd_3) rfl) rfl rfl at_152 (pc' := 155) rfl (by decide) (by decide) (by decide) (by decide) (allS (mG (i := 0) rfl) all0) ?_
    intro T15 h15_ v16 s17 H15 Q18
    obtain ⟨rfl, rfl, K19⟩ := Q18
    show Go p e below _ (T15.setTop (mkF m 155 #[.val (.int x70000), .val (.int x70001), .val (.int x70002), .val (.int x70003), .val (.int 0), .val (.int 7), .val (.int (x2 &&& 255)), .val (.int x70007), .val (.ref p0), .val (.ref a5), .val (.int 0)] [(.int 1)]))
    refine G.iload H15 at_155 (pc' := 157) rfl rfl ?_
    refine G.ifNo H15 at_157 (pc' := 160) rfl (by decide) ?_
    refine G.iconst H15 at_160 (pc' := 161) rfl (v := 1) rfl ?_
    refine G.goto H15 at_161 (by decide) (pc' := 165) rfl ?_
    refine G.icmpNo H15 at_165 (pc' := 168) rfl (by decide) ?_
    refine G.iconst H15 at_168 (pc' := 169) rfl (v := 1) rfl ?_
    refine G.goto H15 at_169 (by decide) (pc' := 173) rfl ?_
    exact G.retN H15 (t := .boolean) rfl (by decide) at_173 (so := []) all0 (by decide) (by decide) rfl
  ·
    refine G.aload H at_101 (pc' := 103) rfl rfl rfl ?_
    refine G.iload H at_103 (pc' := 105) rfl rfl ?_
    refine G.callS H (m5_cut V p0 c0 e0 e1 e2 e3 e4 e5 e6 e7 e8 e9 h0 H.old fA8 (own_u16 re0) re0) (wd2 V) (wd3 V) (wd4 V) (wd5 V) (by decide) (argsL := [(.ref p0), (.int 1)]) (rest := []) (W := 0) rfl rfl (lenOf (pd_2) rfl) rfl rfl at_105 (pc' := 108) rfl (by decide) (by decide) (by decide) (by decide) all0 ?_
    intro T20 h20_ v21 s22 H20 Q23
    obtain ⟨a24, a25, k26, rfl, rfl, K27, g28, g29, F30⟩ := Q23
    have na24 : n0 ≤ a24 := Nat.le_trans H.le g28
    have na25 : n0 ≤ a25 := Nat.le_trans H.le (Nat.le_of_lt (Nat.lt_of_le_of_lt g28 g29))
    show Go p e below _ (T20.setTop (mkF m 108 #[.val (.int x70000), .val (.int x70001), .val (.int x70002), .val (.int x70003), .val (.int 1), .val (.int 7), .val (.int (x2 &&& 255)), .val (.int x70007), .val (.ref p0), .unset, .unset] [(.ref a24)]))
    refine G.astore H20 (L' := #[.val (.int x70000), .val (.int x70001), .val (.int x70002), .val (.int x70003), .val (.int 1), .val (.int 7), .val (.int (x2 &&& 255)), .val (.int x70007), .val (.ref p0), .val (.ref a24), .unset]) at_108 (pc' := 110) rfl rfl rfl ?_
    refine G.iload H20 at_110 (pc' := 112) rfl rfl ?_
    refine G.bipush H20 at_112 (pc' := 114) rfl (v := 7) rfl ?_
    refine G.icmpNo H20 at_114 (pc' := 117) rfl (by decide) ?_
    refine G.iload H20 at_117 (pc' := 119) rfl rfl ?_
    refine G.bipush H20 at_119 (pc' := 121) rfl (v := 9) rfl ?_
    refine G.icmpYes H20 at_121 (by decide) (by decide) (pc' := 147) rfl ?_
    refine G.iconst H20 at_147 (pc' := 148) rfl (v := 0) rfl ?_
    refine G.istore H20 (L' := #[.val (.int x70000), .val (.int x70001), .val (.int x70002), .val (.int x70003), .val (.int 1), .val (.int 7), .val (.int (x2 &&& 255)), .val (.int x70007), .val (.ref p0), .val (.ref a24), .val (.int 0)]) at_148 (pc' := 150) rfl rfl ?_
    refine G.aload H20 at_150 (pc' := 152) rfl rfl rfl ?_
    refine G.callS H20 (m6_apply V a24 a25 k26 e0 h20_ H20.old F30) (wd27 V) (wd28 V) (wd29 V) (wd30 V) (by decide) (argsL := [(.ref a24)]) (rest := []) (W := 0) rfl rfl (lenOf (pd_3) rfl) rfl rfl at_152 (pc' := 155) rfl (by decide) (by decide) (by decide) (by decide) (allS (mG (i := 0) rfl) (allS (mG (i := 1) rfl) all0)) ?_
    intro T31 h31_ v32 s33 H31 Q34
    obtain ⟨rfl, rfl, K35⟩ := Q34
    show Go p e below _ (T31.setTop (mkF m 155 #[.val (.int x70000), .val (.int x70001), .val (.int x70002), .val (.int x70003), .val (.int 1), .val (.int 7), .val (.int (x2 &&& 255)), .val (.int x70007), .val (.ref p0), .val (.ref a24), .val (.int 0)] [(.int 1)]))
    refine G.iload H31 at_155 (pc' := 157) rfl rfl ?_
    refine G.ifNo H31 at_157 (pc' := 160) rfl (by decide) ?_
    refine G.iconst H31 at_160 (pc' := 161) rfl (v := 1) rfl ?_
    refine G.goto H31 at_161 (by decide) (pc' := 165) rfl ?_
    refine G.icmpNo H31 at_165 (pc' := 168) rfl (by decide) ?_
    refine G.iconst H31 at_168 (pc' := 169) rfl (v := 1) rfl ?_
    refine G.goto H31 at_169 (by decide) (pc' := 173) rfl ?_
    exact G.retN H31 (t := .boolean) rfl (by decide) at_173 (so := []) all0 (by decide) (by decide) rfl
  ·
    refine G.aload H at_101 (pc' := 103) rfl rfl rfl ?_
    refine G.iload H at_103 (pc' := 105) rfl rfl ?_
    refine G.callS H (m7_cut V p0 c0 e0 e1 e2 e3 e4 e5 e6 e7 e8 e9 h0 H.old fA8 (own_u16 re0) (own_u16 re1) re1 re0) (wd2 V) (wd3 V) (wd4 V) (wd5 V) (by decide) (argsL := [(.ref p0), (.int 2)]) (rest := []) (W := 0) rfl rfl (lenOf (pd_2) rfl) rfl rfl at_105 (pc' := 108) rfl (by decide) (by decide) (by decide) (by decide) all0 ?_
    intro T36 h36_ v37 s38 H36 Q39
    obtain ⟨a40, a41, k42, rfl, rfl, K43, g44, g45, F46⟩ := Q39
    have na40 : n0 ≤ a40 := Nat.le_trans H.le g44
    have na41 : n0 ≤ a41 := Nat.le_trans H.le (Nat.le_of_lt (Nat.lt_of_le_of_lt g44 g45))
    show Go p e below _ (T36.setTop (mkF m 108 #[.val (.int x70000), .val (.int x70001), .val (.int x70002), .val (.int x70003), .val (.int 2), .val (.int 7), .val (.int (x2 &&& 255)), .val (.int x70007), .val (.ref p0), .unset, .unset] [(.ref a40)]))
    refine G.astore H36 (L' := #[.val (.int x70000), .val (.int x70001), .val (.int x70002), .val (.int x70003), .val (.int 2), .val (.int 7), .val (.int (x2 &&& 255)), .val (.int x70007), .val (.ref p0), .val (.ref a40), .unset]) at_108 (pc' := 110) rfl rfl rfl ?_
    refine G.iload H36 at_110 (pc' := 112) rfl rfl ?_
    refine G.bipush H36 at_112 (pc' := 114) rfl (v := 7) rfl ?_
    refine G.icmpNo H36 at_114 (pc' := 117) rfl (by decide) ?_
    refine G.iload H36 at_117 (pc' := 119) rfl rfl ?_
    refine G.bipush H36 at_119 (pc' := 121) rfl (v := 9) rfl ?_
    refine G.icmpYes H36 at_121 (by decide) (by decide) (pc' := 147) rfl ?_
    refine G.iconst H36 at_147 (pc' := 148) rfl (v := 0) rfl ?_
    refine G.istore H36 (L' := #[.val (.int x70000), .val (.int x70001), .val (.int x70002), .val (.int x70003), .val (.int 2), .val (.int 7), .val (.int (x2 &&& 255)), .val (.int x70007), .val (.ref p0), .val (.ref a40), .val (.int 0)]) at_148 (pc' := 150) rfl rfl ?_
    refine G.aload H36 at_150 (pc' := 152) rfl rfl rfl ?_
    refine G.callS H36 (m8_apply V a40 a41 k42 e0 e1 h36_ H36.old F46) (wd27 V) (wd28 V) (wd29 V) (wd30 V) (by decide) (argsL := [(.ref a40)]) (rest := []) (W := 0) rfl rfl (lenOf (pd_3) rfl) rfl rfl at_152 (pc' := 155) rfl (by decide) (by decide) (by decide) (by decide) (allS (mG (i := 0) rfl) (allS (mG (i := 1) rfl) all0)) ?_
    intro T47 h47_ v48 s49 H47 Q50
    obtain ⟨rfl, rfl, K51⟩ := Q50
    show Go p e below _ (T47.setTop (mkF m 155 #[.val (.int x70000), .val (.int x70001), .val (.int x70002), .val (.int x70003), .val (.int 2), .val (.int 7), .val (.int (x2 &&& 255)), .val (.int x70007), .val (.ref p0), .val (.ref a40), .val (.int 0)] [(.int 1)]))
    refine G.iload H47 at_155 (pc' := 157) rfl rfl ?_
    refine G.ifNo H47 at_157 (pc' := 160) rfl (by decide) ?_
    refine G.iconst H47 at_160 (pc' := 161) rfl (v := 1) rfl ?_
    refine G.goto H47 at_161 (by decide) (pc' := 165) rfl ?_
    refine G.icmpNo H47 at_165 (pc' := 168) rfl (by decide) ?_
    refine G.iconst H47 at_168 (pc' := 169) rfl (v := 1) rfl ?_
    refine G.goto H47 at_169 (by decide) (pc' := 173) rfl ?_
    exact G.retN H47 (t := .boolean) rfl (by decide) at_173 (so := []) all0 (by decide) (by decide) rfl
  ·
    refine G.aload H at_101 (pc' := 103) rfl rfl rfl ?_
    refine G.iload H at_103 (pc' := 105) rfl rfl ?_
    refine G.callS H (m9_cut V p0 c0 e0 e1 e2 e3 e4 e5 e6 e7 e8 e9 h0 H.old fA8 (own_u16 re0) (own_u16 re1) (own_u16 re2) re2 re1 re0) (wd2 V) (wd3 V) (wd4 V) (wd5 V) (by decide) (argsL := [(.ref p0), (.int 3)]) (rest := []) (W := 0) rfl rfl (lenOf (pd_2) rfl) rfl rfl at_105 (pc' := 108) rfl (by decide) (by decide) (by decide) (by decide) all0 ?_
    intro T52 h52_ v53 s54 H52 Q55
    obtain ⟨a56, a57, k58, rfl, rfl, K59, g60, g61, F62⟩ := Q55
    have na56 : n0 ≤ a56 := Nat.le_trans H.le g60
    have na57 : n0 ≤ a57 := Nat.le_trans H.le (Nat.le_of_lt (Nat.lt_of_le_of_lt g60 g61))
    show Go p e below _ (T52.setTop (mkF m 108 #[.val (.int x70000), .val (.int x70001), .val (.int x70002), .val (.int x70003), .val (.int 3), .val (.int 7), .val (.int (x2 &&& 255)), .val (.int x70007), .val (.ref p0), .unset, .unset] [(.ref a56)]))
    refine G.astore H52 (L' := #[.val (.int x70000), .val (.int x70001), .val (.int x70002), .val (.int x70003), .val (.int 3), .val (.int 7), .val (.int (x2 &&& 255)), .val (.int x70007), .val (.ref p0), .val (.ref a56), .unset]) at_108 (pc' := 110) rfl rfl rfl ?_
    refine G.iload H52 at_110 (pc' := 112) rfl rfl ?_
    refine G.bipush H52 at_112 (pc' := 114) rfl (v := 7) rfl ?_
    refine G.icmpNo H52 at_114 (pc' := 117) rfl (by decide) ?_
    refine G.iload H52 at_117 (pc' := 119) rfl rfl ?_
    refine G.bipush H52 at_119 (pc' := 121) rfl (v := 9) rfl ?_
    refine G.icmpYes H52 at_121 (by decide) (by decide) (pc' := 147) rfl ?_
    refine G.iconst H52 at_147 (pc' := 148) rfl (v := 0) rfl ?_
    refine G.istore H52 (L' := #[.val (.int x70000), .val (.int x70001), .val (.int x70002), .val (.int x70003), .val (.int 3), .val (.int 7), .val (.int (x2 &&& 255)), .val (.int x70007), .val (.ref p0), .val (.ref a56), .val (.int 0)]) at_148 (pc' := 150) rfl rfl ?_
    refine G.aload H52 at_150 (pc' := 152) rfl rfl rfl ?_
    refine G.callS H52 (m10_apply V a56 a57 k58 e0 e1 e2 h52_ H52.old F62) (wd27 V) (wd28 V) (wd29 V) (wd30 V) (by decide) (argsL := [(.ref a56)]) (rest := []) (W := 0) rfl rfl (lenOf (pd_3) rfl) rfl rfl at_152 (pc' := 155) rfl (by decide) (by decide) (by decide) (by decide) (allS (mG (i := 0) rfl) (allS (mG (i := 1) rfl) all0)) ?_
    intro T63 h63_ v64 s65 H63 Q66
    obtain ⟨rfl, rfl, K67⟩ := Q66
    show Go p e below _ (T63.setTop (mkF m 155 #[.val (.int x70000), .val (.int x70001), .val (.int x70002), .val (.int x70003), .val (.int 3), .val (.int 7), .val (.int (x2 &&& 255)), .val (.int x70007), .val (.ref p0), .val (.ref a56), .val (.int 0)] [(.int 1)]))
    refine G.iload H63 at_155 (pc' := 157) rfl rfl ?_
    refine G.ifNo H63 at_157 (pc' := 160) rfl (by decide) ?_
    refine G.iconst H63 at_160 (pc' := 161) rfl (v := 1) rfl ?_
    refine G.goto H63 at_161 (by decide) (pc' := 165) rfl ?_
    refine G.icmpNo H63 at_165 (pc' := 168) rfl (by decide) ?_
    refine G.iconst H63 at_168 (pc' := 169) rfl (v := 1) rfl ?_
    refine G.goto H63 at_169 (by decide) (pc' := 173) rfl ?_
    exact G.retN H63 (t := .boolean) rfl (by decide) at_173 (so := []) all0 (by decide) (by decide) rfl
  ·
    refine G.aload H at_101 (pc' := 103) rfl rfl rfl ?_
    refine G.iload H at_103 (pc' := 105) rfl rfl ?_
    refine G.callS H (m11_cut V p0 c0 e0 e1 e2 e3 e4 e5 e6 e7 e8 e9 h0 H.old fA8 (own_u16 re0) (own_u16 re1) (own_u16 re2) (own_u16 re3) re3 re2 re1 re0) (wd2 V) (wd3 V) (wd4 V) (wd5 V) (by decide) (argsL := [(.ref p0), (.int 4)]) (rest := []) (W := 0) rfl rfl (lenOf (pd_2) rfl) rfl rfl at_105 (pc' := 108) rfl (by decide) (by decide) (by decide) (by decide) all0 ?_
    intro T68 h68_ v69 s70 H68 Q71
    obtain ⟨a72, a73, k74, rfl, rfl, K75, g76, g77, F78⟩ := Q71
    have na72 : n0 ≤ a72 := Nat.le_trans H.le g76
    have na73 : n0 ≤ a73 := Nat.le_trans H.le (Nat.le_of_lt (Nat.lt_of_le_of_lt g76 g77))
    show Go p e below _ (T68.setTop (mkF m 108 #[.val (.int x70000), .val (.int x70001), .val (.int x70002), .val (.int x70003), .val (.int 4), .val (.int 7), .val (.int (x2 &&& 255)), .val (.int x70007), .val (.ref p0), .unset, .unset] [(.ref a72)]))
    refine G.astore H68 (L' := #[.val (.int x70000), .val (.int x70001), .val (.int x70002), .val (.int x70003), .val (.int 4), .val (.int 7), .val (.int (x2 &&& 255)), .val (.int x70007), .val (.ref p0), .val (.ref a72), .unset]) at_108 (pc' := 110) rfl rfl rfl ?_
    refine G.iload H68 at_110 (pc' := 112) rfl rfl ?_
    refine G.bipush H68 at_112 (pc' := 114) rfl (v := 7) rfl ?_
    refine G.icmpNo H68 at_114 (pc' := 117) rfl (by decide) ?_
    refine G.iload H68 at_117 (pc' := 119) rfl rfl ?_
    refine G.bipush H68 at_119 (pc' := 121) rfl (v := 9) rfl ?_
    refine G.icmpYes H68 at_121 (by decide) (by decide) (pc' := 147) rfl ?_
    refine G.iconst H68 at_147 (pc' := 148) rfl (v := 0) rfl ?_
    refine G.istore H68 (L' := #[.val (.int x70000), .val (.int x70001), .val (.int x70002), .val (.int x70003), .val (.int 4), .val (.int 7), .val (.int (x2 &&& 255)), .val (.int x70007), .val (.ref p0), .val (.ref a72), .val (.int 0)]) at_148 (pc' := 150) rfl rfl ?_
    refine G.aload H68 at_150 (pc' := 152) rfl rfl rfl ?_
    refine G.callS H68 (m12_apply V a72 a73 k74 e0 e1 e2 e3 h68_ H68.old F78) (wd27 V) (wd28 V) (wd29 V) (wd30 V) (by decide) (argsL := [(.ref a72)]) (rest := []) (W := 0) rfl rfl (lenOf (pd_3) rfl) rfl rfl at_152 (pc' := 155) rfl (by decide) (by decide) (by decide) (by decide) (allS (mG (i := 0) rfl) (allS (mG (i := 1) rfl) all0)) ?_
    intro T79 h79_ v80 s81 H79 Q82
    obtain ⟨rfl, rfl, K83⟩ := Q82
    show Go p e below _ (T79.setTop (mkF m 155 #[.val (.int x70000), .val (.int x70001), .val (.int x70002), .val (.int x70003), .val (.int 4), .val (.int 7), .val (.int (x2 &&& 255)), .val (.int x70007), .val (.ref p0), .val (.ref a72), .val (.int 0)] [(.int 1)]))
    refine G.iload H79 at_155 (pc' := 157) rfl rfl ?_
    refine G.ifNo H79 at_157 (pc' := 160) rfl (by decide) ?_
    refine G.iconst H79 at_160 (pc' := 161) rfl (v := 1) rfl ?_
    refine G.goto H79 at_161 (by decide) (pc' := 165) rfl ?_
    refine G.icmpNo H79 at_165 (pc' := 168) rfl (by decide) ?_
    refine G.iconst H79 at_168 (pc' := 169) rfl (v := 1) rfl ?_
    refine G.goto H79 at_169 (by decide) (pc' := 173) rfl ?_
    exact G.retN H79 (t := .boolean) rfl (by decide) at_173 (so := []) all0 (by decide) (by decide) rfl
  ·
    refine G.aload H at_101 (pc' := 103) rfl rfl rfl ?_
    refine G.iload H at_103 (pc' := 105) rfl rfl ?_
    refine G.callS H (m13_cut V p0 c0 e0 e1 e2 e3 e4 e5 e6 e7 e8 e9 h0 H.old fA8 (own_u16 re0) (own_u16 re1) (own_u16 re2) (own_u16 re3) (own_u16 re4) re4 re3 re2 re1 re0) (wd2 V) (wd3 V) (wd4 V) (wd5 V) (by decide) (argsL := [(.ref p0), (.int 5)]) (rest := []) (W := 0) rfl rfl (lenOf (pd_2) rfl) rfl rfl at_105 (pc' := 108) rfl (by decide) (by decide) (by decide) (by decide) all0 ?_
    intro T84 h84_ v85 s86 H84 Q87
    obtain ⟨a88, a89, k90, rfl, rfl, K91, g92, g93, F94⟩ := Q87
    have na88 : n0 ≤ a88 := Nat.le_trans H.le g92
    have na89 : n0 ≤ a89 := Nat.le_trans H.le (Nat.le_of_lt (Nat.lt_of_le_of_lt g92 g93))
    show Go p e below _ (T84.setTop (mkF m 108 #[.val (.int x70000), .val (.int x70001), .val (.int x70002), .val (.int x70003), .val (.int 5), .val (.int 7), .val (.int (x2 &&& 255)), .val (.int x70007), .val (.ref p0), .unset, .unset] [(.ref a88)]))
    refine G.astore H84 (L' := #[.val (.int x70000), .val (.int x70001), .val (.int x70002), .val (.int x70003), .val (.int 5), .val (.int 7), .val (.int (x2 &&& 255)), .val (.int x70007), .val (.ref p0), .val (.ref a88), .unset]) at_108 (pc' := 110) rfl rfl rfl ?_
    refine G.iload H84 at_110 (pc' := 112) rfl rfl ?_
    refine G.bipush H84 at_112 (pc' := 114) rfl (v := 7) rfl ?_
    refine G.icmpNo H84 at_114 (pc' := 117) rfl (by decide) ?_
    refine G.iload H84 at_117 (pc' := 119) rfl rfl ?_
    refine G.bipush H84 at_119 (pc' := 121) rfl (v := 9) rfl ?_
    refine G.icmpYes H84 at_121 (by decide) (by decide) (pc' := 147) rfl ?_
    refine G.iconst H84 at_147 (pc' := 148) rfl (v := 0) rfl ?_
    refine G.istore H84 (L' := #[.val (.int x70000), .val (.int x70001), .val (.int x70002), .val (.int x70003), .val (.int 5), .val (.int 7), .val (.int (x2 &&& 255)), .val (.int x70007), .val (.ref p0), .val (.ref a88), .val (.int 0)]) at_148 (pc' := 150) rfl rfl ?_
    refine G.aload H84 at_150 (pc' := 152) rfl rfl rfl ?_
    refine G.callS H84 (m14_apply V a88 a89 k90 e0 e1 e2 e3 e4 h84_ H84.old F94) (wd27 V) (wd28 V) (wd29 V) (wd30 V) (by decide) (argsL := [(.ref a88)]) (rest := []) (W := 0) rfl rfl (lenOf (pd_3) rfl) rfl rfl at_152 (pc' := 155) rfl (by decide) (by decide) (by decide) (by decide) (allS (mG (i := 0) rfl) (allS (mG (i := 1) rfl) all0)) ?_
    intro T95 h95_ v96 s97 H95 Q98
    obtain ⟨rfl, rfl, K99⟩ := Q98
    show Go p e below _ (T95.setTop (mkF m 155 #[.val (.int x70000), .val (.int x70001), .val (.int x70002), .val (.int x70003), .val (.int 5), .val (.int 7), .val (.int (x2 &&& 255)), .val (.int x70007), .val (.ref p0), .val (.ref a88), .val (.int 0)] [(.int 1)]))
    refine G.iload H95 at_155 (pc' := 157) rfl rfl ?_
    refine G.ifNo H95 at_157 (pc' := 160) rfl (by decide) ?_
    refine G.iconst H95 at_160 (pc' := 161) rfl (v := 1) rfl ?_
    refine G.goto H95 at_161 (by decide) (pc' := 165) rfl ?_
    refine G.icmpNo H95 at_165 (pc' := 168) rfl (by decide) ?_
    refine G.iconst H95 at_168 (pc' := 169) rfl (v := 1) rfl ?_
    refine G.goto H95 at_169 (by decide) (pc' := 173) rfl ?_
    exact G.retN H95 (t := .boolean) rfl (by decide) at_173 (so := []) all0 (by decide) (by decide) rfl
  ·
    refine G.aload H at_101 (pc' := 103) rfl rfl rfl ?_
    refine G.iload H at_103 (pc' := 105) rfl rfl ?_
    refine G.callS H (m15_cut V p0 c0 e0 e1 e2 e3 e4 e5 e6 e7 e8 e9 h0 H.old fA8 (own_u16 re0) (own_u16 re1) (own_u16 re2) (own_u16 re3) (own_u16 re4) (own_u16 re5) re5 re4 re3 re2 re1 re0) (wd2 V) (wd3 V) (wd4 V) (wd5 V) (by decide) (argsL := [(.ref p0), (.int 6)]) (rest := []) (W := 0) rfl rfl (lenOf (pd_2) rfl) rfl rfl at_105 (pc' := 108) rfl (by decide) (by decide) (by decide) (by decide) all0 ?_
    intro T100 h100_ v101 s102 H100 Q103
    obtain ⟨a104, a105, k106, rfl, rfl, K107, g108, g109, F110⟩ := Q103
    have na104 : n0 ≤ a104 := Nat.le_trans H.le g108
    have na105 : n0 ≤ a105 := Nat.le_trans H.le (Nat.le_of_lt (Nat.lt_of_le_of_lt g108 g109))
    show Go p e below _ (T100.setTop (mkF m 108 #[.val (.int x70000), .val (.int x70001), .val (.int x70002), .val (.int x70003), .val (.int 6), .val (.int 7), .val (.int (x2 &&& 255)), .val (.int x70007), .val (.ref p0), .unset, .unset] [(.ref a104)]))
    refine G.astore H100 (L' := #[.val (.int x70000), .val (.int x70001), .val (.int x70002), .val (.int x70003), .val (.int 6), .val (.int 7), .val (.int (x2 &&& 255)), .val (.int x70007), .val (.ref p0), .val (.ref a104), .unset]) at_108 (pc' := 110) rfl rfl rfl ?_
    refine G.iload H100 at_110 (pc' := 112) rfl rfl ?_
    refine G.bipush H100 at_112 (pc' := 114) rfl (v := 7) rfl ?_
    refine G.icmpNo H100 at_114 (pc' := 117) rfl (by decide) ?_
    refine G.iload H100 at_117 (pc' := 119) rfl rfl ?_
    refine G.bipush H100 at_119 (pc' := 121) rfl (v := 9) rfl ?_
    refine G.icmpYes H100 at_121 (by decide) (by decide) (pc' := 147) rfl ?_
    refine G.iconst H100 at_147 (pc' := 148) rfl (v := 0) rfl ?_
    refine G.istore H100 (L' := #[.val (.int x70000), .val (.int x70001), .val (.int x70002), .val (.int x70003), .val (.int 6), .val (.int 7), .val (.int (x2 &&& 255)), .val (.int x70007), .val (.ref p0), .val (.ref a104), .val (.int 0)]) at_148 (pc' := 150) rfl rfl ?_
    refine G.aload H100 at_150 (pc' := 152) rfl rfl rfl ?_
    refine G.callS H100 (m16_apply V a104 a105 k106 e0 e1 e2 e3 e4 e5 h100_ H100.old F110) (wd27 V) (wd28 V) (wd29 V) (wd30 V) (by decide) (argsL := [(.ref a104)]) (rest := []) (W := 0) rfl rfl (lenOf (pd_3) rfl) rfl rfl at_152 (pc' := 155) rfl (by decide) (by decide) (by decide) (by decide) (allS (mG (i := 0) rfl) (allS (mG (i := 1) rfl) all0)) ?_
    intro T111 h111_ v112 s113 H111 Q114
    obtain ⟨rfl, rfl, K115⟩ := Q114
    show Go p e below _ (T111.setTop (mkF m 155 #[.val (.int x70000), .val (.int x70001), .val (.int x70002), .val (.int x70003), .val (.int 6), .val (.int 7), .val (.int (x2 &&& 255)), .val (.int x70007), .val (.ref p0), .val (.ref a104), .val (.int 0)] [(.int 1)]))
    refine G.iload H111 at_155 (pc' := 157) rfl rfl ?_
    refine G.ifNo H111 at_157 (pc' := 160) rfl (by decide) ?_
    refine G.iconst H111 at_160 (pc' := 161) rfl (v := 1) rfl ?_
    refine G.goto H111 at_161 (by decide) (pc' := 165) rfl ?_
    refine G.icmpNo H111 at_165 (pc' := 168) rfl (by decide) ?_
    refine G.iconst H111 at_168 (pc' := 169) rfl (v := 1) rfl ?_
    refine G.goto H111 at_169 (by decide) (pc' := 173) rfl ?_
    exact G.retN H111 (t := .boolean) rfl (by decide) at_173 (so := []) all0 (by decide) (by decide) rfl
  ·
    refine G.aload H at_101 (pc' := 103) rfl rfl rfl ?_
    refine G.iload H at_103 (pc' := 105) rfl rfl ?_
    refine G.callS H (m17_cut V p0 c0 e0 e1 e2 e3 e4 e5 e6 e7 e8 e9 h0 H.old fA8 (own_u16 re0) (own_u16 re1) (own_u16 re2) (own_u16 re3) (own_u16 re4) (own_u16 re5) (own_u16 re6) re6 re5 re4 re3 re2 re1 re0) (wd2 V) (wd3 V) (wd4 V) (wd5 V) (by decide) (argsL := [(.ref p0), (.int 7)]) (rest := []) (W := 0) rfl rfl (lenOf (pd_2) rfl) rfl rfl at_105 (pc' := 108) rfl (by decide) (by decide) (by decide) (by decide) all0 ?_
    intro T116 h116_ v117 s118 H116 Q119
    obtain ⟨a120, a121, k122, rfl, rfl, K123, g124, g125, F126⟩ := Q119
    have na120 : n0 ≤ a120 := Nat.le_trans H.le g124
    have na121 : n0 ≤ a121 := Nat.le_trans H.le (Nat.le_of_lt (Nat.lt_of_le_of_lt g124 g125))
    show Go p e below _ (T116.setTop (mkF m 108 #[.val (.int x70000), .val (.int x70001), .val (.int x70002), .val (.int x70003), .val (.int 7), .val (.int 7), .val (.int (x2 &&& 255)), .val (.int x70007), .val (.ref p0), .unset, .unset] [(.ref a120)]))
    refine G.astore H116 (L' := #[.val (.int x70000), .val (.int x70001), .val (.int x70002), .val (.int x70003), .val (.int 7), .val (.int 7), .val (.int (x2 &&& 255)), .val (.int x70007), .val (.ref p0), .val (.ref a120), .unset]) at_108 (pc' := 110) rfl rfl rfl ?_
    refine G.iload H116 at_110 (pc' := 112) rfl rfl ?_
    refine G.bipush H116 at_112 (pc' := 114) rfl (v := 7) rfl ?_
    refine G.icmpYes H116 at_114 (by decide) (by decide) (pc' := 124) rfl ?_
    refine G.iload H116 at_124 (pc' := 126) rfl rfl ?_
    refine G.iload H116 at_126 (pc' := 128) rfl rfl ?_
    refine G.icmpYes H116 at_128 (by decide) (by decide) (pc' := 143) rfl ?_
    refine G.iconst H116 at_143 (pc' := 144) rfl (v := 1) rfl ?_
    refine G.goto H116 at_144 (by decide) (pc' := 148) rfl ?_
    refine G.istore H116 (L' := #[.val (.int x70000), .val (.int x70001), .val (.int x70002), .val (.int x70003), .val (.int 7), .val (.int 7), .val (.int (x2 &&& 255)), .val (.int x70007), .val (.ref p0), .val (.ref a120), .val (.int 1)]) at_148 (pc' := 150) rfl rfl ?_
    refine G.aload H116 at_150 (pc' := 152) rfl rfl rfl ?_
    refine G.callS H116 (m23_apply V a120 a121 k122 e0 e1 e2 e3 e4 e5 e6 h116_ H116.old F126 qe0 qe1 qe2 qe3 qe4 qe5 qe6) (wd27 V) (wd28 V) (wd29 V) (wd30 V) (by decide) (argsL := [(.ref a120)]) (rest := []) (W := 0) rfl rfl (lenOf (pd_3) rfl) rfl rfl at_152 (pc' := 155) rfl (by decide) (by decide) (by decide) (by decide) all0 ?_
    intro T127 h127_ v128 s129 H127 Q130
    obtain ⟨c131, rfl, rfl, K132⟩ := Q130
    show Go p e below _ (T127.setTop (mkF m 155 #[.val (.int x70000), .val (.int x70001), .val (.int x70002), .val (.int x70003), .val (.int 7), .val (.int 7), .val (.int (x2 &&& 255)), .val (.int x70007), .val (.ref p0), .val (.ref a120), .val (.int 1)] [(.int 0)]))
    refine G.iload H127 at_155 (pc' := 157) rfl rfl ?_
    refine G.ifYes H127 at_157 (by decide) (by decide) (pc' := 164) rfl ?_
    refine G.iconst H127 at_164 (pc' := 165) rfl (v := 0) rfl ?_
    refine G.icmpNo H127 at_165 (pc' := 168) rfl (by decide) ?_
    refine G.iconst H127 at_168 (pc' := 169) rfl (v := 1) rfl ?_
    refine G.goto H127 at_169 (by decide) (pc' := 173) rfl ?_
    exact G.retN H127 (t := .boolean) rfl (by decide) at_173 (so := []) all0 (by decide) (by decide) rfl
  ·
    refine G.aload H at_101 (pc' := 103) rfl rfl rfl ?_
    refine G.iload H at_103 (pc' := 105) rfl rfl ?_
    refine G.callS H (m25_cut V p0 c0 e0 e1 e2 e3 e4 e5 e6 e7 e8 e9 h0 H.old fA8 (own_u16 re0) (own_u16 re1) (own_u16 re2) (own_u16 re3) (own_u16 re4) (own_u16 re5) (own_u16 re6) (own_u16 re7) re7 re6 re5 re4 re3 re2 re1 re0) (wd2 V) (wd3 V) (wd4 V) (wd5 V) (by decide) (argsL := [(.ref p0), (.int 8)]) (rest := []) (W := 0) rfl rfl (lenOf (pd_2) rfl) rfl rfl at_105 (pc' := 108) rfl (by decide) (by decide) (by decide) (by decide) all0 ?_
    intro T133 h133_ v134 s135 H133 Q136
    obtain ⟨a137, a138, k139, rfl, rfl, K140, g141, g142, F143⟩ := Q136
    have na137 : n0 ≤ a137 := Nat.le_trans H.le g141
    have na138 : n0 ≤ a138 := Nat.le_trans H.le (Nat.le_of_lt (Nat.lt_of_le_of_lt g141 g142))
    show Go p e below _ (T133.setTop (mkF m 108 #[.val (.int x70000), .val (.int x70001), .val (.int x70002), .val (.int x70003), .val (.int 8), .val (.int 7), .val (.int (x2 &&& 255)), .val (.int x70007), .val (.ref p0), .unset, .unset] [(.ref a137)]))
    refine G.astore H133 (L' := #[.val (.int x70000), .val (.int x70001), .val (.int x70002), .val (.int x70003), .val (.int 8), .val (.int 7), .val (.int (x2 &&& 255)), .val (.int x70007), .val (.ref p0), .val (.ref a137), .unset]) at_108 (pc' := 110) rfl rfl rfl ?_
    refine G.iload H133 at_110 (pc' := 112) rfl rfl ?_
    refine G.bipush H133 at_112 (pc' := 114) rfl (v := 7) rfl ?_
    refine G.icmpNo H133 at_114 (pc' := 117) rfl (by decide) ?_
    refine G.iload H133 at_117 (pc' := 119) rfl rfl ?_
    refine G.bipush H133 at_119 (pc' := 121) rfl (v := 9) rfl ?_
    refine G.icmpYes H133 at_121 (by decide) (by decide) (pc' := 147) rfl ?_
    refine G.iconst H133 at_147 (pc' := 148) rfl (v := 0) rfl ?_
    refine G.istore H133 (L' := #[.val (.int x70000), .val (.int x70001), .val (.int x70002), .val (.int x70003), .val (.int 8), .val (.int 7), .val (.int (x2 &&& 255)), .val (.int x70007), .val (.ref p0), .val (.ref a137), .val (.int 0)]) at_148 (pc' := 150) rfl rfl ?_
    refine G.aload H133 at_150 (pc' := 152) rfl rfl rfl ?_
    refine G.callS H133 (m26_apply V a137 a138 k139 e0 e1 e2 e3 e4 e5 e6 e7 h133_ H133.old F143) (wd27 V) (wd28 V) (wd29 V) (wd30 V) (by decide) (argsL := [(.ref a137)]) (rest := []) (W := 0) rfl rfl (lenOf (pd_3) rfl) rfl rfl at_152 (pc' := 155) rfl (by decide) (by decide) (by decide) (by decide) (allS (mG (i := 0) rfl) (allS (mG (i := 1) rfl) all0)) ?_
    intro T144 h144_ v145 s146 H144 Q147
    obtain ⟨rfl, rfl, K148⟩ := Q147
    show Go p e below _ (T144.setTop (mkF m 155 #[.val (.int x70000), .val (.int x70001), .val (.int x70002), .val (.int x70003), .val (.int 8), .val (.int 7), .val (.int (x2 &&& 255)), .val (.int x70007), .val (.ref p0), .val (.ref a137), .val (.int 0)] [(.int 1)]))
    refine G.iload H144 at_155 (pc' := 157) rfl rfl ?_
    refine G.ifNo H144 at_157 (pc' := 160) rfl (by decide) ?_
    refine G.iconst H144 at_160 (pc' := 161) rfl (v := 1) rfl ?_
    refine G.goto H144 at_161 (by decide) (pc' := 165) rfl ?_
    refine G.icmpNo H144 at_165 (pc' := 168) rfl (by decide) ?_
    refine G.iconst H144 at_168 (pc' := 169) rfl (v := 1) rfl ?_
    refine G.goto H144 at_169 (by decide) (pc' := 173) rfl ?_
    exact G.retN H144 (t := .boolean) rfl (by decide) at_173 (so := []) all0 (by decide) (by decide) rfl
  ·
    refine G.aload H at_101 (pc' := 103) rfl rfl rfl ?_
    refine G.iload H at_103 (pc' := 105) rfl rfl ?_
    refine G.callS H (m27_cut V p0 c0 e0 e1 e2 e3 e4 e5 e6 e7 e8 e9 h0 H.old fA8 (own_u16 re0) (own_u16 re1) (own_u16 re2) (own_u16 re3) (own_u16 re4) (own_u16 re5) (own_u16 re6) (own_u16 re7) (own_u16 re8) re8 re7 re6 re5 re4 re3 re2 re1 re0) (wd2 V) (wd3 V) (wd4 V) (wd5 V) (by decide) (argsL := [(.ref p0), (.int 9)]) (rest := []) (W := 0) rfl rfl (lenOf (pd_2) rfl) rfl rfl at_105 (pc' := 108) rfl (by decide) (by decide) (by decide) (by decide) all0 ?_
    intro T149 h149_ v150 s151 H149 Q152
    obtain ⟨a153, a154, k155, rfl, rfl, K156, g157, g158, F159⟩ := Q152
    have na153 : n0 ≤ a153 := Nat.le_trans H.le g157
    have na154 : n0 ≤ a154 := Nat.le_trans H.le (Nat.le_of_lt (Nat.lt_of_le_of_lt g157 g158))
    show Go p e below _ (T149.setTop (mkF m 108 #[.val (.int x70000), .val (.int x70001), .val (.int x70002), .val (.int x70003), .val (.int 9), .val (.int 7), .val (.int (x2 &&& 255)), .val (.int x70007), .val (.ref p0), .unset, .unset] [(.ref a153)]))
    refine G.astore H149 (L' := #[.val (.int x70000), .val (.int x70001), .val (.int x70002), .val (.int x70003), .val (.int 9), .val (.int 7), .val (.int (x2 &&& 255)), .val (.int x70007), .val (.ref p0), .val (.ref a153), .unset]) at_108 (pc' := 110) rfl rfl rfl ?_
    refine G.iload H149 at_110 (pc' := 112) rfl rfl ?_
    refine G.bipush H149 at_112 (pc' := 114) rfl (v := 7) rfl ?_
    refine G.icmpNo H149 at_114 (pc' := 117) rfl (by decide) ?_
    refine G.iload H149 at_117 (pc' := 119) rfl rfl ?_
    refine G.bipush H149 at_119 (pc' := 121) rfl (v := 9) rfl ?_
    refine G.icmpNo H149 at_121 (pc' := 124) rfl (by decide) ?_
    refine G.iload H149 at_124 (pc' := 126) rfl rfl ?_
    refine G.iload H149 at_126 (pc' := 128) rfl rfl ?_
    refine G.icmpNo H149 at_128 (pc' := 131) rfl (by decide) ?_
    refine G.iload H149 at_131 (pc' := 133) rfl rfl ?_
    refine G.ldcS H149 trivial (wS V) (wd54 V) (by decide) (vs := [(.int 67), (.int 79), (.int 78), (.int 78), (.int 69), (.int 67), (.int 84), (.int 69), (.int 68)]) (z := 9) (by decide) (by decide) rfl (n := 36) (by decide) (by decide) (by decide) (by decide) at_133 (pc' := 135) rfl ?_
    intro T160 h160_ a161 b163 k164 H160 E162 X165 F166 F167 A168 Q169
    have S170 : Str Z h160_ a161 b163 k164 [67, 79, 78, 78, 69, 67, 84, 69, 68] := ⟨X165, F166, F167, A168, by decide, by decide⟩
    refine G.iload H160 at_135 (pc' := 137) rfl rfl ?_
    refine G.callV H160 (m78_charAt V a161 b163 k164 h160_ H160.old X165 F166 F167 A168) (wd55 V) (wd56 V) (nf_sel (wd58 V)) (wd58 V) (wd57 V) (wd8 V) (wd59 V) (by decide) X165 (argsL := [(.int 7)]) (rest := [(.int (x2 &&& 255))]) (W := 1) rfl rfl (lenOf (pd_8) rfl) rfl rfl at_137 (pc' := 140) rfl (by decide) (by decide) (by decide) (by decide) all0 ?_
    intro T171 h171_ v172 s173 H171 Q174
    obtain ⟨rfl, rfl, rfl⟩ := Q174
    show Go p e below _ (T171.setTop (mkF m 140 #[.val (.int x70000), .val (.int x70001), .val (.int x70002), .val (.int x70003), .val (.int 9), .val (.int 7), .val (.int (x2 &&& 255)), .val (.int x70007), .val (.ref p0), .val (.ref a153), .unset] [(.int 69), (.int (x2 &&& 255))]))
    by_cases c175 : (x2 &&& 255) = 69
    ·
      refine G.icmpNo H171 at_140 (pc' := 143) rfl (XT.ii_ne_f c175) ?_
      refine G.iconst H171 at_143 (pc' := 144) rfl (v := 1) rfl ?_
      refine G.goto H171 at_144 (by decide) (pc' := 148) rfl ?_
      refine G.istore H171 (L' := #[.val (.int x70000), .val (.int x70001), .val (.int x70002), .val (.int x70003), .val (.int 9), .val (.int 7), .val (.int (x2 &&& 255)), .val (.int x70007), .val (.ref p0), .val (.ref a153), .val (.int 1)]) at_148 (pc' := 150) rfl rfl ?_
      refine G.aload H171 at_150 (pc' := 152) rfl rfl rfl ?_
      have F176 := (Str.ext E162 F159)
      refine G.callS H171 (m28_apply V a153 a154 k155 e0 e1 e2 e3 e4 e5 e6 e7 e8 h160_ H171.old F176 qe0 qe1 qe2 qe3 qe4 qe5 qe6 (Eq.trans qe7 c175) qe8) (wd27 V) (wd28 V) (wd29 V) (wd30 V) (by decide) (argsL := [(.ref a153)]) (rest := []) (W := 0) rfl rfl (lenOf (pd_3) rfl) rfl rfl at_152 (pc' := 155) rfl (by decide) (by decide) (by decide) (by decide) (allS (mG (i := 0) rfl) (allS (mG (i := 1) rfl) all0)) ?_
      intro T177 h177_ v178 s179 H177 Q180
      obtain ⟨c181, rfl, rfl, K182⟩ := Q180
      show Go p e below _ (T177.setTop (mkF m 155 #[.val (.int x70000), .val (.int x70001), .val (.int x70002), .val (.int x70003), .val (.int 9), .val (.int 7), .val (.int (x2 &&& 255)), .val (.int x70007), .val (.ref p0), .val (.ref a153), .val (.int 1)] [(.int 0)]))
      refine G.iload H177 at_155 (pc' := 157) rfl rfl ?_
      refine G.ifYes H177 at_157 (by decide) (by decide) (pc' := 164) rfl ?_
      refine G.iconst H177 at_164 (pc' := 165) rfl (v := 0) rfl ?_
      refine G.icmpNo H177 at_165 (pc' := 168) rfl (by decide) ?_
      refine G.iconst H177 at_168 (pc' := 169) rfl (v := 1) rfl ?_
      refine G.goto H177 at_169 (by decide) (pc' := 173) rfl ?_
      exact G.retN H177 (t := .boolean) rfl (by decide) at_173 (so := []) all0 (by decide) (by decide) rfl
    ·
      refine G.icmpYes H171 at_140 (XT.ii_ne_t c175) (by decide) (pc' := 147) rfl ?_
      refine G.iconst H171 at_147 (pc' := 148) rfl (v := 0) rfl ?_
      refine G.istore H171 (L' := #[.val (.int x70000), .val (.int x70001), .val (.int x70002), .val (.int x70003), .val (.int 9), .val (.int 7), .val (.int (x2 &&& 255)), .val (.int x70007), .val (.ref p0), .val (.ref a153), .val (.int 0)]) at_148 (pc' := 150) rfl rfl ?_
      refine G.aload H171 at_150 (pc' := 152) rfl rfl rfl ?_
      have F183 := (Str.ext E162 F159)
      refine G.callS H171 (m79_apply V a153 a154 k155 e0 e1 e2 e3 e4 e5 e6 e7 e8 h160_ H171.old F183 qe0 qe1 qe2 qe3 qe4 qe5 qe6 (fun qq => c175 (Eq.trans (Eq.symm qe7) qq)) qe8) (wd27 V) (wd28 V) (wd29 V) (wd30 V) (by decide) (argsL := [(.ref a153)]) (rest := []) (W := 0) rfl rfl (lenOf (pd_3) rfl) rfl rfl at_152 (pc' := 155) rfl (by decide) (by decide) (by decide) (by decide) (allS (mG (i := 0) rfl) (allS (mG (i := 1) rfl) all0)) ?_
      intro T184 h184_ v185 s186 H184 Q187
      obtain ⟨c188, rfl, rfl, K189⟩ := Q187
      show Go p e below _ (T184.setTop (mkF m 155 #[.val (.int x70000), .val (.int x70001), .val (.int x70002), .val (.int x70003), .val (.int 9), .val (.int 7), .val (.int (x2 &&& 255)), .val (.int x70007), .val (.ref p0), .val (.ref a153), .val (.int 0)] [(.int 1)]))
      refine G.iload H184 at_155 (pc' := 157) rfl rfl ?_
      refine G.ifNo H184 at_157 (pc' := 160) rfl (by decide) ?_
      refine G.iconst H184 at_160 (pc' := 161) rfl (v := 1) rfl ?_
      refine G.goto H184 at_161 (by decide) (pc' := 165) rfl ?_
      refine G.icmpNo H184 at_165 (pc' := 168) rfl (by decide) ?_
      refine G.iconst H184 at_168 (pc' := 169) rfl (v := 1) rfl ?_
      refine G.goto H184 at_169 (by decide) (pc' := 173) rfl ?_
      exact G.retN H184 (t := .boolean) rfl (by decide) at_173 (so := []) all0 (by decide) (by decide) rfl
  ·
    refine G.aload H at_101 (pc' := 103) rfl rfl rfl ?_
    refine G.iload H at_103 (pc' := 105) rfl rfl ?_
    refine G.callS H (m30_cut V p0 c0 e0 e1 e2 e3 e4 e5 e6 e7 e8 e9 h0 H.old fA8 (own_u16 re0) (own_u16 re1) (own_u16 re2) (own_u16 re3) (own_u16 re4) (own_u16 re5) (own_u16 re6) (own_u16 re7) (own_u16 re8) (own_u16 re9) re9 re8 re7 re6 re5 re4 re3 re2 re1 re0) (wd2 V) (wd3 V) (wd4 V) (wd5 V) (by decide) (argsL := [(.ref p0), (.int 10)]) (rest := []) (W := 0) rfl rfl (lenOf (pd_2) rfl) rfl rfl at_105 (pc' := 108) rfl (by decide) (by decide) (by decide) (by decide) all0 ?_
    intro T190 h190_ v191 s192 H190 Q193
    obtain ⟨a194, a195, k196, rfl, rfl, K197, g198, g199, F200⟩ := Q193
    have na194 : n0 ≤ a194 := Nat.le_trans H.le g198
    have na195 : n0 ≤ a195 := Nat.le_trans H.le (Nat.le_of_lt (Nat.lt_of_le_of_lt g198 g199))
    show Go p e below _ (T190.setTop (mkF m 108 #[.val (.int x70000), .val (.int x70001), .val (.int x70002), .val (.int x70003), .val (.int 10), .val (.int 7), .val (.int (x2 &&& 255)), .val (.int x70007), .val (.ref p0), .unset, .unset] [(.ref a194)]))
    refine G.astore H190 (L' := #[.val (.int x70000), .val (.int x70001), .val (.int x70002), .val (.int x70003), .val (.int 10), .val (.int 7), .val (.int (x2 &&& 255)), .val (.int x70007), .val (.ref p0), .val (.ref a194), .unset]) at_108 (pc' := 110) rfl rfl rfl ?_
    refine G.iload H190 at_110 (pc' := 112) rfl rfl ?_
    refine G.bipush H190 at_112 (pc' := 114) rfl (v := 7) rfl ?_
    refine G.icmpNo H190 at_114 (pc' := 117) rfl (by decide) ?_
    refine G.iload H190 at_117 (pc' := 119) rfl rfl ?_
    refine G.bipush H190 at_119 (pc' := 121) rfl (v := 9) rfl ?_
    refine G.icmpYes H190 at_121 (by decide) (by decide) (pc' := 147) rfl ?_
    refine G.iconst H190 at_147 (pc' := 148) rfl (v := 0) rfl ?_
    refine G.istore H190 (L' := #[.val (.int x70000), .val (.int x70001), .val (.int x70002), .val (.int x70003), .val (.int 10), .val (.int 7), .val (.int (x2 &&& 255)), .val (.int x70007), .val (.ref p0), .val (.ref a194), .val (.int 0)]) at_148 (pc' := 150) rfl rfl ?_
    refine G.aload H190 at_150 (pc' := 152) rfl rfl rfl ?_
    refine G.callS H190 (m31_apply V a194 a195 k196 e0 e1 e2 e3 e4 e5 e6 e7 e8 e9 h190_ H190.old F200) (wd27 V) (wd28 V) (wd29 V) (wd30 V) (by decide) (argsL := [(.ref a194)]) (rest := []) (W := 0) rfl rfl (lenOf (pd_3) rfl) rfl rfl at_152 (pc' := 155) rfl (by decide) (by decide) (by decide) (by decide) (allS (mG (i := 0) rfl) (allS (mG (i := 1) rfl) all0)) ?_
    intro T201 h201_ v202 s203 H201 Q204
    obtain ⟨rfl, rfl, K205⟩ := Q204
    show Go p e below _ (T201.setTop (mkF m 155 #[.val (.int x70000), .val (.int x70001), .val (.int x70002), .val (.int x70003), .val (.int 10), .val (.int 7), .val (.int (x2 &&& 255)), .val (.int x70007), .val (.ref p0), .val (.ref a194), .val (.int 0)] [(.int 1)]))
    refine G.iload H201 at_155 (pc' := 157) rfl rfl ?_
    refine G.ifNo H201 at_157 (pc' := 160) rfl (by decide) ?_
    refine G.iconst H201 at_160 (pc' := 161) rfl (v := 1) rfl ?_
    refine G.goto H201 at_161 (by decide) (pc' := 165) rfl ?_
    refine G.icmpNo H201 at_165 (pc' := 168) rfl (by decide) ?_
    refine G.iconst H201 at_168 (pc' := 169) rfl (v := 1) rfl ?_
    refine G.goto H201 at_169 (by decide) (pc' := 173) rfl ?_
    exact G.retN H201 (t := .boolean) rfl (by decide) at_173 (so := []) all0 (by decide) (by decide) rfl
set_option maxRecDepth 65536 in
set_option maxHeartbeats 40000000 in
theorem m81_checkIndex (V : Env1 Z a0 n0 uu0 uu1)  (h0 : Heap) (hO : Old Z n0 h0)  :
    Met Z a0 ELs True n0 l (⟨"jdk/internal/util/Preconditions", "checkIndex", "(IILjava/util/function/BiFunction;)I"⟩ : MethodName) jdk_41_method_11_code 3 (Option.some FieldType.int) ({ frames := 0, cells := 0, slots := 0, locals := 0 } : Room) #[(.int 8), (.int 9), uu1] h0 [] (fun v h so => (v = some (.int 8) ∧ so = [] ∧ h0 = h)) := by
  refine Met.of (EWl V) (by first | decide +kernel | rfl) hO (L0 := #[.val (.int 8), .val (.int 9), .val uu1]) (by rcases XT.refc (hv3 V) with rfl | ⟨_, rfl⟩ <;> rfl) ?_
  intro p e s m below meth c T H
  show Go p e below _ (T.setTop (mkF m 0 #[.val (.int 8), .val (.int 9), .val uu1] []))
  refine G.iloadN H D0_0 (pc' := 1) rfl rfl ?_
  refine G.ifNo H D0_1 (pc' := 4) rfl (by decide) ?_
  refine G.iloadN H D0_4 (pc' := 5) rfl rfl ?_
  refine G.iloadN H D0_5 (pc' := 6) rfl rfl ?_
  refine G.icmpYes H D0_6 (by decide) (by decide) (pc' := 16) rfl ?_
  refine G.iloadN H D0_16 (pc' := 17) rfl rfl ?_
  exact G.retI H rfl D0_17 (so := []) all0 (by decide) (by decide) ⟨rfl, rfl, rfl⟩
set_option maxRecDepth 65536 in
set_option maxHeartbeats 40000000 in
theorem m82_checkIndex (V : Env1 Z a0 n0 uu0 uu1)  (h0 : Heap) (hO : Old Z n0 h0)  :
    Met Z a0 ELs True n0 l (⟨"java/lang/String", "checkIndex", "(II)V"⟩ : MethodName) jdk_42_method_155_code 2 (Option.none : Option FieldType) ({ frames := 1, cells := 0, slots := 0, locals := 14 } : Room) #[(.int 8), (.int 9)] h0 [] (fun v h so => (v = none ∧ so = [] ∧ h0 = h)) := by
  refine Met.of (EWl V) (by first | decide +kernel | rfl) hO (L0 := #[.val (.int 8), .val (.int 9)]) rfl ?_
  intro p e s m below meth c T H
  show Go p e below _ (T.setTop (mkF m 0 #[.val (.int 8), .val (.int 9)] []))
  refine G.iloadN H D3_0 (pc' := 1) rfl rfl ?_
  refine G.iloadN H D3_1 (pc' := 2) rfl rfl ?_
  refine G.getS H (wd71 V) Via.refl (Sta.ext H.old.2 (hv2 V)) D3_2 (pc' := 5) rfl ?_
  intro T1 H2
  refine G.callS H2 (m81_checkIndex V h0 H2.old) (wd73 V) (wd74 V) (wd72 V) (wd75 V) (by decide) (argsL := [(.int 8), (.int 9), uu1]) (rest := []) (W := 0) rfl rfl (lenOf (pd_5) rfl) rfl rfl D3_5 (pc' := 8) rfl (by decide) (by decide) (by decide) (by decide) all0 ?_
  intro T3 h3_ v4 s5 H3 Q6
  obtain ⟨rfl, rfl, rfl⟩ := Q6
  show Go p e below _ (T3.setTop (mkF m 8 #[.val (.int 8), .val (.int 9)] [(.int 8)]))
  refine G.pop H3 D3_8 (pc' := 9) rfl rfl ?_
  exact G.retV H3 rfl D3_9 (so := []) all0 (by decide) (by decide) ⟨rfl, rfl, rfl⟩
set_option maxRecDepth 65536 in
set_option maxHeartbeats 40000000 in
theorem m83_charAt (V : Env1 Z a0 n0 uu0 uu1) (p0 : Addr) (c0 : ClassId) (h0 : Heap) (hO : Old Z n0 h0) (f0 : Arv Z h0 p0 c0 .byte 9 [(.int 67), (.int 79), (.int 78), (.int 78), (.int 69), (.int 67), (.int 84), (.int 69), (.int 68)] (.int 0)) :
    Met Z a0 ELs True n0 l (⟨"java/lang/StringLatin1", "charAt", "([BI)C"⟩ : MethodName) jdk_43_method_2_code 2 (Option.some FieldType.char) ({ frames := 2, cells := 0, slots := 0, locals := 27 } : Room) #[(.ref p0), (.int 8)] h0 [] (fun v h so => (v = some (.int 68) ∧ so = [] ∧ h0 = h)) := by
  refine Met.of (EWl V) (by first | decide +kernel | rfl) hO (L0 := #[.val (.ref p0), .val (.int 8)]) rfl ?_
  intro p e s m below meth c T H
  show Go p e below _ (T.setTop (mkF m 0 #[.val (.ref p0), .val (.int 8)] []))
  refine G.iloadN H D6_0 (pc' := 1) rfl rfl ?_
  refine G.aloadN H D6_1 (pc' := 2) rfl rfl rfl ?_
  refine G.arrlen H f0 D6_2 (pc' := 3) rfl ?_
  refine G.callS H (m82_checkIndex V h0 H.old) (wd68 V) (wd69 V) (wd8 V) (wd70 V) (by decide) (argsL := [(.int 8), (.int 9)]) (rest := []) (W := 0) rfl rfl (lenOf (pd_6) rfl) rfl rfl D6_3 (pc' := 6) rfl (by decide) (by decide) (by decide) (by decide) all0 ?_
  intro T1 h1_ v2 s3 H1 Q4
  obtain ⟨rfl, rfl, rfl⟩ := Q4
  show Go p e below _ (T1.setTop (mkF m 6 #[.val (.ref p0), .val (.int 8)] []))
  refine G.aloadN H1 D6_6 (pc' := 7) rfl rfl rfl ?_
  refine G.iloadN H1 D6_7 (pc' := 8) rfl rfl ?_
  refine G.baloadG H1 f0 (j := 8) (v := (.int 68)) (by decide) rfl D6_8 (pc' := 9) rfl ?_
  refine G.sipush H1 D6_9 (pc' := 12) rfl (v := 255) rfl ?_
  refine G.iand H1 D6_12 (pc' := 13) rfl ?_
  show Go p e below _ (T1.setTop (mkF m 13 #[.val (.ref p0), .val (.int 8)] [(.int 68)]))
  refine G.i2c H1 (y := 68) D6_13 (pc' := 14) rfl rfl ?_
  exact G.retN H1 (t := .char) rfl (by decide) D6_14 (so := []) all0 (by decide) (by decide) ⟨rfl, rfl, rfl⟩
set_option maxRecDepth 65536 in
set_option maxHeartbeats 40000000 in
theorem m84_charAt (V : Env1 Z a0 n0 uu0 uu1) (p0 : Addr) (p1 : Addr) (c0 : ClassId) (h0 : Heap) (hO : Old Z n0 h0) (f0 : Exa Z h0 p0 "java/lang/String") (f1 : Fld Z h0 p0 "java/lang/String" "coder" "B" (.int 0)) (f2 : Fld Z h0 p0 "java/lang/String" "value" "[B" (.ref p1)) (f3 : Arv Z h0 p1 c0 .byte 9 [(.int 67), (.int 79), (.int 78), (.int 78), (.int 69), (.int 67), (.int 84), (.int 69), (.int 68)] (.int 0)) :
    Met Z a0 ELs True n0 l (⟨"java/lang/String", "charAt", "(I)C"⟩ : MethodName) jdk_42_method_56_code 2 (Option.some FieldType.char) ({ frames := 3, cells := 0, slots := 0, locals := 40 } : Room) #[(.ref p0), (.int 8)] h0 [] (fun v h so => (v = some (.int 68) ∧ so = [] ∧ h0 = h)) := by
  refine Met.of (EWl V) (by first | decide +kernel | rfl) hO (L0 := #[.val (.ref p0), .val (.int 8)]) rfl ?_
  intro p e s m below meth c T H
  show Go p e below _ (T.setTop (mkF m 0 #[.val (.ref p0), .val (.int 8)] []))
  refine G.aloadN H D5_0 (pc' := 1) rfl rfl rfl ?_
  refine G.callV H (m18_isLatin1 V p0 h0 H.old f1) (wd60 V) (wd61 V) (nf_sel (wd63 V)) (wd63 V) (wd62 V) (wd8 V) (wd64 V) (by decide) f0 (argsL := []) (rest := []) (W := 0) rfl rfl (lenOf (pd_4) rfl) rfl rfl D5_1 (pc' := 4) rfl (by decide) (by decide) (by decide) (by decide) all0 ?_
  intro T1 h1_ v2 s3 H1 Q4
  obtain ⟨rfl, rfl, rfl⟩ := Q4
  show Go p e below _ (T1.setTop (mkF m 4 #[.val (.ref p0), .val (.int 8)] [(.int 1)]))
  refine G.ifNo H1 D5_4 (pc' := 7) rfl (by decide) ?_
  refine G.aloadN H1 D5_7 (pc' := 8) rfl rfl rfl ?_
  refine G.getF H1 (wd25 V) Via.refl f2 D5_8 (pc' := 11) rfl ?_
  intro T5 H6
  refine G.iloadN H6 D5_11 (pc' := 12) rfl rfl ?_
  refine G.callS H6 (m83_charAt V p1 c0 h0 H6.old f3) (wd65 V) (wd66 V) (wd41 V) (wd67 V) (by decide) (argsL := [(.ref p1), (.int 8)]) (rest := []) (W := 0) rfl rfl (lenOf (pd_7) rfl) rfl rfl D5_12 (pc' := 15) rfl (by decide) (by decide) (by decide) (by decide) all0 ?_
  intro T7 h7_ v8 s9 H7 Q10
  obtain ⟨rfl, rfl, rfl⟩ := Q10
  show Go p e below _ (T7.setTop (mkF m 15 #[.val (.ref p0), .val (.int 8)] [(.int 68)]))
  exact G.retN H7 (t := .char) rfl (by decide) D5_15 (so := []) all0 (by decide) (by decide) ⟨rfl, rfl, rfl⟩
set_option maxRecDepth 65536 in
set_option maxHeartbeats 40000000 in
theorem m85_apply (V : Env1 Z a0 n0 uu0 uu1) (p0 : Addr) (p1 : Addr) (c0 : ClassId) (x0 : Int32) (x1 : Int32) (x2 : Int32) (x3 : Int32) (x4 : Int32) (x5 : Int32) (x6 : Int32) (x7 : Int32) (x8 : Int32) (h0 : Heap) (hO : Old Z n0 h0) (f0 : Str Z h0 p0 p1 c0 [x0, x1, x2, x3, x4, x5, x6, x7, x8]) (cc1 : x0 = 67) (cc2 : x1 = 79) (cc3 : x2 = 78) (cc4 : x3 = 78) (cc5 : x4 = 69) (cc6 : x5 = 67) (cc7 : x6 = 84) (cc8 : x7 = 69) (cc9 : ¬ x8 = 68) :
    Met Z a0 ELs True n0 l (⟨"bindery/server/stomp/HeaderEscapes", "apply", "(Ljava/lang/String;)Z"⟩ : MethodName) prog_84_method_2_code 1 (Option.some FieldType.boolean) ({ frames := 2, cells := 4, slots := 72, locals := 28 } : Room) #[(.ref p0)] h0 [p0, p1] (fun v h so => (¬ [x0, x1, x2, x3, x4, x5, x6, x7, x8] = [67, 79, 78, 78, 69, 67, 84, 69, 68] ∧ v = some (.int 1) ∧ so = [] ∧ Keep h0 h [])) := by
  refine Met.of (EWl V) (by first | decide +kernel | rfl) hO (L0 := #[.val (.ref p0)]) rfl ?_
  intro p e s m below meth c T H
  show Go p e below _ (T.setTop (mkF m 0 #[.val (.ref p0)] []))
  refine G.aloadN H D8_0 (pc' := 1) rfl rfl rfl ?_
  refine G.ldcS H trivial (wS V) (wd31 V) (by decide) (vs := [(.int 67), (.int 79), (.int 78), (.int 78), (.int 69), (.int 67), (.int 84)]) (z := 7) (by decide) (by decide) rfl (n := 28) (by decide) (by decide) (by decide) (by decide) D8_1 (pc' := 3) rfl ?_
  intro T1 h1_ a2 b4 k5 H1 E3 X6 F7 F8 A9 Q10
  have S11 : Str Z h1_ a2 b4 k5 [67, 79, 78, 78, 69, 67, 84] := ⟨X6, F7, F8, A9, by decide, by decide⟩
  have F12 := (Str.ext E3 f0)
  refine G.strEq H1 (strwEq V) (wd7 V) (wd32 V) (wd33 V) (wd35 V) (wd34 V) F12 S11 (hv0 V) (hv1 V) (rest := []) (W := 0) rfl rfl D8_3 (pc' := 6) rfl (by decide) (by decide) (by decide) (by decide) ?_ ?_
  ·
    intro T13 H14 c15
    exact absurd c15 (by intro qq; simp at qq)
  ·
    intro T16 H17 c18
    refine G.ifNo H17 D8_6 (pc' := 9) rfl (by decide) ?_
    refine G.aloadN H17 D8_9 (pc' := 10) rfl rfl rfl ?_
    refine G.ldcS H17 trivial (wS V) (wd43 V) (by decide) (vs := [(.int 67), (.int 79), (.int 78), (.int 78), (.int 69), (.int 67), (.int 84), (.int 69), (.int 68)]) (z := 9) (by decide) (by decide) rfl (n := 36) (by decide) (by decide) (by decide) (by decide) D8_10 (pc' := 12) rfl ?_
    intro T19 h19_ a20 b22 k23 H19 E21 X24 F25 F26 A27 Q28
    have S29 : Str Z h19_ a20 b22 k23 [67, 79, 78, 78, 69, 67, 84, 69, 68] := ⟨X24, F25, F26, A27, by decide, by decide⟩
    have F30 := (Str.ext E21 F12)
    refine G.strEq H19 (strwEq V) (wd7 V) (wd32 V) (wd33 V) (wd35 V) (wd34 V) F30 S29 (hv0 V) (hv1 V) (rest := []) (W := 0) rfl rfl D8_12 (pc' := 15) rfl (by decide) (by decide) (by decide) (by decide) ?_ ?_
    ·
      intro T31 H32 c33
      exact absurd (List.cons.inj (List.cons.inj (List.cons.inj (List.cons.inj (List.cons.inj (List.cons.inj (List.cons.inj (List.cons.inj (List.cons.inj c33).2).2).2).2).2).2).2).2).1 cc9
    ·
      intro T34 H35 c36
      refine G.ifNo H35 D8_15 (pc' := 18) rfl (by decide) ?_
      refine G.iconst H35 D8_18 (pc' := 19) rfl (v := 1) rfl ?_
      refine G.goto H35 D8_19 (by decide) (pc' := 23) rfl ?_
      have K37 : Keep h0 h19_ [] := (Keep.ext (Keep.ext (Keep.refl h0 []) E3) E21)
      exact G.retN H35 (t := .boolean) rfl (by decide) D8_23 (so := []) all0 (by decide) (by decide) ⟨c36, rfl, rfl, K37⟩
set_option maxRecDepth 65536 in
set_option maxHeartbeats 40000000 in
theorem cut86_101 (V : Env1 Z a0 n0 uu0 uu1) (x90101 : Int32) (x70000 : Int32) (x70001 : Int32) (x70002 : Int32) (x70003 : Int32) (x2 : Int32) (x70007 : Int32) (p0 : Addr) (c0 : ClassId) (e0 : Int32) (e1 : Int32) (e2 : Int32) (e3 : Int32) (e4 : Int32) (e5 : Int32) (e6 : Int32) (e7 : Int32) (e8 : Int32) (e9 : Int32) (x3 : Int32) (H : Hs p l e room_1 s m as' below meth c Z a0 ELs True x.cls n0 code maxLocals ret x.name T h0 1 10 []) (re0 : ¬ e0 < 0 ∧ ¬ 255 < e0) (qe0 : e0 = 67) (re1 : ¬ e1 < 0 ∧ ¬ 255 < e1) (qe1 : e1 = 79) (re2 : ¬ e2 < 0 ∧ ¬ 255 < e2) (qe2 : e2 = 78) (re3 : ¬ e3 < 0 ∧ ¬ 255 < e3) (qe3 : e3 = 78) (re4 : ¬ e4 < 0 ∧ ¬ 255 < e4) (qe4 : e4 = 69) (re5 : ¬ e5 < 0 ∧ ¬ 255 < e5) (qe5 : e5 = 67) (re6 : ¬ e6 < 0 ∧ ¬ 255 < e6) (qe6 : e6 = 84) (re7 : ¬ e7 < 0 ∧ ¬ 255 < e7) (qe7 : e7 = 69) (re8 : ¬ e8 < 0 ∧ ¬ 255 < e8) (qe8 : e8 = (x2 &&& 255)) (re9 : ¬ e9 < 0 ∧ ¬ 255 < e9) (qe9 : e9 = (x3 &&& 255)) (fA8 : Arv Z h0 p0 c0 .char 10 [(.int e0), (.int e1), (.int e2), (.int e3), (.int e4), (.int e5), (.int e6), (.int e7), (.int e8), (.int e9)] (.int 0)) (sp : x90101 = 0 ∨ x90101 = 1 ∨ x90101 = 2 ∨ x90101 = 3 ∨ x90101 = 4 ∨ x90101 = 5 ∨ x90101 = 6 ∨ x90101 = 7 ∨ x90101 = 8 ∨ x90101 = 9 ∨ x90101 = 10) :
    Go p e below (FinP s below Z ELs True n0 room_1.cells room_1.slots (fun v h so => v = some (.int 1))) (T.setTop (mkF m 101 #[.val (.int x70000), .val (.int x70001), .val (.int x70002), .val (.int x70003), .val (.int x90101), .val (.int 8), .val (.int (x2 &&& 255)), .val (.int x70007), .val (.ref p0), .unset, .unset] [])) := by
  rcases sp with rfl | rfl | rfl | rfl | rfl | rfl | rfl | rfl | rfl | rfl | rfl
  ·
    refine G.aload H at_101 (pc' := 103) rfl rfl rfl ?_
    refine G.iload H at_103 (pc' := 105) rfl rfl ?_
    refine G.callS H (m3_cut V p0 h0 H.old) (wd2 V) (wd3 V) (wd4 V) (wd5 V) (by decide) (argsL := [(.ref p0), (.int 0)]) (rest := []) (W := 0) rfl rfl (lenOf (pd_2) rfl) rfl rfl at_105 (pc' := 108) rfl (by decide) (by decide) (by decide) (by decide) all0 ?_
    intro T1 h1_ v2 s3 H1 Q4
    obtain ⟨a5, a6, k7, rfl, rfl, K8, g9, F10, F11, F12, F13⟩ := Q4
    have na5 : n0 ≤ a5 := Nat.le_trans H.le g9
    show Go p e below _ (T1.setTop (mkF m 108 #[.val (.int x70000), .val (.int x70001), .val (.int x70002), .val (.int x70003), .val (.int 0), .val (.int 8), .val (.int (x2 &&& 255)), .val (.int x70007), .val (.ref p0), .unset, .unset] [(.ref a5)]))
    refine G.astore H1 (L' := #[.val (.int x70000), .val (.int x70001), .val (.int x70002), .val (.int x70003), .val (.int 0), .val (.int 8), .val (.int (x2 &&& 255)), .val (.int x70007), .val (.ref p0), .val (.ref a5), .unset]) at_108 (pc' := 110) rfl rfl rfl ?_
    refine G.iload H1 at_110 (pc' := 112) rfl rfl ?_
    refine G.bipush H1 at_112 (pc' := 114) rfl (v := 7) rfl ?_
    refine G.icmpNo H1 at_114 (pc' := 117) rfl (by decide) ?_
    refine G.iload H1 at_117 (pc' := 119) rfl rfl ?_
    refine G.bipush H1 at_119 (pc' := 121) rfl (v := 9) rfl ?_
    refine G.icmpYes H1 at_121 (by decide) (by decide) (pc' := 147) rfl ?_
    refine G.iconst H1 at_147 (pc' := 148) rfl (v := 0) rfl ?_
    refine G.istore H1 (L' := #[.val (.int x70000), .val (.int x70001), .val (.int x70002), .val (.int x70003), .val (.int 0), .val (.int 8), .val (.int (x2 &&& 255)), .val (.int x70007), .val (.ref p0), .val (.ref a5), .val (.int 0)]) at_148 (pc' := 150) rfl rfl ?_
    refine G.aload H1 at_150 (pc' := 152) rfl rfl rfl ?_
    have S14 : Str Z h1_ a5 a6 k7 [] := ⟨F10, F12, F11, F13, cb0, Nat.le_of_ble_eq_true rfl⟩
    refine G.callS H1 (m4_apply V a5 a6 k7 h1_ H1.old S14) (wd27 V) (wd28 V) (wd29 V) (wd30 V) (by decide) (argsL := [(.ref a5)]) (rest := []) (W := 0) rfl rfl (lenOf (pd_3) rfl) rfl rfl at_152 (pc' := 155) rfl (by decide) (by decide) (by decide) (by decide) (allS (mG (i := 0) rfl) all0) ?_
    intro T15 h15_ v16 s17 H15 Q18
    obtain ⟨rfl, rfl, K19⟩ := Q18
    show Go p e below _ (T15.setTop (mkF m 155 #[.val (.int x70000), .val (.int x70001), .val (.int x70002), .val (.int x70003), .val (.int 0), .val (.int 8), .val (.int (x2 &&& 255)), .val (.int x70007), .val (.ref p0), .val (.ref a5), .val (.int 0)] [(.int 1)]))
    refine G.iload H15 at_155 (pc' := 157) rfl rfl ?_
    refine G.ifNo H15 at_157 (pc' := 160) rfl (by decide) ?_
    refine G.iconst H15 at_160 (pc' := 161) rfl (v := 1) rfl ?_
    refine G.goto H15 at_161 (by decide) (pc' := 165) rfl ?_
    refine G.icmpNo H15 at_165 (pc' := 168) rfl (by decide) ?_
    refine G.iconst H15 at_168 (pc' := 169) rfl (v := 1) rfl ?_
    refine G.goto H15 at_169 (by decide) (pc' := 173) rfl ?_
    exact G.retN H15 (t := .boolean) rfl (by decide) at_173 (so := []) all0 (by decide) (by decide) rfl
  ·
    refine G.aload H at_101 (pc' := 103) rfl rfl rfl ?_
    refine G.iload H at_103 (pc' := 105) rfl rfl ?_
    refine G.callS H (m5_cut V p0 c0 e0 e1 e2 e3 e4 e5 e6 e7 e8 e9 h0 H.old fA8 (own_u16 re0) re0) (wd2 V) (wd3 V) (wd4 V) (wd5 V) (by decide) (argsL := [(.ref p0), (.int 1)]) (rest := []) (W := 0) rfl rfl (lenOf (pd_2) rfl) rfl rfl at_105 (pc' := 108) rfl (by decide) (by decide) (by decide) (by decide) all0 ?_
    intro T20 h20_ v21 s22 H20 Q23
    obtain ⟨a24, a25, k26, rfl, rfl, K27, g28, g29, F30⟩ := Q23
    have na24 : n0 ≤ a24 := Nat.le_trans H.le g28
    have na25 : n0 ≤ a25 := Nat.le_trans H.le (Nat.le_of_lt (Nat.lt_of_le_of_lt g28 g29))
    show Go p e below _ (T20.setTop (mkF m 108 #[.val (.int x70000), .val (.int x70001), .val (.int x70002), .val (.int x70003), .val (.int 1), .val (.int 8), .val (.int (x2 &&& 255)), .val (.int x70007), .val (.ref p0), .unset, .unset] [(.ref a24)]))
    refine G.astore H20 (L' := #[.val (.int x70000), .val (.int x70001), .val (.int x70002), .val (.int x70003), .val (.int 1), .val (.int 8), .val (.int (x2 &&& 255)), .val (.int x70007), .val (.ref p0), .val (.ref a24), .unset]) at_108 (pc' := 110) rfl rfl rfl ?_
    refine G.iload H20 at_110 (pc' := 112) rfl rfl ?_
    refine G.bipush H20 at_112 (pc' := 114) rfl (v := 7) rfl ?_
    refine G.icmpNo H20 at_114 (pc' := 117) rfl (by decide) ?_
    refine G.iload H20 at_117 (pc' := 119) rfl rfl ?_
    refine G.bipush H20 at_119 (pc' := 121) rfl (v := 9) rfl ?_
    refine G.icmpYes H20 at_121 (by decide) (by decide) (pc' := 147) rfl ?_
    refine G.iconst H20 at_147 (pc' := 148) rfl (v := 0) rfl ?_
    refine G.istore H20 (L' := #[.val (.int x70000), .val (.int x70001), .val (.int x70002), .val (.int x70003), .val (.int 1), .val (.int 8), .val (.int (x2 &&& 255)), .val (.int x70007), .val (.ref p0), .val (.ref a24), .val (.int 0)]) at_148 (pc' := 150) rfl rfl ?_
    refine G.aload H20 at_150 (pc' := 152) rfl rfl rfl ?_
    refine G.callS H20 (m6_apply V a24 a25 k26 e0 h20_ H20.old F30) (wd27 V) (wd28 V) (wd29 V) (wd30 V) (by decide) (argsL := [(.ref a24)]) (rest := []) (W := 0) rfl rfl (lenOf (pd_3) rfl) rfl rfl at_152 (pc' := 155) rfl (by decide) (by decide) (by decide) (by decide) (allS (mG (i := 0) rfl) (allS (mG (i := 1) rfl) all0)) ?_
    intro T31 h31_ v32 s33 H31 Q34
    obtain ⟨rfl, rfl, K35⟩ := Q34
    show Go p e below _ (T31.setTop (mkF m 155 #[.val (.int x70000), .val (.int x70001), .val (.int x70002), .val (.int x70003), .val (.int 1), .val (.int 8), .val (.int (x2 &&& 255)), .val (.int x70007), .val (.ref p0), .val (.ref a24), .val (.int 0)] [(.int 1)]))
    refine G.iload H31 at_155 (pc' := 157) rfl rfl ?_
    refine G.ifNo H31 at_157 (pc' := 160) rfl (by decide) ?_
    refine G.iconst H31 at_160 (pc' := 161) rfl (v := 1) rfl ?_
    refine G.goto H31 at_161 (by decide) (pc' := 165) rfl ?_
    refine G.icmpNo H31 at_165 (pc' := 168) rfl (by decide) ?_
    refine G.iconst H31 at_168 (pc' := 169) rfl (v := 1) rfl ?_
    refine G.goto H31 at_169 (by decide) (pc' := 173) rfl ?_
    exact G.retN H31 (t := .boolean) rfl (by decide) at_173 (so := []) all0 (by decide) (by decide) rfl
  ·
    refine G.aload H at_101 (pc' := 103) rfl rfl rfl ?_
    refine G.iload H at_103 (pc' := 105) rfl rfl ?_
    refine G.callS H (m7_cut V p0 c0 e0 e1 e2 e3 e4 e5 e6 e7 e8 e9 h0 H.old fA8 (own_u16 re0) (own_u16 re1) re1 re0) (wd2 V) (wd3 V) (wd4 V) (wd5 V) (by decide) (argsL := [(.ref p0), (.int 2)]) (rest := []) (W := 0) rfl rfl (lenOf (pd_2) rfl) rfl rfl at_105 (pc' := 108) rfl (by decide) (by decide) (by decide) (by decide) all0 ?_
    intro T36 h36_ v37 s38 H36 Q39
    obtain ⟨a40, a41, k42, rfl, rfl, K43, g44, g45, F46⟩ := Q39
    have na40 : n0 ≤ a40 := Nat.le_trans H.le g44
    have na41 : n0 ≤ a41 := Nat.le_trans H.le (Nat.le_of_lt (Nat.lt_of_le_of_lt g44 g45))
    show Go p e below _ (T36.setTop (mkF m 108 #[.val (.int x70000), .val (.int x70001), .val (.int x70002), .val (.int x70003), .val (.int 2), .val (.int 8), .val (.int (x2 &&& 255)), .val (.int x70007), .val (.ref p0), .unset, .unset] [(.ref a40)]))
    refine G.astore H36 (L' := #[.val (.int x70000), .val (.int x70001), .val (.int x70002), .val (.int x70003), .val (.int 2), .val (.int 8), .val (.int (x2 &&& 255)), .val (.int x70007), .val (.ref p0), .val (.ref a40), .unset]) at_108 (pc' := 110) rfl rfl rfl ?_
    refine G.iload H36 at_110 (pc' := 112) rfl rfl ?_
    refine G.bipush H36 at_112 (pc' := 114) rfl (v := 7) rfl ?_
    refine G.icmpNo H36 at_114 (pc' := 117) rfl (by decide) ?_
    refine G.iload H36 at_117 (pc' := 119) rfl rfl ?_
    refine G.bipush H36 at_119 (pc' := 121) rfl (v := 9) rfl ?_
    refine G.icmpYes H36 at_121 (by decide) (by decide) (pc' := 147) rfl ?_
    refine G.iconst H36 at_147 (pc' := 148) rfl (v := 0) rfl ?_
    refine G.istore H36 (L' := #[.val (.int x70000), .val (.int x70001), .val (.int x70002), .val (.int x70003), .val (.int 2), .val (.int 8), .val (.int (x2 &&& 255)), .val (.int x70007), .val (.ref p0), .val (.ref a40), .val (.int 0)]) at_148 (pc' := 150) rfl rfl ?_
    refine G.aload H36 at_150 (pc' := 152) rfl rfl rfl ?_
    refine G.callS H36 (m8_apply V a40 a41 k42 e0 e1 h36_ H36.old F46) (wd27 V) (wd28 V) (wd29 V) (wd30 V) (by decide) (argsL := [(.ref a40)]) (rest := []) (W := 0) rfl rfl (lenOf (pd_3) rfl) rfl rfl at_152 (pc' := 155) rfl (by decide) (by decide) (by decide) (by decide) (allS (mG (i := 0) rfl) (allS (mG (i := 1) rfl) all0)) ?_
    intro T47 h47_ v48 s49 H47 Q50
    obtain ⟨rfl, rfl, K51⟩ := Q50
    show Go p e below _ (T47.setTop (mkF m 155 #[.val (.int x70000), .val (.int x70001), .val (.int x70002), .val (.int x70003), .val (.int 2), .val (.int 8), .val (.int (x2 &&& 255)), .val (.int x70007), .val (.ref p0), .val (.ref a40), .val (.int 0)] [(.int 1)]))
    refine G.iload H47 at_155 (pc' := 157) rfl rfl ?_
    refine G.ifNo H47 at_157 (pc' := 160) rfl (by decide) ?_
    refine G.iconst H47 at_160 (pc' := 161) rfl (v := 1) rfl ?_
    refine G.goto H47 at_161 (by decide) (pc' := 165) rfl ?_
    refine G.icmpNo H47 at_165 (pc' := 168) rfl (by decide) ?_
    refine G.iconst H47 at_168 (pc' := 169) rfl (v := 1) rfl ?_
    refine G.goto H47 at_169 (by decide) (pc' := 173) rfl ?_
    exact G.retN H47 (t := .boolean) rfl (by decide) at_173 (so := []) all0 (by decide) (by decide) rfl
  ·
    refine G.aload H at_101 (pc' := 103) rfl rfl rfl ?_
    refine G.iload H at_103 (pc' := 105) rfl rfl ?_
    refine G.callS H (m9_cut V p0 c0 e0 e1 e2 e3 e4 e5 e6 e7 e8 e9 h0 H.old fA8 (own_u16 re0) (own_u16 re1) (own_u16 re2) re2 re1 re0) (wd2 V) (wd3 V) (wd4 V) (wd5 V) (by decide) (argsL := [(.ref p0), (.int 3)]) (rest := []) (W := 0) rfl rfl (lenOf (pd_2) rfl) rfl rfl at_105 (pc' := 108) rfl (by decide) (by decide) (by decide) (by decide) all0 ?_
    intro T52 h52_ v53 s54 H52 Q55
    obtain ⟨a56, a57, k58, rfl, rfl, K59, g60, g61, F62⟩ := Q55
    have na56 : n0 ≤ a56 := Nat.le_trans H.le g60
    have na57 : n0 ≤ a57 := Nat.le_trans H.le (Nat.le_of_lt (Nat.lt_of_le_of_lt g60 g61))
    show Go p e below _ (T52.setTop (mkF m 108 #[.val (.int x70000), .val (.int x70001), .val (.int x70002), .val (.int x70003), .val (.int 3), .val (.int 8), .val (.int (x2 &&& 255)), .val (.int x70007), .val (.ref p0), .unset, .unset] [(.ref a56)]))
    refine G.astore H52 (L' := #[.val (.int x70000), .val (.int x70001), .val (.int x70002), .val (.int x70003), .val (.int 3), .val (.int 8), .val (.int (x2 &&& 255)), .val (.int x70007), .val (.ref p0), .val (.ref a56), .unset]) at_108 (pc' := 110) rfl rfl rfl ?_
    refine G.iload H52 at_110 (pc' := 112) rfl rfl ?_
    refine G.bipush H52 at_112 (pc' := 114) rfl (v := 7) rfl ?_
    refine G.icmpNo H52 at_114 (pc' := 117) rfl (by decide) ?_
    refine G.iload H52 at_117 (pc' := 119) rfl rfl ?_
    refine G.bipush H52 at_119 (pc' := 121) rfl (v := 9) rfl ?_
    refine G.icmpYes H52 at_121 (by decide) (by decide) (pc' := 147) rfl ?_
    refine G.iconst H52 at_147 (pc' := 148) rfl (v := 0) rfl ?_
    refine G.istore H52 (L' := #[.val (.int x70000), .val (.int x70001), .val (.int x70002), .val (.int x70003), .val (.int 3), .val (.int 8), .val (.int (x2 &&& 255)), .val (.int x70007), .val (.ref p0), .val (.ref a56), .val (.int 0)]) at_148 (pc' := 150) rfl rfl ?_
    refine G.aload H52 at_150 (pc' := 152) rfl rfl rfl ?_
    refine G.callS H52 (m10_apply V a56 a57 k58 e0 e1 e2 h52_ H52.old F62) (wd27 V) (wd28 V) (wd29 V) (wd30 V) (by decide) (argsL := [(.ref a56)]) (rest := []) (W := 0) rfl rfl (lenOf (pd_3) rfl) rfl rfl at_152 (pc' := 155) rfl (by decide) (by decide) (by decide) (by decide) (allS (mG (i := 0) rfl) (allS (mG (i := 1) rfl) all0)) ?_
    intro T63 h63_ v64 s65 H63 Q66
    obtain ⟨rfl, rfl, K67⟩ := Q66
    show Go p e below _ (T63.setTop (mkF m 155 #[.val (.int x70000), .val (.int x70001), .val (.int x70002), .val (.int x70003), .val (.int 3), .val (.int 8), .val (.int (x2 &&& 255)), .val (.int x70007), .val (.ref p0), .val (.ref a56), .val (.int 0)] [(.int 1)]))
    refine G.iload H63 at_155 (pc' := 157) rfl rfl ?_
    refine G.ifNo H63 at_157 (pc' := 160) rfl (by decide) ?_
    refine G.iconst H63 at_160 (pc' := 161) rfl (v := 1) rfl ?_
    refine G.goto H63 at_161 (by decide) (pc' := 165) rfl ?_
    refine G.icmpNo H63 at_165 (pc' := 168) rfl (by decide) ?_
    refine G.iconst H63 at_168 (pc' := 169) rfl (v := 1) rfl ?_
    refine G.goto H63 at_169 (by decide) (pc' := 173) rfl ?_
    exact G.retN H63 (t := .boolean) rfl (by decide) at_173 (so := []) all0 (by decide) (by decide) rfl
  ·
    refine G.aload H at_101 (pc' := 103) rfl rfl rfl ?_
    refine G.iload H at_103 (pc' := 105) rfl rfl ?_
    refine G.callS H (m11_cut V p0 c0 e0 e1 e2 e3 e4 e5 e6 e7 e8 e9 h0 H.old fA8 (own_u16 re0) (own_u16 re1) (own_u16 re2) (own_u16 re3) re3 re2 re1 re0) (wd2 V) (wd3 V) (wd4 V) (wd5 V) (by decide) (argsL := [(.ref p0), (.int 4)]) (rest := []) (W := 0) rfl rfl (lenOf (pd_2) rfl) rfl rfl at_105 (pc' := 108) rfl (by decide) (by decide) (by decide) (by decide) all0 ?_
    intro T68 h68_ v69 s70 H68 Q71
    obtain ⟨a72, a73, k74, rfl, rfl, K75, g76, g77, F78⟩ := Q71
    have na72 : n0 ≤ a72 := Nat.le_trans H.le g76
    have na73 : n0 ≤ a73 := Nat.le_trans H.le (Nat.le_of_lt (Nat.lt_of_le_of_lt g76 g77))
    show Go p e below _ (T68.setTop (mkF m 108 #[.val (.int x70000), .val (.int x70001), .val (.int x70002), .val (.int x70003), .val (.int 4), .val (.int 8), .val (.int (x2 &&& 255)), .val (.int x70007), .val (.ref p0), .unset, .unset] [(.ref a72)]))
    refine G.astore H68 (L' := #[.val (.int x70000), .val (.int x70001), .val (.int x70002), .val (.int x70003), .val (.int 4), .val (.int 8), .val (.int (x2 &&& 255)), .val (.int x70007), .val (.ref p0), .val (.ref a72), .unset]) at_108 (pc' := 110) rfl rfl rfl ?_
    refine G.iload H68 at_110 (pc' := 112) rfl rfl ?_
    refine G.bipush H68 at_112 (pc' := 114) rfl (v := 7) rfl ?_
    refine G.icmpNo H68 at_114 (pc' := 117) rfl (by decide) ?_
    refine G.iload H68 at_117 (pc' := 119) rfl rfl ?_
    refine G.bipush H68 at_119 (pc' := 121) rfl (v := 9) rfl ?_
    refine G.icmpYes H68 at_121 (by decide) (by decide) (pc' := 147) rfl ?_
    refine G.iconst H68 at_147 (pc' := 148) rfl (v := 0) rfl ?_
    refine G.istore H68 (L' := #[.val (.int x70000), .val (.int x70001), .val (.int x70002), .val (.int x70003), .val (.int 4), .val (.int 8), .val (.int (x2 &&& 255)), .val (.int x70007), .val (.ref p0), .val (.ref a72), .val (.int 0)]) at_148 (pc' := 150) rfl rfl ?_
    refine G.aload H68 at_150 (pc' := 152) rfl rfl rfl ?_
    refine G.callS H68 (m12_apply V a72 a73 k74 e0 e1 e2 e3 h68_ H68.old F78) (wd27 V) (wd28 V) (wd29 V) (wd30 V) (by decide) (argsL := [(.ref a72)]) (rest := []) (W := 0) rfl rfl (lenOf (pd_3) rfl) rfl rfl at_152 (pc' := 155) rfl (by decide) (by decide) (by decide) (by decide) (allS (mG (i := 0) rfl) (allS (mG (i := 1) rfl) all0)) ?_
    intro T79 h79_ v80 s81 H79 Q82
    obtain ⟨rfl, rfl, K83⟩ := Q82
    show Go p e below _ (T79.setTop (mkF m 155 #[.val (.int x70000), .val (.int x70001), .val (.int x70002), .val (.int x70003), .val (.int 4), .val (.int 8), .val (.int (x2 &&& 255)), .val (.int x70007), .val (.ref p0), .val (.ref a72), .val (.int 0)] [(.int 1)]))
    refine G.iload H79 at_155 (pc' := 157) rfl rfl ?_
    refine G.ifNo H79 at_157 (pc' := 160) rfl (by decide) ?_
    refine G.iconst H79 at_160 (pc' := 161) rfl (v := 1) rfl ?_
    refine G.goto H79 at_161 (by decide) (pc' := 165) rfl ?_
    refine G.icmpNo H79 at_165 (pc' := 168) rfl (by decide) ?_
    refine G.iconst H79 at_168 (pc' := 169) rfl (v := 1) rfl ?_
    refine G.goto H79 at_169 (by decide) (pc' := 173) rfl ?_
    exact G.retN H79 (t := .boolean) rfl (by decide) at_173 (so := []) all0 (by decide) (by decide) rfl
  ·
    refine G.aload H at_101 (pc' := 103) rfl rfl rfl ?_
    refine G.iload H at_103 (pc' := 105) rfl rfl ?_
    refine G.callS H (m13_cut V p0 c0 e0 e1 e2 e3 e4 e5 e6 e7 e8 e9 h0 H.old fA8 (own_u16 re0) (own_u16 re1) (own_u16 re2) (own_u16 re3) (own_u16 re4) re4 re3 re2 re1 re0) (wd2 V) (wd3 V) (wd4 V) (wd5 V) (by decide) (argsL := [(.ref p0), (.int 5)]) (rest := []) (W := 0) rfl rfl (lenOf (pd_2) rfl) rfl rfl at_105 (pc' := 108) rfl (by decide) (by decide) (by decide) (by decide) all0 ?_
    intro T84 h84_ v85 s86 H84 Q87
    obtain ⟨a88, a89, k90, rfl, rfl, K91, g92, g93, F94⟩ := Q87
    have na88 : n0 ≤ a88 := Nat.le_trans H.le g92
    have na89 : n0 ≤ a89 := Nat.le_trans H.le (Nat.le_of_lt (Nat.lt_of_le_of_lt g92 g93))
    show Go p e below _ (T84.setTop (mkF m 108 #[.val (.int x70000), .val (.int x70001), .val (.int x70002), .val (.int x70003), .val (.int 5), .val (.int 8), .val (.int (x2 &&& 255)), .val (.int x70007), .val (.ref p0), .unset, .unset] [(.ref a88)]))
    refine G.astore H84 (L' := #[.val (.int x70000), .val (.int x70001), .val (.int x70002), .val (.int x70003), .val (.int 5), .val (.int 8), .val (.int (x2 &&& 255)), .val (.int x70007), .val (.ref p0), .val (.ref a88), .unset]) at_108 (pc' := 110) rfl rfl rfl ?_
    refine G.iload H84 at_110 (pc' := 112) rfl rfl ?_
    refine G.bipush H84 at_112 (pc' := 114) rfl (v := 7) rfl ?_
    refine G.icmpNo H84 at_114 (pc' := 117) rfl (by decide) ?_
    refine G.iload H84 at_117 (pc' := 119) rfl rfl ?_
    refine G.bipush H84 at_119 (pc' := 121) rfl (v := 9) rfl ?_
    refine G.icmpYes H84 at_121 (by decide) (by decide) (pc' := 147) rfl ?_
    refine G.iconst H84 at_147 (pc' := 148) rfl (v := 0) rfl ?_
    refine G.istore H84 (L' := #[.val (.int x70000), .val (.int x70001), .val (.int x70002), .val (.int x70003), .val (.int 5), .val (.int 8), .val (.int (x2 &&& 255)), .val (.int x70007), .val (.ref p0), .val (.ref a88), .val (.int 0)]) at_148 (pc' := 150) rfl rfl ?_
    refine G.aload H84 at_150 (pc' := 152) rfl rfl rfl ?_
    refine G.callS H84 (m14_apply V a88 a89 k90 e0 e1 e2 e3 e4 h84_ H84.old F94) (wd27 V) (wd28 V) (wd29 V) (wd30 V) (by decide) (argsL := [(.ref a88)]) (rest := []) (W := 0) rfl rfl (lenOf (pd_3) rfl) rfl rfl at_152 (pc' := 155) rfl (by decide) (by decide) (by decide) (by decide) (allS (mG (i := 0) rfl) (allS (mG (i := 1) rfl) all0)) ?_
    intro T95 h95_ v96 s97 H95 Q98
    obtain ⟨rfl, rfl, K99⟩ := Q98
    show Go p e below _ (T95.setTop (mkF m 155 #[.val (.int x70000), .val (.int x70001), .val (.int x70002), .val (.int x70003), .val (.int 5), .val (.int 8), .val (.int (x2 &&& 255)), .val (.int x70007), .val (.ref p0), .val (.ref a88), .val (.int 0)] [(.int 1)]))
    refine G.iload H95 at_155 (pc' := 157) rfl rfl ?_
    refine G.ifNo H95 at_157 (pc' := 160) rfl (by decide) ?_
    refine G.iconst H95 at_160 (pc' := 161) rfl (v := 1) rfl ?_
    refine G.goto H95 at_161 (by decide) (pc' := 165) rfl ?_
    refine G.icmpNo H95 at_165 (pc' := 168) rfl (by decide) ?_
    refine G.iconst H95 at_168 (pc' := 169) rfl (v := 1) rfl ?_
    refine G.goto H95 at_169 (by decide) (pc' := 173) rfl ?_
    exact G.retN H95 (t := .boolean) rfl (by decide) at_173 (so := []) all0 (by decide) (by decide) rfl
  ·
    refine G.aload H at_101 (pc' := 103) rfl rfl rfl ?_
    refine G.iload H at_103 (pc' := 105) rfl rfl ?_
    refine G.callS H (m15_cut V p0 c0 e0 e1 e2 e3 e4 e5 e6 e7 e8 e9 h0 H.old fA8 (own_u16 re0) (own_u16 re1) (own_u16 re2) (own_u16 re3) (own_u16 re4) (own_u16 re5) re5 re4 re3 re2 re1 re0) (wd2 V) (wd3 V) (wd4 V) (wd5 V) (by decide) (argsL := [(.ref p0), (.int 6)]) (rest := []) (W := 0) rfl rfl (lenOf (pd_2) rfl) rfl rfl at_105 (pc' := 108) rfl (by decide) (by decide) (by decide) (by decide) all0 ?_
    intro T100 h100_ v101 s102 H100 Q103
    obtain ⟨a104, a105, k106, rfl, rfl, K107, g108, g109, F110⟩ := Q103
    have na104 : n0 ≤ a104 := Nat.le_trans H.le g108
    have na105 : n0 ≤ a105 := Nat.le_trans H.le (Nat.le_of_lt (Nat.lt_of_le_of_lt g108 g109))
    show Go p e below _ (T100.setTop (mkF m 108 #[.val (.int x70000), .val (.int x70001), .val (.int x70002), .val (.int x70003), .val (.int 6), .val (.int 8), .val (.int (x2 &&& 255)), .val (.int x70007), .val (.ref p0), .unset, .unset] [(.ref a104)]))
    refine G.astore H100 (L' := #[.val (.int x70000), .val (.int x70001), .val (.int x70002), .val (.int x70003), .val (.int 6), .val (.int 8), .val (.int (x2 &&& 255)), .val (.int x70007), .val (.ref p0), .val (.ref a104), .unset]) at_108 (pc' := 110) rfl rfl rfl ?_
    refine G.iload H100 at_110 (pc' := 112) rfl rfl ?_
    refine G.bipush H100 at_112 (pc' := 114) rfl (v := 7) rfl ?_
    refine G.icmpNo H100 at_114 (pc' := 117) rfl (by decide) ?_
    refine G.iload H100 at_117 (pc' := 119) rfl rfl ?_
    refine G.bipush H100 at_119 (pc' := 121) rfl (v := 9) rfl ?_
    refine G.icmpYes H100 at_121 (by decide) (by decide) (pc' := 147) rfl ?_
    refine G.iconst H100 at_147 (pc' := 148) rfl (v := 0) rfl ?_
    refine G.istore H100 (L' := #[.val (.int x70000), .val (.int x70001), .val (.int x70002), .val (.int x70003), .val (.int 6), .val (.int 8), .val (.int (x2 &&& 255)), .val (.int x70007), .val (.ref p0), .val (.ref a104), .val (.int 0)]) at_148 (pc' := 150) rfl rfl ?_
    refine G.aload H100 at_150 (pc' := 152) rfl rfl rfl ?_
    refine G.callS H100 (m16_apply V a104 a105 k106 e0 e1 e2 e3 e4 e5 h100_ H100.old F110) (wd27 V) (wd28 V) (wd29 V) (wd30 V) (by decide) (argsL := [(.ref a104)]) (rest := []) (W := 0) rfl rfl (lenOf (pd_3) rfl) rfl rfl at_152 (pc' := 155) rfl (by decide) (by decide) (by decide) (by decide) (allS (mG (i := 0) rfl) (allS (mG (i := 1) rfl) all0)) ?_
    intro T111 h111_ v112 s113 H111 Q114
    obtain ⟨rfl, rfl, K115⟩ := Q114
    show Go p e below _ (T111.setTop (mkF m 155 #[.val (.int x70000), .val (.int x70001), .val (.int x70002), .val (.int x70003), .val (.int 6), .val (.int 8), .val (.int (x2 &&& 255)), .val (.int x70007), .val (.ref p0), .val (.ref a104), .val (.int 0)] [(.int 1)]))
    refine G.iload H111 at_155 (pc' := 157) rfl rfl ?_
    refine G.ifNo H111 at_157 (pc' := 160) rfl (by decide) ?_
    refine G.iconst H111 at_160 (pc' := 161) rfl (v := 1) rfl ?_
    refine G.goto H111 at_161 (by decide) (pc' := 165) rfl ?_
    refine G.icmpNo H111 at_165 (pc' := 168) rfl (by decide) ?_
    refine G.iconst H111 at_168 (pc' := 169) rfl (v := 1) rfl ?_
    refine G.goto H111 at_169 (by decide) (pc' := 173) rfl ?_
    exact G.retN H111 (t := .boolean) rfl (by decide) at_173 (so := []) all0 (by decide) (by decide) rfl
  ·
    refine G.aload H at_101 (pc' := 103) rfl rfl rfl ?_
    refine G.iload H at_103 (pc' := 105) rfl rfl ?_
    refine G.callS H (m17_cut V p0 c0 e0 e1 e2 e3 e4 e5 e6 e7 e8 e9 h0 H.old fA8 (own_u16 re0) (own_u16 re1) (own_u16 re2) (own_u16 re3) (own_u16 re4) (own_u16 re5) (own_u16 re6) re6 re5 re4 re3 re2 re1 re0) (wd2 V) (wd3 V) (wd4 V) (wd5 V) (by decide) (argsL := [(.ref p0), (.int 7)]) (rest := []) (W := 0) rfl rfl (lenOf (pd_2) rfl) rfl rfl at_105 (pc' := 108) rfl (by decide) (by decide) (by decide) (by decide) all0 ?_
    intro T116 h116_ v117 s118 H116 Q119
    obtain ⟨a120, a121, k122, rfl, rfl, K123, g124, g125, F126⟩ := Q119
    have na120 : n0 ≤ a120 := Nat.le_trans H.le g124
    have na121 : n0 ≤ a121 := Nat.le_trans H.le (Nat.le_of_lt (Nat.lt_of_le_of_lt g124 g125))
    show Go p e below _ (T116.setTop (mkF m 108 #[.val (.int x70000), .val (.int x70001), .val (.int x70002), .val (.int x70003), .val (.int 7), .val (.int 8), .val (.int (x2 &&& 255)), .val (.int x70007), .val (.ref p0), .unset, .unset] [(.ref a120)]))
    refine G.astore H116 (L' := #[.val (.int x70000), .val (.int x70001), .val (.int x70002), .val (.int x70003), .val (.int 7), .val (.int 8), .val (.int (x2 &&& 255)), .val (.int x70007), .val (.ref p0), .val (.ref a120), .unset]) at_108 (pc' := 110) rfl rfl rfl ?_
    refine G.iload H116 at_110 (pc' := 112) rfl rfl ?_
    refine G.bipush H116 at_112 (pc' := 114) rfl (v := 7) rfl ?_
    refine G.icmpYes H116 at_114 (by decide) (by decide) (pc' := 124) rfl ?_
    refine G.iload H116 at_124 (pc' := 126) rfl rfl ?_
    refine G.iload H116 at_126 (pc' := 128) rfl rfl ?_
    refine G.icmpYes H116 at_128 (by decide) (by decide) (pc' := 143) rfl ?_
    refine G.iconst H116 at_143 (pc' := 144) rfl (v := 1) rfl ?_
    refine G.goto H116 at_144 (by decide) (pc' := 148) rfl ?_
    refine G.istore H116 (L' := #[.val (.int x70000), .val (.int x70001), .val (.int x70002), .val (.int x70003), .val (.int 7), .val (.int 8), .val (.int (x2 &&& 255)), .val (.int x70007), .val (.ref p0), .val (.ref a120), .val (.int 1)]) at_148 (pc' := 150) rfl rfl ?_
    refine G.aload H116 at_150 (pc' := 152) rfl rfl rfl ?_
    refine G.callS H116 (m23_apply V a120 a121 k122 e0 e1 e2 e3 e4 e5 e6 h116_ H116.old F126 qe0 qe1 qe2 qe3 qe4 qe5 qe6) (wd27 V) (wd28 V) (wd29 V) (wd30 V) (by decide) (argsL := [(.ref a120)]) (rest := []) (W := 0) rfl rfl (lenOf (pd_3) rfl) rfl rfl at_152 (pc' := 155) rfl (by decide) (by decide) (by decide) (by decide) all0 ?_
    intro T127 h127_ v128 s129 H127 Q130
    obtain ⟨c131, rfl, rfl, K132⟩ := Q130
    show Go p e below _ (T127.setTop (mkF m 155 #[.val (.int x70000), .val (.int x70001), .val (.int x70002), .val (.int x70003), .val (.int 7), .val (.int 8), .val (.int (x2 &&& 255)), .val (.int x70007), .val (.ref p0), .val (.ref a120), .val (.int 1)] [(.int 0)]))
    refine G.iload H127 at_155 (pc' := 157) rfl rfl ?_
    refine G.ifYes H127 at_157 (by decide) (by decide) (pc' := 164) rfl ?_
    refine G.iconst H127 at_164 (pc' := 165) rfl (v := 0) rfl ?_
    refine G.icmpNo H127 at_165 (pc' := 168) rfl (by decide) ?_
    refine G.iconst H127 at_168 (pc' := 169) rfl (v := 1) rfl ?_
    refine G.goto H127 at_169 (by decide) (pc' := 173) rfl ?_
    exact G.retN H127 (t := .boolean) rfl (by decide) at_173 (so := []) all0 (by decide) (by decide) rfl
  ·
    refine G.aload H at_101 (pc' := 103) rfl rfl rfl ?_
    refine G.iload H at_103 (pc' := 105) rfl rfl ?_
    refine G.callS H (m25_cut V p0 c0 e0 e1 e2 e3 e4 e5 e6 e7 e8 e9 h0 H.old fA8 (own_u16 re0) (own_u16 re1) (own_u16 re2) (own_u16 re3) (own_u16 re4) (own_u16 re5) (own_u16 re6) (own_u16 re7) re7 re6 re5 re4 re3 re2 re1 re0) (wd2 V) (wd3 V) (wd4 V) (wd5 V) (by decide) (argsL := [(.ref p0), (.int 8)]) (rest := []) (W := 0) rfl rfl (lenOf (pd_2) rfl) rfl rfl at_105 (pc' := 108) rfl (by decide) (by decide) (by decide) (by decide) all0 ?_
    intro T133 h133_ v134 s135 H133 Q136
    obtain ⟨a137, a138, k139, rfl, rfl, K140, g141, g142, F143⟩ := Q136
    have na137 : n0 ≤ a137 := Nat.le_trans H.le g141
    have na138 : n0 ≤ a138 := Nat.le_trans H.le (Nat.le_of_lt (Nat.lt_of_le_of_lt g141 g142))
    show Go p e below _ (T133.setTop (mkF m 108 #[.val (.int x70000), .val (.int x70001), .val (.int x70002), .val (.int x70003), .val (.int 8), .val (.int 8), .val (.int (x2 &&& 255)), .val (.int x70007), .val (.ref p0), .unset, .unset] [(.ref a137)]))
    refine G.astore H133 (L' := #[.val (.int x70000), .val (.int x70001), .val (.int x70002), .val (.int x70003), .val (.int 8), .val (.int 8), .val (.int (x2 &&& 255)), .val (.int x70007), .val (.ref p0), .val (.ref a137), .unset]) at_108 (pc' := 110) rfl rfl rfl ?_
    refine G.iload H133 at_110 (pc' := 112) rfl rfl ?_
    refine G.bipush H133 at_112 (pc' := 114) rfl (v := 7) rfl ?_
    refine G.icmpNo H133 at_114 (pc' := 117) rfl (by decide) ?_
    refine G.iload H133 at_117 (pc' := 119) rfl rfl ?_
    refine G.bipush H133 at_119 (pc' := 121) rfl (v := 9) rfl ?_
    refine G.icmpYes H133 at_121 (by decide) (by decide) (pc' := 147) rfl ?_
    refine G.iconst H133 at_147 (pc' := 148) rfl (v := 0) rfl ?_
    refine G.istore H133 (L' := #[.val (.int x70000), .val (.int x70001), .val (.int x70002), .val (.int x70003), .val (.int 8), .val (.int 8), .val (.int (x2 &&& 255)), .val (.int x70007), .val (.ref p0), .val (.ref a137), .val (.int 0)]) at_148 (pc' := 150) rfl rfl ?_
    refine G.aload H133 at_150 (pc' := 152) rfl rfl rfl ?_
    refine G.callS H133 (m26_apply V a137 a138 k139 e0 e1 e2 e3 e4 e5 e6 e7 h133_ H133.old F143) (wd27 V) (wd28 V) (wd29 V) (wd30 V) (by decide) (argsL := [(.ref a137)]) (rest := []) (W := 0) rfl rfl (lenOf (pd_3) rfl) rfl rfl at_152 (pc' := 155) rfl (by decide) (by decide) (by decide) (by decide) (allS (mG (i := 0) rfl) (allS (mG (i := 1) rfl) all0)) ?_
    intro T144 h144_ v145 s146 H144 Q147
    obtain ⟨rfl, rfl, K148⟩ := Q147
    show Go p e below _ (T144.setTop (mkF m 155 #[.val (.int x70000), .val (.int x70001), .val (.int x70002), .val (.int x70003), .val (.int 8), .val (.int 8), .val (.int (x2 &&& 255)), .val (.int x70007), .val (.ref p0), .val (.ref a137), .val (.int 0)] [(.int 1)]))
    refine G.iload H144 at_155 (pc' := 157) rfl rfl ?_
    refine G.ifNo H144 at_157 (pc' := 160) rfl (by decide) ?_
    refine G.iconst H144 at_160 (pc' := 161) rfl (v := 1) rfl ?_
    refine G.goto H144 at_161 (by decide) (pc' := 165) rfl ?_
    refine G.icmpNo H144 at_165 (pc' := 168) rfl (by decide) ?_
    refine G.iconst H144 at_168 (pc' := 169) rfl (v := 1) rfl ?_
    refine G.goto H144 at_169 (by decide) (pc' := 173) rfl ?_
    exact G.retN H144 (t := .boolean) rfl (by decide) at_173 (so := []) all0 (by decide) (by decide) rfl
  ·
    refine G.aload H at_101 (pc' := 103) rfl rfl rfl ?_
    refine G.iload H at_103 (pc' := 105) rfl rfl ?_
    refine G.callS H (m27_cut V p0 c0 e0 e1 e2 e3 e4 e5 e6 e7 e8 e9 h0 H.old fA8 (own_u16 re0) (own_u16 re1) (own_u16 re2) (own_u16 re3) (own_u16 re4) (own_u16 re5) (own_u16 re6) (own_u16 re7) (own_u16 re8) re8 re7 re6 re5 re4 re3 re2 re1 re0) (wd2 V) (wd3 V) (wd4 V) (wd5 V) (by decide) (argsL := [(.ref p0), (.int 9)]) (rest := []) (W := 0) rfl rfl (lenOf (pd_2) rfl) rfl rfl at_105 (pc' := 108) rfl (by decide) (by decide) (by decide) (by decide) all0 ?_
    intro T149 h149_ v150 s151 H149 Q152
    obtain ⟨a153, a154, k155, rfl, rfl, K156, g157, g158, F159⟩ := Q152
    have na153 : n0 ≤ a153 := Nat.le_trans H.le g157
    have na154 : n0 ≤ a154 := Nat.le_trans H.le (Nat.le_of_lt (Nat.lt_of_le_of_lt g157 g158))
    show Go p e below _ (T149.setTop (mkF m 108 #[.val (.int x70000), .val (.int x70001), .val (.int x70002), .val (.int x70003), .val (.int 9), .val (.int 8), .val (.int (x2 &&& 255)), .val (.int x70007), .val (.ref p0), .unset, .unset] [(.ref a153)]))
    refine G.astore H149 (L' := #[.val (.int x70000), .val (.int x70001), .val (.int x70002), .val (.int x70003), .val (.int 9), .val (.int 8), .val (.int (x2 &&& 255)), .val (.int x70007), .val (.ref p0), .val (.ref a153), .unset]) at_108 (pc' := 110) rfl rfl rfl ?_
    refine G.iload H149 at_110 (pc' := 112) rfl rfl ?_
    refine G.bipush H149 at_112 (pc' := 114) rfl (v := 7) rfl ?_
    refine G.icmpNo H149 at_114 (pc' := 117) rfl (by decide) ?_
    refine G.iload H149 at_117 (pc' := 119) rfl rfl ?_
    refine G.bipush H149 at_119 (pc' := 121) rfl (v := 9) rfl ?_
    refine G.icmpNo H149 at_121 (pc' := 124) rfl (by decide) ?_
    refine G.iload H149 at_124 (pc' := 126) rfl rfl ?_
    refine G.iload H149 at_126 (pc' := 128) rfl rfl ?_
    refine G.icmpNo H149 at_128 (pc' := 131) rfl (by decide) ?_
    refine G.iload H149 at_131 (pc' := 133) rfl rfl ?_
    refine G.ldcS H149 trivial (wS V) (wd54 V) (by decide) (vs := [(.int 67), (.int 79), (.int 78), (.int 78), (.int 69), (.int 67), (.int 84), (.int 69), (.int 68)]) (z := 9) (by decide) (by decide) rfl (n := 36) (by decide) (by decide) (by decide) (by decide) at_133 (pc' := 135) rfl ?_
    intro T160 h160_ a161 b163 k164 H160 E162 X165 F166 F167 A168 Q169
    have S170 : Str Z h160_ a161 b163 k164 [67, 79, 78, 78, 69, 67, 84, 69, 68] := ⟨X165, F166, F167, A168, by decide, by decide⟩
    refine G.iload H160 at_135 (pc' := 137) rfl rfl ?_
    refine G.callV H160 (m84_charAt V a161 b163 k164 h160_ H160.old X165 F166 F167 A168) (wd55 V) (wd56 V) (nf_sel (wd58 V)) (wd58 V) (wd57 V) (wd8 V) (wd59 V) (by decide) X165 (argsL := [(.int 8)]) (rest := [(.int (x2 &&& 255))]) (W := 1) rfl rfl (lenOf (pd_8) rfl) rfl rfl at_137 (pc' := 140) rfl (by decide) (by decide) (by decide) (by decide) all0 ?_
    intro T171 h171_ v172 s173 H171 Q174
    obtain ⟨rfl, rfl, rfl⟩ := Q174
    show Go p e below _ (T171.setTop (mkF m 140 #[.val (.int x70000), .val (.int x70001), .val (.int x70002), .val (.int x70003), .val (.int 9), .val (.int 8), .val (.int (x2 &&& 255)), .val (.int x70007), .val (.ref p0), .val (.ref a153), .unset] [(.int 68), (.int (x2 &&& 255))]))
    by_cases c175 : (x2 &&& 255) = 68
    ·
      refine G.icmpNo H171 at_140 (pc' := 143) rfl (XT.ii_ne_f c175) ?_
      refine G.iconst H171 at_143 (pc' := 144) rfl (v := 1) rfl ?_
      refine G.goto H171 at_144 (by decide) (pc' := 148) rfl ?_
      refine G.istore H171 (L' := #[.val (.int x70000), .val (.int x70001), .val (.int x70002), .val (.int x70003), .val (.int 9), .val (.int 8), .val (.int (x2 &&& 255)), .val (.int x70007), .val (.ref p0), .val (.ref a153), .val (.int 1)]) at_148 (pc' := 150) rfl rfl ?_
      refine G.aload H171 at_150 (pc' := 152) rfl rfl rfl ?_
      have F176 := (Str.ext E162 F159)
      refine G.callS H171 (m28_apply V a153 a154 k155 e0 e1 e2 e3 e4 e5 e6 e7 e8 h160_ H171.old F176 qe0 qe1 qe2 qe3 qe4 qe5 qe6 qe7 (Eq.trans qe8 c175)) (wd27 V) (wd28 V) (wd29 V) (wd30 V) (by decide) (argsL := [(.ref a153)]) (rest := []) (W := 0) rfl rfl (lenOf (pd_3) rfl) rfl rfl at_152 (pc' := 155) rfl (by decide) (by decide) (by decide) (by decide) (allS (mG (i := 0) rfl) (allS (mG (i := 1) rfl) all0)) ?_
      intro T177 h177_ v178 s179 H177 Q180
      obtain ⟨c181, rfl, rfl, K182⟩ := Q180
      show Go p e below _ (T177.setTop (mkF m 155 #[.val (.int x70000), .val (.int x70001), .val (.int x70002), .val (.int x70003), .val (.int 9), .val (.int 8), .val (.int (x2 &&& 255)), .val (.int x70007), .val (.ref p0), .val (.ref a153), .val (.int 1)] [(.int 0)]))
      refine G.iload H177 at_155 (pc' := 157) rfl rfl ?_
      refine G.ifYes H177 at_157 (by decide) (by decide) (pc' := 164) rfl ?_
      refine G.iconst H177 at_164 (pc' := 165) rfl (v := 0) rfl ?_
      refine G.icmpNo H177 at_165 (pc' := 168) rfl (by decide) ?_
      refine G.iconst H177 at_168 (pc' := 169) rfl (v := 1) rfl ?_
      refine G.goto H177 at_169 (by decide) (pc' := 173) rfl ?_
      exact G.retN H177 (t := .boolean) rfl (by decide) at_173 (so := []) all0 (by decide) (by decide) rfl
    ·
      refine G.icmpYes H171 at_140 (XT.ii_ne_t c175) (by decide) (pc' := 147) rfl ?_
      refine G.iconst H171 at_147 (pc' := 148) rfl (v := 0) rfl ?_
      refine G.istore H171 (L' := #[.val (.int x70000), .val (.int x70001), .val (.int x70002), .val (.int x70003), .val (.int 9), .val (.int 8), .val (.int (x2 &&& 255)), .val (.int x70007), .val (.ref p0), .val (.ref a153), .val (.int 0)]) at_148 (pc' := 150) rfl rfl ?_
      refine G.aload H171 at_150 (pc' := 152) rfl rfl rfl ?_
      have F183 := (Str.ext E162 F159)
      refine G.callS H171 (m85_apply V a153 a154 k155 e0 e1 e2 e3 e4 e5 e6 e7 e8 h160_ H171.old F183 qe0 qe1 qe2 qe3 qe4 qe5 qe6 qe7 (fun qq => c175 (Eq.trans (Eq.symm qe8) qq))) (wd27 V) (wd28 V) (wd29 V) (wd30 V) (by decide) (argsL := [(.ref a153)]) (rest := []) (W := 0) rfl rfl (lenOf (pd_3) rfl) rfl rfl at_152 (pc' := 155) rfl (by decide) (by decide) (by decide) (by decide) (allS (mG (i := 0) rfl) (allS (mG (i := 1) rfl) all0)) ?_
      intro T184 h184_ v185 s186 H184 Q187
      obtain ⟨c188, rfl, rfl, K189⟩ := Q187
      show Go p e below _ (T184.setTop (mkF m 155 #[.val (.int x70000), .val (.int x70001), .val (.int x70002), .val (.int x70003), .val (.int 9), .val (.int 8), .val (.int (x2 &&& 255)), .val (.int x70007), .val (.ref p0), .val (.ref a153), .val (.int 0)] [(.int 1)]))
      refine G.iload H184 at_155 (pc' := 157) rfl rfl ?_
      refine G.ifNo H184 at_157 (pc' := 160) rfl (by decide) ?_
      refine G.iconst H184 at_160 (pc' := 161) rfl (v := 1) rfl ?_
      refine G.goto H184 at_161 (by decide) (pc' := 165) rfl ?_
      refine G.icmpNo H184 at_165 (pc' := 168) rfl (by decide) ?_
      refine G.iconst H184 at_168 (pc' := 169) rfl (v := 1) rfl ?_
      refine G.goto H184 at_169 (by decide) (pc' := 173) rfl ?_
      exact G.retN H184 (t := .boolean) rfl (by decide) at_173 (so := []) all0 (by decide) (by decide) rfl
  ·
    refine G.aload H at_101 (pc' := 103) rfl rfl rfl ?_
    refine G.iload H at_103 (pc' := 105) rfl rfl ?_
    refine G.callS H (m30_cut V p0 c0 e0 e1 e2 e3 e4 e5 e6 e7 e8 e9 h0 H.old fA8 (own_u16 re0) (own_u16 re1) (own_u16 re2) (own_u16 re3) (own_u16 re4) (own_u16 re5) (own_u16 re6) (own_u16 re7) (own_u16 re8) (own_u16 re9) re9 re8 re7 re6 re5 re4 re3 re2 re1 re0) (wd2 V) (wd3 V) (wd4 V) (wd5 V) (by decide) (argsL := [(.ref p0), (.int 10)]) (rest := []) (W := 0) rfl rfl (lenOf (pd_2) rfl) rfl rfl at_105 (pc' := 108) rfl (by decide) (by decide) (by decide) (by decide) all0 ?_
    intro T190 h190_ v191 s192 H190 Q193
    obtain ⟨a194, a195, k196, rfl, rfl, K197, g198, g199, F200⟩ := Q193
    have na194 : n0 ≤ a194 := Nat.le_trans H.le g198
    have na195 : n0 ≤ a195 := Nat.le_trans H.le (Nat.le_of_lt (Nat.lt_of_le_of_lt g198 g199))
    show Go p e below _ (T190.setTop (mkF m 108 #[.val (.int x70000), .val (.int x70001), .val (.int x70002), .val (.int x70003), .val (.int 10), .val (.int 8), .val (.int (x2 &&& 255)), .val (.int x70007), .val (.ref p0), .unset, .unset] [(.ref a194)]))
    refine G.astore H190 (L' := #[.val (.int x70000), .val (.int x70001), .val (.int x70002), .val (.int x70003), .val (.int 10), .val (.int 8), .val (.int (x2 &&& 255)), .val (.int x70007), .val (.ref p0), .val (.ref a194), .unset]) at_108 (pc' := 110) rfl rfl rfl ?_
    refine G.iload H190 at_110 (pc' := 112) rfl rfl ?_
    refine G.bipush H190 at_112 (pc' := 114) rfl (v := 7) rfl ?_
    refine G.icmpNo H190 at_114 (pc' := 117) rfl (by decide) ?_
    refine G.iload H190 at_117 (pc' := 119) rfl rfl ?_
    refine G.bipush H190 at_119 (pc' := 121) rfl (v := 9) rfl ?_
    refine G.icmpYes H190 at_121 (by decide) (by decide) (pc' := 147) rfl ?_
    refine G.iconst H190 at_147 (pc' := 148) rfl (v := 0) rfl ?_
    refine G.istore H190 (L' := #[.val (.int x70000), .val (.int x70001), .val (.int x70002), .val (.int x70003), .val (.int 10), .val (.int 8), .val (.int (x2 &&& 255)), .val (.int x70007), .val (.ref p0), .val (.ref a194), .val (.int 0)]) at_148 (pc' := 150) rfl rfl ?_
    refine G.aload H190 at_150 (pc' := 152) rfl rfl rfl ?_
    refine G.callS H190 (m31_apply V a194 a195 k196 e0 e1 e2 e3 e4 e5 e6 e7 e8 e9 h190_ H190.old F200) (wd27 V) (wd28 V) (wd29 V) (wd30 V) (by decide) (argsL := [(.ref a194)]) (rest := []) (W := 0) rfl rfl (lenOf (pd_3) rfl) rfl rfl at_152 (pc' := 155) rfl (by decide) (by decide) (by decide) (by decide) (allS (mG (i := 0) rfl) (allS (mG (i := 1) rfl) all0)) ?_
    intro T201 h201_ v202 s203 H201 Q204
    obtain ⟨rfl, rfl, K205⟩ := Q204
    show Go p e below _ (T201.setTop (mkF m 155 #[.val (.int x70000), .val (.int x70001), .val (.int x70002), .val (.int x70003), .val (.int 10), .val (.int 8), .val (.int (x2 &&& 255)), .val (.int x70007), .val (.ref p0), .val (.ref a194), .val (.int 0)] [(.int 1)]))
    refine G.iload H201 at_155 (pc' := 157) rfl rfl ?_
    refine G.ifNo H201 at_157 (pc' := 160) rfl (by decide) ?_
    refine G.iconst H201 at_160 (pc' := 161) rfl (v := 1) rfl ?_
    refine G.goto H201 at_161 (by decide) (pc' := 165) rfl ?_
    refine G.icmpNo H201 at_165 (pc' := 168) rfl (by decide) ?_
    refine G.iconst H201 at_168 (pc' := 169) rfl (v := 1) rfl ?_
    refine G.goto H201 at_169 (by decide) (pc' := 173) rfl ?_
    exact G.retN H201 (t := .boolean) rfl (by decide) at_173 (so := []) all0 (by decide) (by decide) rfl
set_option maxRecDepth 65536 in
set_option maxHeartbeats 40000000 in
theorem cut87_101 (V : Env1 Z a0 n0 uu0 uu1) (x90101 : Int32) (x70000 : Int32) (x70001 : Int32) (x70002 : Int32) (x70003 : Int32) (x2 : Int32) (x70007 : Int32) (p0 : Addr) (c0 : ClassId) (e0 : Int32) (e1 : Int32) (e2 : Int32) (e3 : Int32) (e4 : Int32) (e5 : Int32) (e6 : Int32) (e7 : Int32) (e8 : Int32) (e9 : Int32) (H : Hs p l e room_1 s m as' below meth c Z a0 ELs True x.cls n0 code maxLocals ret x.name T h0 1 10 []) (re0 : ¬ e0 < 0 ∧ ¬ 255 < e0) (qe0 : e0 = 67) (re1 : ¬ e1 < 0 ∧ ¬ 255 < e1) (qe1 : e1 = 79) (re2 : ¬ e2 < 0 ∧ ¬ 255 < e2) (qe2 : e2 = 78) (re3 : ¬ e3 < 0 ∧ ¬ 255 < e3) (qe3 : e3 = 78) (re4 : ¬ e4 < 0 ∧ ¬ 255 < e4) (qe4 : e4 = 69) (re5 : ¬ e5 < 0 ∧ ¬ 255 < e5) (qe5 : e5 = 67) (re6 : ¬ e6 < 0 ∧ ¬ 255 < e6) (qe6 : e6 = 84) (re7 : ¬ e7 < 0 ∧ ¬ 255 < e7) (qe7 : e7 = 69) (re8 : ¬ e8 < 0 ∧ ¬ 255 < e8) (qe8 : e8 = 68) (re9 : ¬ e9 < 0 ∧ ¬ 255 < e9) (qe9 : e9 = (x2 &&& 255)) (fA8 : Arv Z h0 p0 c0 .char 10 [(.int e0), (.int e1), (.int e2), (.int e3), (.int e4), (.int e5), (.int e6), (.int e7), (.int e8), (.int e9)] (.int 0)) (sp : x90101 = 0 ∨ x90101 = 1 ∨ x90101 = 2 ∨ x90101 = 3 ∨ x90101 = 4 ∨ x90101 = 5 ∨ x90101 = 6 ∨ x90101 = 7 ∨ x90101 = 8 ∨ x90101 = 9 ∨ x90101 = 10) :
    Go p e below (FinP s below Z ELs True n0 room_1.cells room_1.slots (fun v h so => v = some (.int 1))) (T.setTop (mkF m 101 #[.val (.int x70000), .val (.int x70001), .val (.int x70002), .val (.int x70003), .val (.int x90101), .val (.int 9), .val (.int (x2 &&& 255)), .val (.int x70007), .val (.ref p0), .unset, .unset] [])) := by
  rcases sp with rfl | rfl | rfl | rfl | rfl | rfl | rfl | rfl | rfl | rfl | rfl
  ·
    refine G.aload H at_101 (pc' := 103) rfl rfl rfl ?_
    refine G.iload H at_103 (pc' := 105) rfl rfl ?_
    refine G.callS H (m3_cut V p0 h0 H.old) (wd2 V) (wd3 V) (wd4 V) (wd5 V) (by decide) (argsL := [(.ref p0), (.int 0)]) (rest := []) (W := 0) rfl rfl (lenOf (pd_2) rfl) rfl rfl at_105 (pc' := 108) rfl (by decide) (by decide) (by decide) (by decide) all0 ?_
    intro T1 h1_ v2 s3 H1 Q4
    obtain ⟨a5, a6, k7, rfl, rfl, K8, g9, F10, F11, F12, F13⟩ := Q4
    have na5 : n0 ≤ a5 := Nat.le_trans H.le g9
    show Go p e below _ (T1.setTop (mkF m 108 #[.val (.int x70000), .val (.int x70001), .val (.int x70002), .val (.int x70003), .val (.int 0), .val (.int 9), .val (.int (x2 &&& 255)), .val (.int x70007), .val (.ref p0), .unset, .unset] [(.ref a5)]))
    refine G.astore H1 (L' := #[.val (.int x70000), .val (.int x70001), .val (.int x70002), .val (.int x70003), .val (.int 0), .val (.int 9), .val (.int (x2 &&& 255)), .val (.int x70007), .val (.ref p0), .val (.ref a5), .unset]) at_108 (pc' := 110) rfl rfl rfl ?_
    refine G.iload H1 at_110 (pc' := 112) rfl rfl ?_
    refine G.bipush H1 at_112 (pc' := 114) rfl (v := 7) rfl ?_
    refine G.icmpNo H1 at_114 (pc' := 117) rfl (by decide) ?_
    refine G.iload H1 at_117 (pc' := 119) rfl rfl ?_
    refine G.bipush H1 at_119 (pc' := 121) rfl (v := 9) rfl ?_
    refine G.icmpYes H1 at_121 (by decide) (by decide) (pc' := 147) rfl ?_
    refine G.iconst H1 at_147 (pc' := 148) rfl (v := 0) rfl ?_
    refine G.istore H1 (L' := #[.val (.int x70000), .val (.int x70001), .val (.int x70002), .val (.int x70003), .val (.int 0), .val (.int 9), .val (.int (x2 &&& 255)), .val (.int x70007), .val (.ref p0), .val (.ref a5), .val (.int 0)]) at_148 (pc' := 150) rfl rfl ?_
    refine G.aload H1 at_150 (pc' := 152) rfl rfl rfl ?_
    have S14 : Str Z h1_ a5 a6 k7 [] := ⟨F10, F12, F11, F13, cb0, Nat.le_of_ble_eq_true rfl⟩
    refine G.callS H1 (m4_apply V a5 a6 k7 h1_ H1.old S14) (wd27 V) (wd28 V) (wd29 V) (wd30 V) (by decide) (argsL := [(.ref a5)]) (rest := []) (W := 0) rfl rfl (lenOf (pd_3) rfl) rfl rfl at_152 (pc' := 155) rfl (by decide) (by decide) (by decide) (by decide) (allS (mG (i := 0) rfl) all0) ?_
    intro T15 h15_ v16 s17 H15 Q18
    obtain ⟨rfl, rfl, K19⟩ := Q18
    show Go p e below _ (T15.setTop (mkF m 155 #[.val (.int x70000), .val (.int x70001), .val (.int x70002), .val (.int x70003), .val (.int 0), .val (.int 9), .val (.int (x2 &&& 255)), .val (.int x70007), .val (.ref p0), .val (.ref a5), .val (.int 0)] [(.int 1)]))
    refine G.iload H15 at_155 (pc' := 157) rfl rfl ?_
    refine G.ifNo H15 at_157 (pc' := 160) rfl (by decide) ?_
    refine G.iconst H15 at_160 (pc' := 161) rfl (v := 1) rfl ?_
    refine G.goto H15 at_161 (by decide) (pc' := 165) rfl ?_
    refine G.icmpNo H15 at_165 (pc' := 168) rfl (by decide) ?_
    refine G.iconst H15 at_168 (pc' := 169) rfl (v := 1) rfl ?_
    refine G.goto H15 at_169 (by decide) (pc' := 173) rfl ?_
    exact G.retN H15 (t := .boolean) rfl (by decide) at_173 (so := []) all0 (by decide) (by decide) rfl
  ·
    refine G.aload H at_101 (pc' := 103) rfl rfl rfl ?_
    refine G.iload H at_103 (pc' := 105) rfl rfl ?_
    refine G.callS H (m5_cut V p0 c0 e0 e1 e2 e3 e4 e5 e6 e7 e8 e9 h0 H.old fA8 (own_u16 re0) re0) (wd2 V) (wd3 V) (wd4 V) (wd5 V) (by decide) (argsL := [(.ref p0), (.int 1)]) (rest := []) (W := 0) rfl rfl (lenOf (pd_2) rfl) rfl rfl at_105 (pc' := 108) rfl (by decide) (by decide) (by decide) (by decide) all0 ?_
    intro T20 h20_ v21 s22 H20 Q23
    obtain ⟨a24, a25, k26, rfl, rfl, K27, g28, g29, F30⟩ := Q23
    have na24 : n0 ≤ a24 := Nat.le_trans H.le g28
    have na25 : n0 ≤ a25 := Nat.le_trans H.le (Nat.le_of_lt (Nat.lt_of_le_of_lt g28 g29))
    show Go p e below _ (T20.setTop (mkF m 108 #[.val (.int x70000), .val (.int x70001), .val (.int x70002), .val (.int x70003), .val (.int 1), .val (.int 9), .val (.int (x2 &&& 255)), .val (.int x70007), .val (.ref p0), .unset, .unset] [(.ref a24)]))
    refine G.astore H20 (L' := #[.val (.int x70000), .val (.int x70001), .val (.int x70002), .val (.int x70003), .val (.int 1), .val (.int 9), .val (.int (x2 &&& 255)), .val (.int x70007), .val (.ref p0), .val (.ref a24), .unset]) at_108 (pc' := 110) rfl rfl rfl ?_
    refine G.iload H20 at_110 (pc' := 112) rfl rfl ?_
    refine G.bipush H20 at_112 (pc' := 114) rfl (v := 7) rfl ?_
    refine G.icmpNo H20 at_114 (pc' := 117) rfl (by decide) ?_
    refine G.iload H20 at_117 (pc' := 119) rfl rfl ?_
    refine G.bipush H20 at_119 (pc' := 121) rfl (v := 9) rfl ?_
    refine G.icmpYes H20 at_121 (by decide) (by decide) (pc' := 147) rfl ?_
    refine G.iconst H20 at_147 (pc' := 148) rfl (v := 0) rfl ?_
    refine G.istore H20 (L' := #[.val (.int x70000), .val (.int x70001), .val (.int x70002), .val (.int x70003), .val (.int 1), .val (.int 9), .val (.int (x2 &&& 255)), .val (.int x70007), .val (.ref p0), .val (.ref a24), .val (.int 0)]) at_148 (pc' := 150) rfl rfl ?_
    refine G.aload H20 at_150 (pc' := 152) rfl rfl rfl ?_
    refine G.callS H20 (m6_apply V a24 a25 k26 e0 h20_ H20.old F30) (wd27 V) (wd28 V) (wd29 V) (wd30 V) (by decide) (argsL := [(.ref a24)]) (rest := []) (W := 0) rfl rfl (lenOf (pd_3) rfl) rfl rfl at_152 (pc' := 155) rfl (by decide) (by decide) (by decide) (by decide) (allS (mG (i := 0) rfl) (allS (mG (i := 1) rfl) all0)) ?_
    intro T31 h31_ v32 s33 H31 Q34
    obtain ⟨rfl, rfl, K35⟩ := Q34
    show Go p e below _ (T31.setTop (mkF m 155 #[.val (.int x70000), .val (.int x70001), .val (.int x70002), .val (.int x70003), .val (.int 1), .val (.int 9), .val (.int (x2 &&& 255)), .val (.int x70007), .val (.ref p0), .val (.ref a24), .val (.int 0)] [(.int 1)]))
    refine G.iload H31 at_155 (pc' := 157) rfl rfl ?_
    refine G.ifNo H31 at_157 (pc' := 160) rfl (by decide) ?_
    refine G.iconst H31 at_160 (pc' := 161) rfl (v := 1) rfl ?_
    refine G.goto H31 at_161 (by decide) (pc' := 165) rfl ?_
    refine G.icmpNo H31 at_165 (pc' := 168) rfl (by decide) ?_
    refine G.iconst H31 at_168 (pc' := 169) rfl (v := 1) rfl ?_
    refine G.goto H31 at_169 (by decide) (pc' := 173) rfl ?_
    exact G.retN H31 (t := .boolean) rfl (by decide) at_173 (so := []) all0 (by decide) (by decide) rfl
  ·
    refine G.aload H at_101 (pc' := 103) rfl rfl rfl ?_
    refine G.iload H at_103 (pc' := 105) rfl rfl ?_
    refine G.callS H (m7_cut V p0 c0 e0 e1 e2 e3 e4 e5 e6 e7 e8 e9 h0 H.old fA8 (own_u16 re0) (own_u16 re1) re1 re0) (wd2 V) (wd3 V) (wd4 V) (wd5 V) (by decide) (argsL := [(.ref p0), (.int 2)]) (rest := []) (W := 0) rfl rfl (lenOf (pd_2) rfl) rfl rfl at_105 (pc' := 108) rfl (by decide) (by decide) (by decide) (by decide) all0 ?_
    intro T36 h36_ v37 s38 H36 Q39
    obtain ⟨a40, a41, k42, rfl, rfl, K43, g44, g45, F46⟩ := Q39
    have na40 : n0 ≤ a40 := Nat.le_trans H.le g44
    have na41 : n0 ≤ a41 := Nat.le_trans H.le (Nat.le_of_lt (Nat.lt_of_le_of_lt g44 g45))
    show Go p e below _ (T36.setTop (mkF m 108 #[.val (.int x70000), .val (.int x70001), .val (.int x70002), .val (.int x70003), .val (.int 2), .val (.int 9), .val (.int (x2 &&& 255)), .val (.int x70007), .val (.ref p0), .unset, .unset] [(.ref a40)]))
    refine G.astore H36 (L' := #[.val (.int x70000), .val (.int x70001), .val (.int x70002), .val (.int x70003), .val (.int 2), .val (.int 9), .val (.int (x2 &&& 255)), .val (.int x70007), .val (.ref p0), .val (.ref a40), .unset]) at_108 (pc' := 110) rfl rfl rfl ?_
    refine G.iload H36 at_110 (pc' := 112) rfl rfl ?_
    refine G.bipush H36 at_112 (pc' := 114) rfl (v := 7) rfl ?_
    refine G.icmpNo H36 at_114 (pc' := 117) rfl (by decide) ?_
    refine G.iload H36 at_117 (pc' := 119) rfl rfl ?_
    refine G.bipush H36 at_119 (pc' := 121) rfl (v := 9) rfl ?_
    refine G.icmpYes H36 at_121 (by decide) (by decide) (pc' := 147) rfl ?_
    refine G.iconst H36 at_147 (pc' := 148) rfl (v := 0) rfl ?_
    refine G.istore H36 (L' := #[.val (.int x70000), .val (.int x70001), .val (.int x70002), .val (.int x70003), .val (.int 2), .val (.int 9), .val (.int (x2 &&& 255)), .val (.int x70007), .val (.ref p0), .val (.ref a40), .val (.int 0)]) at_148 (pc' := 150) rfl rfl ?_
    refine G.aload H36 at_150 (pc' := 152) rfl rfl rfl ?_
    refine G.callS H36 (m8_apply V a40 a41 k42 e0 e1 h36_ H36.old F46) (wd27 V) (wd28 V) (wd29 V) (wd30 V) (by decide) (argsL := [(.ref a40)]) (rest := []) (W := 0) rfl rfl (lenOf (pd_3) rfl) rfl rfl at_152 (pc' := 155) rfl (by decide) (by decide) (by decide) (by decide) (allS (mG (i := 0) rfl) (allS (mG (i := 1) rfl) all0)) ?_
    intro T47 h47_ v48 s49 H47 Q50
    obtain ⟨rfl, rfl, K51⟩ := Q50
    show Go p e below _ (T47.setTop (mkF m 155 #[.val (.int x70000), .val (.int x70001), .val (.int x70002), .val (.int x70003), .val (.int 2), .val (.int 9), .val (.int (x2 &&& 255)), .val (.int x70007), .val (.ref p0), .val (.ref a40), .val (.int 0)] [(.int 1)]))
    refine G.iload H47 at_155 (pc' := 157) rfl rfl ?_
    refine G.ifNo H47 at_157 (pc' := 160) rfl (by decide) ?_
    refine G.iconst H47 at_160 (pc' := 161) rfl (v := 1) rfl ?_
    refine G.goto H47 at_161 (by decide) (pc' := 165) rfl ?_
    refine G.icmpNo H47 at_165 (pc' := 168) rfl (by decide) ?_
    refine G.iconst H47 at_168 (pc' := 169) rfl (v := 1) rfl ?_
    refine G.goto H47 at_169 (by decide) (pc' := 173) rfl ?_
    exact G.retN H47 (t := .boolean) rfl (by decide) at_173 (so := []) all0 (by decide) (by decide) rfl
  ·
    refine G.aload H at_101 (pc' := 103) rfl rfl rfl ?_
    refine G.iload H at_103 (pc' := 105) rfl rfl ?_
    refine G.callS H (m9_cut V p0 c0 e0 e1 e2 e3 e4 e5 e6 e7 e8 e9 h0 H.old fA8 (own_u16 re0) (own_u16 re1) (own_u16 re2) re2 re1 re0) (wd2 V) (wd3 V) (wd4 V) (wd5 V) (by decide) (argsL := [(.ref p0), (.int 3)]) (rest := []) (W := 0) rfl rfl (lenOf (pd_2) rfl) rfl rfl at_105 (pc' := 108) rfl (by decide) (by decide) (by decide) (by decide) all0 ?_
    intro T52 h52_ v53 s54 H52 Q55
    obtain ⟨a56, a57, k58, rfl, rfl, K59, g60, g61, F62⟩ := Q55
    have na56 : n0 ≤ a56 := Nat.le_trans H.le g60
    have na57 : n0 ≤ a57 := Nat.le_trans H.le (Nat.le_of_lt (Nat.lt_of_le_of_lt g60 g61))
    show Go p e below _ (T52.setTop (mkF m 108 #[.val (.int x70000), .val (.int x70001), .val (.int x70002), .val (.int x70003), .val (.int 3), .val (.int 9), .val (.int (x2 &&& 255)), .val (.int x70007), .val (.ref p0), .unset, .unset] [(.ref a56)]))
    refine G.astore H52 (L' := #[.val (.int x70000), .val (.int x70001), .val (.int x70002), .val (.int x70003), .val (.int 3), .val (.int 9), .val (.int (x2 &&& 255)), .val (.int x70007), .val (.ref p0), .val (.ref a56), .unset]) at_108 (pc' := 110) rfl rfl rfl ?_
    refine G.iload H52 at_110 (pc' := 112) rfl rfl ?_
    refine G.bipush H52 at_112 (pc' := 114) rfl (v := 7) rfl ?_
    refine G.icmpNo H52 at_114 (pc' := 117) rfl (by decide) ?_
    refine G.iload H52 at_117 (pc' := 119) rfl rfl ?_
    refine G.bipush H52 at_119 (pc' := 121) rfl (v := 9) rfl ?_
    refine G.icmpYes H52 at_121 (by decide) (by decide) (pc' := 147) rfl ?_
    refine G.iconst H52 at_147 (pc' := 148) rfl (v := 0) rfl ?_
    refine G.istore H52 (L' := #[.val (.int x70000), .val (.int x70001), .val (.int x70002), .val (.int x70003), .val (.int 3), .val (.int 9), .val (.int (x2 &&& 255)), .val (.int x70007), .val (.ref p0), .val (.ref a56), .val (.int 0)]) at_148 (pc' := 150) rfl rfl ?_
    refine G.aload H52 at_150 (pc' := 152) rfl rfl rfl ?_
    refine G.callS H52 (m10_apply V a56 a57 k58 e0 e1 e2 h52_ H52.old F62) (wd27 V) (wd28 V) (wd29 V) (wd30 V) (by decide) (argsL := [(.ref a56)]) (rest := []) (W := 0) rfl rfl (lenOf (pd_3) rfl) rfl rfl at_152 (pc' := 155) rfl (by decide) (by decide) (by decide) (by decide) (allS (mG (i := 0) rfl) (allS (mG (i := 1) rfl) all0)) ?_
    intro T63 h63_ v64 s65 H63 Q66
    obtain ⟨rfl, rfl, K67⟩ := Q66
    show Go p e below _ (T63.setTop (mkF m 155 #[.val (.int x70000), .val (.int x70001), .val (.int x70002), .val (.int x70003), .val (.int 3), .val (.int 9), .val (.int (x2 &&& 255)), .val (.int x70007), .val (.ref p0), .val (.ref a56), .val (.int 0)] [(.int 1)]))
    refine G.iload H63 at_155 (pc' := 157) rfl rfl ?_
    refine G.ifNo H63 at_157 (pc' := 160) rfl (by decide) ?_
    refine G.iconst H63 at_160 (pc' := 161) rfl (v := 1) rfl ?_
    refine G.goto H63 at_161 (by decide) (pc' := 165) rfl ?_
    refine G.icmpNo H63 at_165 (pc' := 168) rfl (by decide) ?_
    refine G.iconst H63 at_168 (pc' := 169) rfl (v := 1) rfl ?_
    refine G.goto H63 at_169 (by decide) (pc' := 173) rfl ?_
    exact G.retN H63 (t := .boolean) rfl (by decide) at_173 (so := []) all0 (by decide) (by decide) rfl
  ·
    refine G.aload H at_101 (pc' := 103) rfl rfl rfl ?_
    refine G.iload H at_103 (pc' := 105) rfl rfl ?_
    refine G.callS H (m11_cut V p0 c0 e0 e1 e2 e3 e4 e5 e6 e7 e8 e9 h0 H.old fA8 (own_u16 re0) (own_u16 re1) (own_u16 re2) (own_u16 re3) re3 re2 re1 re0) (wd2 V) (wd3 V) (wd4 V) (wd5 V) (by decide) (argsL := [(.ref p0), (.int 4)]) (rest := []) (W := 0) rfl rfl (lenOf (pd_2) rfl) rfl rfl at_105 (pc' := 108) rfl (by decide) (by decide) (by decide) (by decide) all0 ?_
    intro T68 h68_ v69 s70 H68 Q71
    obtain ⟨a72, a73, k74, rfl, rfl, K75, g76, g77, F78⟩ := Q71
    have na72 : n0 ≤ a72 := Nat.le_trans H.le g76
    have na73 : n0 ≤ a73 := Nat.le_trans H.le (Nat.le_of_lt (Nat.lt_of_le_of_lt g76 g77))
    show Go p e below _ (T68.setTop (mkF m 108 #[.val (.int x70000), .val (.int x70001), .val (.int x70002), .val (.int x70003), .val (.int 4), .val (.int 9), .val (.int (x2 &&& 255)), .val (.int x70007), .val (.ref p0), .unset, .unset] [(.ref a72)]))
    refine G.astore H68 (L' := #[.val (.int x70000), .val (.int x70001), .val (.int x70002), .val (.int x70003), .val (.int 4), .val (.int 9), .val (.int (x2 &&& 255)), .val (.int x70007), .val (.ref p0), .val (.ref a72), .unset]) at_108 (pc' := 110) rfl rfl rfl ?_
    refine G.iload H68 at_110 (pc' := 112) rfl rfl ?_
    refine G.bipush H68 at_112 (pc' := 114) rfl (v := 7) rfl ?_
    refine G.icmpNo H68 at_114 (pc' := 117) rfl (by decide) ?_
    refine G.iload H68 at_117 (pc' := 119) rfl rfl ?_
    refine G.bipush H68 at_119 (pc' := 121) rfl (v := 9) rfl ?_
    refine G.icmpYes H68 at_121 (by decide) (by decide) (pc' := 147) rfl ?_
    refine G.iconst H68 at_147 (pc' := 148) rfl (v := 0) rfl ?_
    refine G.istore H68 (L' := #[.val (.int x70000), .val (.int x70001), .val (.int x70002), .val (.int x70003), .val (.int 4), .val (.int 9), .val (.int (x2 &&& 255)), .val (.int x70007), .val (.ref p0), .val (.ref a72), .val (.int 0)]) at_148 (pc' := 150) rfl rfl ?_
    refine G.aload H68 at_150 (pc' := 152) rfl rfl rfl ?_
    refine G.callS H68 (m12_apply V a72 a73 k74 e0 e1 e2 e3 h68_ H68.old F78) (wd27 V) (wd28 V) (wd29 V) (wd30 V) (by decide) (argsL := [(.ref a72)]) (rest := []) (W := 0) rfl rfl (lenOf (pd_3) rfl) rfl rfl at_152 (pc' := 155) rfl (by decide) (by decide) (by decide) (by decide) (allS (mG (i := 0) rfl) (allS (mG (i := 1) rfl) all0)) ?_
    intro T79 h79_ v80 s81 H79 Q82
    obtain ⟨rfl, rfl, K83⟩ := Q82
    show Go p e below _ (T79.setTop (mkF m 155 #[.val (.int x70000), .val (.int x70001), .val (.int x70002), .val (.int x70003), .val (.int 4), .val (.int 9), .val (.int (x2 &&& 255)), .val (.int x70007), .val (.ref p0), .val (.ref a72), .val (.int 0)] [(.int 1)]))
    refine G.iload H79 at_155 (pc' := 157) rfl rfl ?_
    refine G.ifNo H79 at_157 (pc' := 160) rfl (by decide) ?_
    refine G.iconst H79 at_160 (pc' := 161) rfl (v := 1) rfl ?_
    refine G.goto H79 at_161 (by decide) (pc' := 165) rfl ?_
    refine G.icmpNo H79 at_165 (pc' := 168) rfl (by decide) ?_
    refine G.iconst H79 at_168 (pc' := 169) rfl (v := 1) rfl ?_
    refine G.goto H79 at_169 (by decide) (pc' := 173) rfl ?_
    exact G.retN H79 (t := .boolean) rfl (by decide) at_173 (so := []) all0 (by decide) (by decide) rfl
  ·
    refine G.aload H at_101 (pc' := 103) rfl rfl rfl ?_
    refine G.iload H at_103 (pc' := 105) rfl rfl ?_
    refine G.callS H (m13_cut V p0 c0 e0 e1 e2 e3 e4 e5 e6 e7 e8 e9 h0 H.old fA8 (own_u16 re0) (own_u16 re1) (own_u16 re2) (own_u16 re3) (own_u16 re4) re4 re3 re2 re1 re0) (wd2 V) (wd3 V) (wd4 V) (wd5 V) (by decide) (argsL := [(.ref p0), (.int 5)]) (rest := []) (W := 0) rfl rfl (lenOf (pd_2) rfl) rfl rfl at_105 (pc' := 108) rfl (by decide) (by decide) (by decide) (by decide) all0 ?_
    intro T84 h84_ v85 s86 H84 Q87
    obtain ⟨a88, a89, k90, rfl, rfl, K91, g92, g93, F94⟩ := Q87
    have na88 : n0 ≤ a88 := Nat.le_trans H.le g92
    have na89 : n0 ≤ a89 := Nat.le_trans H.le (Nat.le_of_lt (Nat.lt_of_le_of_lt g92 g93))
    show Go p e below _ (T84.setTop (mkF m 108 #[.val (.int x70000), .val (.int x70001), .val (.int x70002), .val (.int x70003), .val (.int 5), .val (.int 9), .val (.int (x2 &&& 255)), .val (.int x70007), .val (.ref p0), .unset, .unset] [(.ref a88)]))
    refine G.astore H84 (L' := #[.val (.int x70000), .val (.int x70001), .val (.int x70002), .val (.int x70003), .val (.int 5), .val (.int 9), .val (.int (x2 &&& 255)), .val (.int x70007), .val (.ref p0), .val (.ref a88), .unset]) at_108 (pc' := 110) rfl rfl rfl ?_
    refine G.iload H84 at_110 (pc' := 112) rfl rfl ?_
    refine G.bipush H84 at_112 (pc' := 114) rfl (v := 7) rfl ?_
    refine G.icmpNo H84 at_114 (pc' := 117) rfl (by decide) ?_
    refine G.iload H84 at_117 (pc' := 119) rfl rfl ?_
    refine G.bipush H84 at_119 (pc' := 121) rfl (v := 9) rfl ?_
    refine G.icmpYes H84 at_121 (by decide) (by decide) (pc' := 147) rfl ?_
    refine G.iconst H84 at_147 (pc' := 148) rfl (v := 0) rfl ?_
    refine G.istore H84 (L' := #[.val (.int x70000), .val (.int x70001), .val (.int x70002), .val (.int x70003), .val (.int 5), .val (.int 9), .val (.int (x2 &&& 255)), .val (.int x70007), .val (.ref p0), .val (.ref a88), .val (.int 0)]) at_148 (pc' := 150) rfl rfl ?_
    refine G.aload H84 at_150 (pc' := 152) rfl rfl rfl ?_
    refine G.callS H84 (m14_apply V a88 a89 k90 e0 e1 e2 e3 e4 h84_ H84.old F94) (wd27 V) (wd28 V) (wd29 V) (wd30 V) (by decide) (argsL := [(.ref a88)]) (rest := []) (W := 0) rfl rfl (lenOf (pd_3) rfl) rfl rfl at_152 (pc' := 155) rfl (by decide) (by decide) (by decide) (by decide) (allS (mG (i := 0) rfl) (allS (mG (i := 1) rfl) all0)) ?_
    intro T95 h95_ v96 s97 H95 Q98
    obtain ⟨rfl, rfl, K99⟩ := Q98
    show Go p e below _ (T95.setTop (mkF m 155 #[.val (.int x70000), .val (.int x70001), .val (.int x70002), .val (.int x70003), .val (.int 5), .val (.int 9), .val (.int (x2 &&& 255)), .val (.int x70007), .val (.ref p0), .val (.ref a88), .val (.int 0)] [(.int 1)]))
    refine G.iload H95 at_155 (pc' := 157) rfl rfl ?_
    refine G.ifNo H95 at_157 (pc' := 160) rfl (by decide) ?_
    refine G.iconst H95 at_160 (pc' := 161) rfl (v := 1) rfl ?_
    refine G.goto H95 at_161 (by decide) (pc' := 165) rfl ?_
    refine G.icmpNo H95 at_165 (pc' := 168) rfl (by decide) ?_
    refine G.iconst H95 at_168 (pc' := 169) rfl (v := 1) rfl ?_
    refine G.goto H95 at_169 (by decide) (pc' := 173) rfl ?_
    exact G.retN H95 (t := .boolean) rfl (by decide) at_173 (so := []) all0 (by decide) (by decide) rfl
  ·
    refine G.aload H at_101 (pc' := 103) rfl rfl rfl ?_
    refine G.iload H at_103 (pc' := 105) rfl rfl ?_
    refine G.callS H (m15_cut V p0 c0 e0 e1 e2 e3 e4 e5 e6 e7 e8 e9 h0 H.old fA8 (own_u16 re0) (own_u16 re1) (own_u16 re2) (own_u16 re3) (own_u16 re4) (own_u16 re5) re5 re4 re3 re2 re1 re0) (wd2 V) (wd3 V) (wd4 V) (wd5 V) (by decide) (argsL := [(.ref p0), (.int 6)]) (rest := []) (W := 0) rfl rfl (lenOf (pd_2) rfl) rfl rfl at_105 (pc' := 108) rfl (by decide) (by decide) (by decide) (by decide) all0 ?_
    intro T100 h100_ v101 s102 H100 Q103
    obtain ⟨a104, a105, k106, rfl, rfl, K107, g108, g109, F110⟩ := Q103
    have na104 : n0 ≤ a104 := Nat.le_trans H.le g108
    have na105 : n0 ≤ a105 := Nat.le_trans H.le (Nat.le_of_lt (Nat.lt_of_le_of_lt g108 g109))
    show Go p e below _ (T100.setTop (mkF m 108 #[.val (.int x70000), .val (.int x70001), .val (.int x70002), .val (.int x70003), .val (.int 6), .val (.int 9), .val (.int (x2 &&& 255)), .val (.int x70007), .val (.ref p0), .unset, .unset] [(.ref a104)]))
    refine G.astore H100 (L' := #[.val (.int x70000), .val (.int x70001), .val (.int x70002), .val (.int x70003), .val (.int 6), .val (.int 9), .val (.int (x2 &&& 255)), .val (.int x70007), .val (.ref p0), .val (.ref a104), .unset]) at_108 (pc' := 110) rfl rfl rfl ?_
    refine G.iload H100 at_110 (pc' := 112) rfl rfl ?_
    refine G.bipush H100 at_112 (pc' := 114) rfl (v := 7) rfl ?_
    refine G.icmpNo H100 at_114 (pc' := 117) rfl (by decide) ?_
    refine G.iload H100 at_117 (pc' := 119) rfl rfl ?_
    refine G.bipush H100 at_119 (pc' := 121) rfl (v := 9) rfl ?_
    refine G.icmpYes H100 at_121 (by decide) (by decide) (pc' := 147) rfl ?_
    refine G.iconst H100 at_147 (pc' := 148) rfl (v := 0) rfl ?_
    refine G.istore H100 (L' := #[.val (.int x70000), .val (.int x70001), .val (.int x70002), .val (.int x70003), .val (.int 6), .val (.int 9), .val (.int (x2 &&& 255)), .val (.int x70007), .val (.ref p0), .val (.ref a104), .val (.int 0)]) at_148 (pc' := 150) rfl rfl ?_
    refine G.aload H100 at_150 (pc' := 152) rfl rfl rfl ?_
    refine G.callS H100 (m16_apply V a104 a105 k106 e0 e1 e2 e3 e4 e5 h100_ H100.old F110) (wd27 V) (wd28 V) (wd29 V) (wd30 V) (by decide) (argsL := [(.ref a104)]) (rest := []) (W := 0) rfl rfl (lenOf (pd_3) rfl) rfl rfl at_152 (pc' := 155) rfl (by decide) (by decide) (by decide) (by decide) (allS (mG (i := 0) rfl) (allS (mG (i := 1) rfl) all0)) ?_
    intro T111 h111_ v112 s113 H111 Q114
    obtain ⟨rfl, rfl, K115⟩ := Q114
    show Go p e below _ (T111.setTop (mkF m 155 #[.val (.int x70000), .val (.int x70001), .val (.int x70002), .val (.int x70003), .val (.int 6), .val (.int 9), .val (.int (x2 &&& 255)), .val (.int x70007), .val (.ref p0), .val (.ref a104), .val (.int 0)] [(.int 1)]))
    refine G.iload H111 at_155 (pc' := 157) rfl rfl ?_
    refine G.ifNo H111 at_157 (pc' := 160) rfl (by decide) ?_
    refine G.iconst H111 at_160 (pc' := 161) rfl (v := 1) rfl ?_
    refine G.goto H111 at_161 (by decide) (pc' := 165) rfl ?_
    refine G.icmpNo H111 at_165 (pc' := 168) rfl (by decide) ?_
    refine G.iconst H111 at_168 (pc' := 169) rfl (v := 1) rfl ?_
    refine G.goto H111 at_169 (by decide) (pc' := 173) rfl ?_
    exact G.retN H111 (t := .boolean) rfl (by decide) at_173 (so := []) all0 (by decide) (by decide) rfl
  ·
    refine G.aload H at_101 (pc' := 103) rfl rfl rfl ?_
    refine G.iload H at_103 (pc' := 105) rfl rfl ?_
    refine G.callS H (m17_cut V p0 c0 e0 e1 e2 e3 e4 e5 e6 e7 e8 e9 h0 H.old fA8 (own_u16 re0) (own_u16 re1) (own_u16 re2) (own_u16 re3) (own_u16 re4) (own_u16 re5) (own_u16 re6) re6 re5 re4 re3 re2 re1 re0) (wd2 V) (wd3 V) (wd4 V) (wd5 V) (by decide) (argsL := [(.ref p0), (.int 7)]) (rest := []) (W := 0) rfl rfl (lenOf (pd_2) rfl) rfl rfl at_105 (pc' := 108) rfl (by decide) (by decide) (by decide) (by decide) all0 ?_
    intro T116 h116_ v117 s118 H116 Q119
    obtain ⟨a120, a121, k122, rfl, rfl, K123, g124, g125, F126⟩ := Q119
    have na120 : n0 ≤ a120 := Nat.le_trans H.le g124
    have na121 : n0 ≤ a121 := Nat.le_trans H.le (Nat.le_of_lt (Nat.lt_of_le_of_lt g124 g125))
    show Go p e below _ (T116.setTop (mkF m 108 #[.val (.int x70000), .val (.int x70001), .val (.int x70002), .val (.int x70003), .val (.int 7), .val (.int 9), .val (.int (x2 &&& 255)), .val (.int x70007), .val (.ref p0), .unset, .unset] [(.ref a120)]))
    refine G.astore H116 (L' := #[.val (.int x70000), .val (.int x70001), .val (.int x70002), .val (.int x70003), .val (.int 7), .val (.int 9), .val (.int (x2 &&& 255)), .val (.int x70007), .val (.ref p0), .val (.ref a120), .unset]) at_108 (pc' := 110) rfl rfl rfl ?_
    refine G.iload H116 at_110 (pc' := 112) rfl rfl ?_
    refine G.bipush H116 at_112 (pc' := 114) rfl (v := 7) rfl ?_
    refine G.icmpYes H116 at_114 (by decide) (by decide) (pc' := 124) rfl ?_
    refine G.iload H116 at_124 (pc' := 126) rfl rfl ?_
    refine G.iload H116 at_126 (pc' := 128) rfl rfl ?_
    refine G.icmpYes H116 at_128 (by decide) (by decide) (pc' := 143) rfl ?_
    refine G.iconst H116 at_143 (pc' := 144) rfl (v := 1) rfl ?_
    refine G.goto H116 at_144 (by decide) (pc' := 148) rfl ?_
    refine G.istore H116 (L' := #[.val (.int x70000), .val (.int x70001), .val (.int x70002), .val (.int x70003), .val (.int 7), .val (.int 9), .val (.int (x2 &&& 255)), .val (.int x70007), .val (.ref p0), .val (.ref a120), .val (.int 1)]) at_148 (pc' := 150) rfl rfl ?_
    refine G.aload H116 at_150 (pc' := 152) rfl rfl rfl ?_
    refine G.callS H116 (m23_apply V a120 a121 k122 e0 e1 e2 e3 e4 e5 e6 h116_ H116.old F126 qe0 qe1 qe2 qe3 qe4 qe5 qe6) (wd27 V) (wd28 V) (wd29 V) (wd30 V) (by decide) (argsL := [(.ref a120)]) (rest := []) (W := 0) rfl rfl (lenOf (pd_3) rfl) rfl rfl at_152 (pc' := 155) rfl (by decide) (by decide) (by decide) (by decide) all0 ?_
    intro T127 h127_ v128 s129 H127 Q130
    obtain ⟨c131, rfl, rfl, K132⟩ := Q130
    show Go p e below _ (T127.setTop (mkF m 155 #[.val (.int x70000), .val (.int x70001), .val (.int x70002), .val (.int x70003), .val (.int 7), .val (.int 9), .val (.int (x2 &&& 255)), .val (.int x70007), .val (.ref p0), .val (.ref a120), .val (.int 1)] [(.int 0)]))
    refine G.iload H127 at_155 (pc' := 157) rfl rfl ?_
    refine G.ifYes H127 at_157 (by decide) (by decide) (pc' := 164) rfl ?_
    refine G.iconst H127 at_164 (pc' := 165) rfl (v := 0) rfl ?_
    refine G.icmpNo H127 at_165 (pc' := 168) rfl (by decide) ?_
    refine G.iconst H127 at_168 (pc' := 169) rfl (v := 1) rfl ?_
    refine G.goto H127 at_169 (by decide) (pc' := 173) rfl ?_
    exact G.retN H127 (t := .boolean) rfl (by decide) at_173 (so := []) all0 (by decide) (by decide) rfl
  ·
    refine G.aload H at_101 (pc' := 103) rfl rfl rfl ?_
    refine G.iload H at_103 (pc' := 105) rfl rfl ?_
    refine G.callS H (m25_cut V p0 c0 e0 e1 e2 e3 e4 e5 e6 e7 e8 e9 h0 H.old fA8 (own_u16 re0) (own_u16 re1) (own_u16 re2) (own_u16 re3) (own_u16 re4) (own_u16 re5) (own_u16 re6) (own_u16 re7) re7 re6 re5 re4 re3 re2 re1 re0) (wd2 V) (wd3 V) (wd4 V) (wd5 V) (by decide) (argsL := [(.ref p0), (.int 8)]) (rest := []) (W := 0) rfl rfl (lenOf (pd_2) rfl) rfl rfl at_105 (pc' := 108) rfl (by decide) (by decide) (by decide) (by decide) all0 ?_
    intro T133 h133_ v134 s135 H133 Q136
    obtain ⟨a137, a138, k139, rfl, rfl, K140, g141, g142, F143⟩ := Q136
    have na137 : n0 ≤ a137 := Nat.le_trans H.le g141
    have na138 : n0 ≤ a138 := Nat.le_trans H.le (Nat.le_of_lt (Nat.lt_of_le_of_lt g141 g142))
    show Go p e below _ (T133.setTop (mkF m 108 #[.val (.int x70000), .val (.int x70001), .val (.int x70002), .val (.int x70003), .val (.int 8), .val (.int 9), .val (.int (x2 &&& 255)), .val (.int x70007), .val (.ref p0), .unset, .unset] [(.ref a137)]))
    refine G.astore H133 (L' := #[.val (.int x70000), .val (.int x70001), .val (.int x70002), .val (.int x70003), .val (.int 8), .val (.int 9), .val (.int (x2 &&& 255)), .val (.int x70007), .val (.ref p0), .val (.ref a137), .unset]) at_108 (pc' := 110) rfl rfl rfl ?_
    refine G.iload H133 at_110 (pc' := 112) rfl rfl ?_
    refine G.bipush H133 at_112 (pc' := 114) rfl (v := 7) rfl ?_
    refine G.icmpNo H133 at_114 (pc' := 117) rfl (by decide) ?_
    refine G.iload H133 at_117 (pc' := 119) rfl rfl ?_
    refine G.bipush H133 at_119 (pc' := 121) rfl (v := 9) rfl ?_
    refine G.icmpYes H133 at_121 (by decide) (by decide) (pc' := 147) rfl ?_
    refine G.iconst H133 at_147 (pc' := 148) rfl (v := 0) rfl ?_
    refine G.istore H133 (L' := #[.val (.int x70000), .val (.int x70001), .val (.int x70002), .val (.int x70003), .val (.int 8), .val (.int 9), .val (.int (x2 &&& 255)), .val (.int x70007), .val (.ref p0), .val (.ref a137), .val (.int 0)]) at_148 (pc' := 150) rfl rfl ?_
    refine G.aload H133 at_150 (pc' := 152) rfl rfl rfl ?_
    refine G.callS H133 (m26_apply V a137 a138 k139 e0 e1 e2 e3 e4 e5 e6 e7 h133_ H133.old F143) (wd27 V) (wd28 V) (wd29 V) (wd30 V) (by decide) (argsL := [(.ref a137)]) (rest := []) (W := 0) rfl rfl (lenOf (pd_3) rfl) rfl rfl at_152 (pc' := 155) rfl (by decide) (by decide) (by decide) (by decide) (allS (mG (i := 0) rfl) (allS (mG (i := 1) rfl) all0)) ?_
    intro T144 h144_ v145 s146 H144 Q147
    obtain ⟨rfl, rfl, K148⟩ := Q147
    show Go p e below _ (T144.setTop (mkF m 155 #[.val (.int x70000), .val (.int x70001), .val (.int x70002), .val (.int x70003), .val (.int 8), .val (.int 9), .val (.int (x2 &&& 255)), .val (.int x70007), .val (.ref p0), .val (.ref a137), .val (.int 0)] [(.int 1)]))
    refine G.iload H144 at_155 (pc' := 157) rfl rfl ?_
    refine G.ifNo H144 at_157 (pc' := 160) rfl (by decide) ?_
    refine G.iconst H144 at_160 (pc' := 161) rfl (v := 1) rfl ?_
    refine G.goto H144 at_161 (by decide) (pc' := 165) rfl ?_
    refine G.icmpNo H144 at_165 (pc' := 168) rfl (by decide) ?_
    refine G.iconst H144 at_168 (pc' := 169) rfl (v := 1) rfl ?_
    refine G.goto H144 at_169 (by decide) (pc' := 173) rfl ?_
    exact G.retN H144 (t := .boolean) rfl (by decide) at_173 (so := []) all0 (by decide) (by decide) rfl
  ·
    refine G.aload H at_101 (pc' := 103) rfl rfl rfl ?_
    refine G.iload H at_103 (pc' := 105) rfl rfl ?_
    refine G.callS H (m27_cut V p0 c0 e0 e1 e2 e3 e4 e5 e6 e7 e8 e9 h0 H.old fA8 (own_u16 re0) (own_u16 re1) (own_u16 re2) (own_u16 re3) (own_u16 re4) (own_u16 re5) (own_u16 re6) (own_u16 re7) (own_u16 re8) re8 re7 re6 re5 re4 re3 re2 re1 re0) (wd2 V) (wd3 V) (wd4 V) (wd5 V) (by decide) (argsL := [(.ref p0), (.int 9)]) (rest := []) (W := 0) rfl rfl (lenOf (pd_2) rfl) rfl rfl at_105 (pc' := 108) rfl (by decide) (by decide) (by decide) (by decide) all0 ?_
    intro T149 h149_ v150 s151 H149 Q152
    obtain ⟨a153, a154, k155, rfl, rfl, K156, g157, g158, F159⟩ := Q152
    have na153 : n0 ≤ a153 := Nat.le_trans H.le g157
    have na154 : n0 ≤ a154 := Nat.le_trans H.le (Nat.le_of_lt (Nat.lt_of_le_of_lt g157 g158))
    show Go p e below _ (T149.setTop (mkF m 108 #[.val (.int x70000), .val (.int x70001), .val (.int x70002), .val (.int x70003), .val (.int 9), .val (.int 9), .val (.int (x2 &&& 255)), .val (.int x70007), .val (.ref p0), .unset, .unset] [(.ref a153)]))
    refine G.astore H149 (L' := #[.val (.int x70000), .val (.int x70001), .val (.int x70002), .val (.int x70003), .val (.int 9), .val (.int 9), .val (.int (x2 &&& 255)), .val (.int x70007), .val (.ref p0), .val (.ref a153), .unset]) at_108 (pc' := 110) rfl rfl rfl ?_
    refine G.iload H149 at_110 (pc' := 112) rfl rfl ?_
    refine G.bipush H149 at_112 (pc' := 114) rfl (v := 7) rfl ?_
    refine G.icmpNo H149 at_114 (pc' := 117) rfl (by decide) ?_
    refine G.iload H149 at_117 (pc' := 119) rfl rfl ?_
    refine G.bipush H149 at_119 (pc' := 121) rfl (v := 9) rfl ?_
    refine G.icmpNo H149 at_121 (pc' := 124) rfl (by decide) ?_
    refine G.iload H149 at_124 (pc' := 126) rfl rfl ?_
    refine G.iload H149 at_126 (pc' := 128) rfl rfl ?_
    refine G.icmpYes H149 at_128 (by decide) (by decide) (pc' := 143) rfl ?_
    refine G.iconst H149 at_143 (pc' := 144) rfl (v := 1) rfl ?_
    refine G.goto H149 at_144 (by decide) (pc' := 148) rfl ?_
    refine G.istore H149 (L' := #[.val (.int x70000), .val (.int x70001), .val (.int x70002), .val (.int x70003), .val (.int 9), .val (.int 9), .val (.int (x2 &&& 255)), .val (.int x70007), .val (.ref p0), .val (.ref a153), .val (.int 1)]) at_148 (pc' := 150) rfl rfl ?_
    refine G.aload H149 at_150 (pc' := 152) rfl rfl rfl ?_
    refine G.callS H149 (m28_apply V a153 a154 k155 e0 e1 e2 e3 e4 e5 e6 e7 e8 h149_ H149.old F159 qe0 qe1 qe2 qe3 qe4 qe5 qe6 qe7 qe8) (wd27 V) (wd28 V) (wd29 V) (wd30 V) (by decide) (argsL := [(.ref a153)]) (rest := []) (W := 0) rfl rfl (lenOf (pd_3) rfl) rfl rfl at_152 (pc' := 155) rfl (by decide) (by decide) (by decide) (by decide) (allS (mG (i := 0) rfl) (allS (mG (i := 1) rfl) all0)) ?_
    intro T160 h160_ v161 s162 H160 Q163
    obtain ⟨c164, rfl, rfl, K165⟩ := Q163
    show Go p e below _ (T160.setTop (mkF m 155 #[.val (.int x70000), .val (.int x70001), .val (.int x70002), .val (.int x70003), .val (.int 9), .val (.int 9), .val (.int (x2 &&& 255)), .val (.int x70007), .val (.ref p0), .val (.ref a153), .val (.int 1)] [(.int 0)]))
    refine G.iload H160 at_155 (pc' := 157) rfl rfl ?_
    refine G.ifYes H160 at_157 (by decide) (by decide) (pc' := 164) rfl ?_
    refine G.iconst H160 at_164 (pc' := 165) rfl (v := 0) rfl ?_
    refine G.icmpNo H160 at_165 (pc' := 168) rfl (by decide) ?_
    refine G.iconst H160 at_168 (pc' := 169) rfl (v := 1) rfl ?_
    refine G.goto H160 at_169 (by decide) (pc' := 173) rfl ?_
    exact G.retN H160 (t := .boolean) rfl (by decide) at_173 (so := []) all0 (by decide) (by decide) rfl
  ·
    refine G.aload H at_101 (pc' := 103) rfl rfl rfl ?_
    refine G.iload H at_103 (pc' := 105) rfl rfl ?_
    refine G.callS H (m30_cut V p0 c0 e0 e1 e2 e3 e4 e5 e6 e7 e8 e9 h0 H.old fA8 (own_u16 re0) (own_u16 re1) (own_u16 re2) (own_u16 re3) (own_u16 re4) (own_u16 re5) (own_u16 re6) (own_u16 re7) (own_u16 re8) (own_u16 re9) re9 re8 re7 re6 re5 re4 re3 re2 re1 re0) (wd2 V) (wd3 V) (wd4 V) (wd5 V) (by decide) (argsL := [(.ref p0), (.int 10)]) (rest := []) (W := 0) rfl rfl (lenOf (pd_2) rfl) rfl rfl at_105 (pc' := 108) rfl (by decide) (by decide) (by decide) (by decide) all0 ?_
    intro T166 h166_ v167 s168 H166 Q169
    obtain ⟨a170, a171, k172, rfl, rfl, K173, g174, g175, F176⟩ := Q169
    have na170 : n0 ≤ a170 := Nat.le_trans H.le g174
    have na171 : n0 ≤ a171 := Nat.le_trans H.le (Nat.le_of_lt (Nat.lt_of_le_of_lt g174 g175))
    show Go p e below _ (T166.setTop (mkF m 108 #[.val (.int x70000), .val (.int x70001), .val (.int x70002), .val (.int x70003), .val (.int 10), .val (.int 9), .val (.int (x2 &&& 255)), .val (.int x70007), .val (.ref p0), .unset, .unset] [(.ref a170)]))
    refine G.astore H166 (L' := #[.val (.int x70000), .val (.int x70001), .val (.int x70002), .val (.int x70003), .val (.int 10), .val (.int 9), .val (.int (x2 &&& 255)), .val (.int x70007), .val (.ref p0), .val (.ref a170), .unset]) at_108 (pc' := 110) rfl rfl rfl ?_
    refine G.iload H166 at_110 (pc' := 112) rfl rfl ?_
    refine G.bipush H166 at_112 (pc' := 114) rfl (v := 7) rfl ?_
    refine G.icmpNo H166 at_114 (pc' := 117) rfl (by decide) ?_
    refine G.iload H166 at_117 (pc' := 119) rfl rfl ?_
    refine G.bipush H166 at_119 (pc' := 121) rfl (v := 9) rfl ?_
    refine G.icmpYes H166 at_121 (by decide) (by decide) (pc' := 147) rfl ?_
    refine G.iconst H166 at_147 (pc' := 148) rfl (v := 0) rfl ?_
    refine G.istore H166 (L' := #[.val (.int x70000), .val (.int x70001), .val (.int x70002), .val (.int x70003), .val (.int 10), .val (.int 9), .val (.int (x2 &&& 255)), .val (.int x70007), .val (.ref p0), .val (.ref a170), .val (.int 0)]) at_148 (pc' := 150) rfl rfl ?_
    refine G.aload H166 at_150 (pc' := 152) rfl rfl rfl ?_
    refine G.callS H166 (m31_apply V a170 a171 k172 e0 e1 e2 e3 e4 e5 e6 e7 e8 e9 h166_ H166.old F176) (wd27 V) (wd28 V) (wd29 V) (wd30 V) (by decide) (argsL := [(.ref a170)]) (rest := []) (W := 0) rfl rfl (lenOf (pd_3) rfl) rfl rfl at_152 (pc' := 155) rfl (by decide) (by decide) (by decide) (by decide) (allS (mG (i := 0) rfl) (allS (mG (i := 1) rfl) all0)) ?_
    intro T177 h177_ v178 s179 H177 Q180
    obtain ⟨rfl, rfl, K181⟩ := Q180
    show Go p e below _ (T177.setTop (mkF m 155 #[.val (.int x70000), .val (.int x70001), .val (.int x70002), .val (.int x70003), .val (.int 10), .val (.int 9), .val (.int (x2 &&& 255)), .val (.int x70007), .val (.ref p0), .val (.ref a170), .val (.int 0)] [(.int 1)]))
    refine G.iload H177 at_155 (pc' := 157) rfl rfl ?_
    refine G.ifNo H177 at_157 (pc' := 160) rfl (by decide) ?_
    refine G.iconst H177 at_160 (pc' := 161) rfl (v := 1) rfl ?_
    refine G.goto H177 at_161 (by decide) (pc' := 165) rfl ?_
    refine G.icmpNo H177 at_165 (pc' := 168) rfl (by decide) ?_
    refine G.iconst H177 at_168 (pc' := 169) rfl (v := 1) rfl ?_
    refine G.goto H177 at_169 (by decide) (pc' := 173) rfl ?_
    exact G.retN H177 (t := .boolean) rfl (by decide) at_173 (so := []) all0 (by decide) (by decide) rfl
set_option maxRecDepth 65536 in
set_option maxHeartbeats 40000000 in
theorem cut88_94 (V : Env1 Z a0 n0 uu0 uu1) (x90094 : Int32) (x0 : Int32) (x1 : Int32) (x2 : Int32) (x3 : Int32) (p0 : Addr) (c0 : ClassId) (H : Hs p l e room_1 s m as' below meth c Z a0 ELs True x.cls n0 code maxLocals ret x.name T h0 1 10 []) (sp : x90094 = 0 ∨ x90094 = 1 ∨ x90094 = 2 ∨ x90094 = 3 ∨ x90094 = 4 ∨ x90094 = 5 ∨ x90094 = 6 ∨ x90094 = 7 ∨ x90094 = 8 ∨ x90094 = 9) (f1 : Arv Z h0 p0 c0 .char 10 [(.int 67), (.int 79), (.int 78), (.int 78), (.int 69), (.int 67), (.int 84), (.int 69), (.int 68), (.int (x3 &&& 255))] (.int 0)) (g2 : n0 ≤ p0) :
    Go p e below (FinP s below Z ELs True n0 room_1.cells room_1.slots (fun v h so => v = some (.int 1))) (T.setTop (mkF m 94 #[.val (.int x0), .val (.int x1), .val (.int x2), .val (.int x3), .val (.int ((x0 &&& 2147483647) % 11)), .val (.int x90094), .val (.int (x2 &&& 255)), .val (.int (x3 &&& 255)), .val (.ref p0), .unset, .unset] [])) := by
  rcases sp with rfl | rfl | rfl | rfl | rfl | rfl | rfl | rfl | rfl | rfl
  ·
    refine G.aload H at_94 (pc' := 96) rfl rfl rfl ?_
    refine G.iload H at_96 (pc' := 98) rfl rfl ?_
    refine G.iload H at_98 (pc' := 100) rfl rfl ?_
    refine G.stC H f1 (by decide) (i := 0) rfl lB g2 (y := (x2 &&& 255)) (own_narC (own_u16 (own_and255 _))) at_100 (pc' := 101) rfl ?_
    intro T1 h1_ H1 W2 A3
    replace A3 : Arv Z h1_ p0 c0 .char 10 [(.int (x2 &&& 255)), (.int 79), (.int 78), (.int 78), (.int 69), (.int 67), (.int 84), (.int 69), (.int 68), (.int (x3 &&& 255))] (.int 0) := A3
    exact cut32_101 V ((x0 &&& 2147483647) % 11) x0 x1 x2 x3 x2 (x3 &&& 255) p0 c0 (x2 &&& 255) 79 78 78 69 67 84 69 68 (x3 &&& 255) x3 ((H1.less all0).mono (C' := 1) (S' := 10) (by decide) (by decide)) (own_and255 _) rfl (by decide) rfl (by decide) rfl (by decide) rfl (by decide) rfl (by decide) rfl (by decide) rfl (by decide) rfl (by decide) rfl (own_and255 _) rfl A3 (own_r11 _)
  ·
    refine G.aload H at_94 (pc' := 96) rfl rfl rfl ?_
    refine G.iload H at_96 (pc' := 98) rfl rfl ?_
    refine G.iload H at_98 (pc' := 100) rfl rfl ?_
    refine G.stC H f1 (by decide) (i := 1) rfl lB g2 (y := (x2 &&& 255)) (own_narC (own_u16 (own_and255 _))) at_100 (pc' := 101) rfl ?_
    intro T4 h4_ H4 W5 A6
    replace A6 : Arv Z h4_ p0 c0 .char 10 [(.int 67), (.int (x2 &&& 255)), (.int 78), (.int 78), (.int 69), (.int 67), (.int 84), (.int 69), (.int 68), (.int (x3 &&& 255))] (.int 0) := A6
    exact cut39_101 V ((x0 &&& 2147483647) % 11) x0 x1 x2 x3 x2 (x3 &&& 255) p0 c0 67 (x2 &&& 255) 78 78 69 67 84 69 68 (x3 &&& 255) x3 ((H4.less all0).mono (C' := 1) (S' := 10) (by decide) (by decide)) (by decide) rfl (own_and255 _) rfl (by decide) rfl (by decide) rfl (by decide) rfl (by decide) rfl (by decide) rfl (by decide) rfl (by decide) rfl (own_and255 _) rfl A6 (own_r11 _)
  ·
    refine G.aload H at_94 (pc' := 96) rfl rfl rfl ?_
    refine G.iload H at_96 (pc' := 98) rfl rfl ?_
    refine G.iload H at_98 (pc' := 100) rfl rfl ?_
    refine G.stC H f1 (by decide) (i := 2) rfl lB g2 (y := (x2 &&& 255)) (own_narC (own_u16 (own_and255 _))) at_100 (pc' := 101) rfl ?_
    intro T7 h7_ H7 W8 A9
    replace A9 : Arv Z h7_ p0 c0 .char 10 [(.int 67), (.int 79), (.int (x2 &&& 255)), (.int 78), (.int 69), (.int 67), (.int 84), (.int 69), (.int 68), (.int (x3 &&& 255))] (.int 0) := A9
    exact cut46_101 V ((x0 &&& 2147483647) % 11) x0 x1 x2 x3 x2 (x3 &&& 255) p0 c0 67 79 (x2 &&& 255) 78 69 67 84 69 68 (x3 &&& 255) x3 ((H7.less all0).mono (C' := 1) (S' := 10) (by decide) (by decide)) (by decide) rfl (by decide) rfl (own_and255 _) rfl (by decide) rfl (by decide) rfl (by decide) rfl (by decide) rfl (by decide) rfl (by decide) rfl (own_and255 _) rfl A9 (own_r11 _)
  ·
    refine G.aload H at_94 (pc' := 96) rfl rfl rfl ?_
    refine G.iload H at_96 (pc' := 98) rfl rfl ?_
    refine G.iload H at_98 (pc' := 100) rfl rfl ?_
    refine G.stC H f1 (by decide) (i := 3) rfl lB g2 (y := (x2 &&& 255)) (own_narC (own_u16 (own_and255 _))) at_100 (pc' := 101) rfl ?_
    intro T10 h10_ H10 W11 A12
    replace A12 : Arv Z h10_ p0 c0 .char 10 [(.int 67), (.int 79), (.int 78), (.int (x2 &&& 255)), (.int 69), (.int 67), (.int 84), (.int 69), (.int 68), (.int (x3 &&& 255))] (.int 0) := A12
    exact cut53_101 V ((x0 &&& 2147483647) % 11) x0 x1 x2 x3 x2 (x3 &&& 255) p0 c0 67 79 78 (x2 &&& 255) 69 67 84 69 68 (x3 &&& 255) x3 ((H10.less all0).mono (C' := 1) (S' := 10) (by decide) (by decide)) (by decide) rfl (by decide) rfl (by decide) rfl (own_and255 _) rfl (by decide) rfl (by decide) rfl (by decide) rfl (by decide) rfl (by decide) rfl (own_and255 _) rfl A12 (own_r11 _)
  ·
    refine G.aload H at_94 (pc' := 96) rfl rfl rfl ?_
    refine G.iload H at_96 (pc' := 98) rfl rfl ?_
    refine G.iload H at_98 (pc' := 100) rfl rfl ?_
    refine G.stC H f1 (by decide) (i := 4) rfl lB g2 (y := (x2 &&& 255)) (own_narC (own_u16 (own_and255 _))) at_100 (pc' := 101) rfl ?_
    intro T13 h13_ H13 W14 A15
    replace A15 : Arv Z h13_ p0 c0 .char 10 [(.int 67), (.int 79), (.int 78), (.int 78), (.int (x2 &&& 255)), (.int 67), (.int 84), (.int 69), (.int 68), (.int (x3 &&& 255))] (.int 0) := A15
    exact cut60_101 V ((x0 &&& 2147483647) % 11) x0 x1 x2 x3 x2 (x3 &&& 255) p0 c0 67 79 78 78 (x2 &&& 255) 67 84 69 68 (x3 &&& 255) x3 ((H13.less all0).mono (C' := 1) (S' := 10) (by decide) (by decide)) (by decide) rfl (by decide) rfl (by decide) rfl (by decide) rfl (own_and255 _) rfl (by decide) rfl (by decide) rfl (by decide) rfl (by decide) rfl (own_and255 _) rfl A15 (own_r11 _)
  ·
    refine G.aload H at_94 (pc' := 96) rfl rfl rfl ?_
    refine G.iload H at_96 (pc' := 98) rfl rfl ?_
    refine G.iload H at_98 (pc' := 100) rfl rfl ?_
    refine G.stC H f1 (by decide) (i := 5) rfl lB g2 (y := (x2 &&& 255)) (own_narC (own_u16 (own_and255 _))) at_100 (pc' := 101) rfl ?_
    intro T16 h16_ H16 W17 A18
    replace A18 : Arv Z h16_ p0 c0 .char 10 [(.int 67), (.int 79), (.int 78), (.int 78), (.int 69), (.int (x2 &&& 255)), (.int 84), (.int 69), (.int 68), (.int (x3 &&& 255))] (.int 0) := A18
    exact cut67_101 V ((x0 &&& 2147483647) % 11) x0 x1 x2 x3 x2 (x3 &&& 255) p0 c0 67 79 78 78 69 (x2 &&& 255) 84 69 68 (x3 &&& 255) x3 ((H16.less all0).mono (C' := 1) (S' := 10) (by decide) (by decide)) (by decide) rfl (by decide) rfl (by decide) rfl (by decide) rfl (by decide) rfl (own_and255 _) rfl (by decide) rfl (by decide) rfl (by decide) rfl (own_and255 _) rfl A18 (own_r11 _)
  ·
    refine G.aload H at_94 (pc' := 96) rfl rfl rfl ?_
    refine G.iload H at_96 (pc' := 98) rfl rfl ?_
    refine G.iload H at_98 (pc' := 100) rfl rfl ?_
    refine G.stC H f1 (by decide) (i := 6) rfl lB g2 (y := (x2 &&& 255)) (own_narC (own_u16 (own_and255 _))) at_100 (pc' := 101) rfl ?_
    intro T19 h19_ H19 W20 A21
    replace A21 : Arv Z h19_ p0 c0 .char 10 [(.int 67), (.int 79), (.int 78), (.int 78), (.int 69), (.int 67), (.int (x2 &&& 255)), (.int 69), (.int 68), (.int (x3 &&& 255))] (.int 0) := A21
    exact cut74_101 V ((x0 &&& 2147483647) % 11) x0 x1 x2 x3 x2 (x3 &&& 255) p0 c0 67 79 78 78 69 67 (x2 &&& 255) 69 68 (x3 &&& 255) x3 ((H19.less all0).mono (C' := 1) (S' := 10) (by decide) (by decide)) (by decide) rfl (by decide) rfl (by decide) rfl (by decide) rfl (by decide) rfl (by decide) rfl (own_and255 _) rfl (by decide) rfl (by decide) rfl (own_and255 _) rfl A21 (own_r11 _)
  ·
    refine G.aload H at_94 (pc' := 96) rfl rfl rfl ?_
    refine G.iload H at_96 (pc' := 98) rfl rfl ?_
    refine G.iload H at_98 (pc' := 100) rfl rfl ?_
    refine G.stC H f1 (by decide) (i := 7) rfl lB g2 (y := (x2 &&& 255)) (own_narC (own_u16 (own_and255 _))) at_100 (pc' := 101) rfl ?_
    intro T22 h22_ H22 W23 A24
    replace A24 : Arv Z h22_ p0 c0 .char 10 [(.int 67), (.int 79), (.int 78), (.int 78), (.int 69), (.int 67), (.int 84), (.int (x2 &&& 255)), (.int 68), (.int (x3 &&& 255))] (.int 0) := A24
    exact cut80_101 V ((x0 &&& 2147483647) % 11) x0 x1 x2 x3 x2 (x3 &&& 255) p0 c0 67 79 78 78 69 67 84 (x2 &&& 255) 68 (x3 &&& 255) x3 ((H22.less all0).mono (C' := 1) (S' := 10) (by decide) (by decide)) (by decide) rfl (by decide) rfl (by decide) rfl (by decide) rfl (by decide) rfl (by decide) rfl (by decide) rfl (own_and255 _) rfl (by decide) rfl (own_and255 _) rfl A24 (own_r11 _)
  ·
    refine G.aload H at_94 (pc' := 96) rfl rfl rfl ?_
    refine G.iload H at_96 (pc' := 98) rfl rfl ?_
    refine G.iload H at_98 (pc' := 100) rfl rfl ?_
    refine G.stC H f1 (by decide) (i := 8) rfl lB g2 (y := (x2 &&& 255)) (own_narC (own_u16 (own_and255 _))) at_100 (pc' := 101) rfl ?_
    intro T25 h25_ H25 W26 A27
    replace A27 : Arv Z h25_ p0 c0 .char 10 [(.int 67), (.int 79), (.int 78), (.int 78), (.int 69), (.int 67), (.int 84), (.int 69), (.int (x2 &&& 255)), (.int (x3 &&& 255))] (.int 0) := A27
    exact cut86_101 V ((x0 &&& 2147483647) % 11) x0 x1 x2 x3 x2 (x3 &&& 255) p0 c0 67 79 78 78 69 67 84 69 (x2 &&& 255) (x3 &&& 255) x3 ((H25.less all0).mono (C' := 1) (S' := 10) (by decide) (by decide)) (by decide) rfl (by decide) rfl (by decide) rfl (by decide) rfl (by decide) rfl (by decide) rfl (by decide) rfl (by decide) rfl (own_and255 _) rfl (own_and255 _) rfl A27 (own_r11 _)
  ·
    refine G.aload H at_94 (pc' := 96) rfl rfl rfl ?_
    refine G.iload H at_96 (pc' := 98) rfl rfl ?_
    refine G.iload H at_98 (pc' := 100) rfl rfl ?_
    refine G.stC H f1 (by decide) (i := 9) rfl lB g2 (y := (x2 &&& 255)) (own_narC (own_u16 (own_and255 _))) at_100 (pc' := 101) rfl ?_
    intro T28 h28_ H28 W29 A30
    replace A30 : Arv Z h28_ p0 c0 .char 10 [(.int 67), (.int 79), (.int 78), (.int 78), (.int 69), (.int 67), (.int 84), (.int 69), (.int 68), (.int (x2 &&& 255))] (.int 0) := A30
    exact cut87_101 V ((x0 &&& 2147483647) % 11) x0 x1 x2 x3 x2 (x3 &&& 255) p0 c0 67 79 78 78 69 67 84 69 68 (x2 &&& 255) ((H28.less all0).mono (C' := 1) (S' := 10) (by decide) (by decide)) (by decide) rfl (by decide) rfl (by decide) rfl (by decide) rfl (by decide) rfl (by decide) rfl (by decide) rfl (by decide) rfl (by decide) rfl (own_and255 _) rfl A30 (own_r11 _)
set_option maxRecDepth 65536 in
set_option maxHeartbeats 40000000 in
theorem rmLaw (V : Env1 Z a0 n0 uu0 uu1) (x0 : Int32) (x1 : Int32) (x2 : Int32) (x3 : Int32) (h0 : Heap) (hO : Old Z n0 h0) :
    Met Z a0 ELs True n0 l x code maxLocals ret room_1 #[(.int x0), (.int x1), (.int x2), (.int x3)] h0 [] (fun v h so => v = some (.int 1)) := by
  refine Met.of (EWl V) (by first | decide +kernel | rfl) hO (L0 := #[.val (.int x0), .val (.int x1), .val (.int x2), .val (.int x3), .unset, .unset, .unset, .unset, .unset, .unset, .unset]) rfl ?_
  intro p e s m below meth c T H
  show Go p e below _ (T.setTop (mkF m 0 #[.val (.int x0), .val (.int x1), .val (.int x2), .val (.int x3), .unset, .unset, .unset, .unset, .unset, .unset, .unset] []))
  refine G.iloadN H at_0 (pc' := 1) rfl rfl ?_
  refine G.ldcI H (wd0 V) at_1 (pc' := 3) rfl ?_
  refine G.iand H at_3 (pc' := 4) rfl ?_
  refine G.bipush H at_4 (pc' := 6) rfl (v := 11) rfl ?_
  refine G.irem H at_6 (pc' := 7) rfl (by decide) ?_
  refine G.istore H (L' := #[.val (.int x0), .val (.int x1), .val (.int x2), .val (.int x3), .val (.int ((x0 &&& 2147483647) % 11)), .unset, .unset, .unset, .unset, .unset, .unset]) at_7 (pc' := 9) rfl rfl ?_
  refine G.iloadN H at_9 (pc' := 10) rfl rfl ?_
  refine G.ldcI H (wd0 V) at_10 (pc' := 12) rfl ?_
  refine G.iand H at_12 (pc' := 13) rfl ?_
  refine G.bipush H at_13 (pc' := 15) rfl (v := 10) rfl ?_
  refine G.irem H at_15 (pc' := 16) rfl (by decide) ?_
  refine G.istore H (L' := #[.val (.int x0), .val (.int x1), .val (.int x2), .val (.int x3), .val (.int ((x0 &&& 2147483647) % 11)), .val (.int ((x1 &&& 2147483647) % 10)), .unset, .unset, .unset, .unset, .unset]) at_16 (pc' := 18) rfl rfl ?_
  refine G.iloadN H at_18 (pc' := 19) rfl rfl ?_
  refine G.sipush H at_19 (pc' := 22) rfl (v := 255) rfl ?_
  refine G.iand H at_22 (pc' := 23) rfl ?_
  refine G.i2c H (y := (x2 &&& 255)) at_23 (pc' := 24) rfl (own_c16 (own_u16 (own_and255 _))) ?_
  refine G.istore H (L' := #[.val (.int x0), .val (.int x1), .val (.int x2), .val (.int x3), .val (.int ((x0 &&& 2147483647) % 11)), .val (.int ((x1 &&& 2147483647) % 10)), .val (.int (x2 &&& 255)), .unset, .unset, .unset, .unset]) at_24 (pc' := 26) rfl rfl ?_
  refine G.iloadN H at_26 (pc' := 27) rfl rfl ?_
  refine G.sipush H at_27 (pc' := 30) rfl (v := 255) rfl ?_
  refine G.iand H at_30 (pc' := 31) rfl ?_
  refine G.i2c H (y := (x3 &&& 255)) at_31 (pc' := 32) rfl (own_c16 (own_u16 (own_and255 _))) ?_
  refine G.istore H (L' := #[.val (.int x0), .val (.int x1), .val (.int x2), .val (.int x3), .val (.int ((x0 &&& 2147483647) % 11)), .val (.int ((x1 &&& 2147483647) % 10)), .val (.int (x2 &&& 255)), .val (.int (x3 &&& 255)), .unset, .unset, .unset]) at_32 (pc' := 34) rfl rfl ?_
  refine G.bipush H at_34 (pc' := 36) rfl (v := 10) rfl ?_
  refine G.newP H (aty := .char) (wd1 V) at_36 (pc' := 38) rfl (by decide) (cap := 10) (by decide) (by decide) (by decide) (by decide) (vs := [(.int 0), (.int 0), (.int 0), (.int 0), (.int 0), (.int 0), (.int 0), (.int 0), (.int 0), (.int 0)]) rfl (ad := "[C") rfl ?_
  intro T1 h1_ a2 k5 ga2 H1 E3 A4 X6
  have na2 := H.nle ga2
  replace A4 : Arv Z h1_ a2 k5 .char 10 [(.int 0), (.int 0), (.int 0), (.int 0), (.int 0), (.int 0), (.int 0), (.int 0), (.int 0), (.int 0)] (.int 0) := A4
  refine G.dup H1 at_38 (pc' := 39) rfl rfl ?_
  refine G.iconst H1 at_39 (pc' := 40) rfl (v := 0) rfl ?_
  refine G.bipush H1 at_40 (pc' := 42) rfl (v := 67) rfl ?_
  refine G.stC H1 A4 (by decide) (i := 0) rfl lB na2 (y := 67) rfl at_42 (pc' := 43) rfl ?_
  intro T7 h7_ H7 W8 A9
  replace A9 : Arv Z h7_ a2 k5 .char 10 [(.int 67), (.int 0), (.int 0), (.int 0), (.int 0), (.int 0), (.int 0), (.int 0), (.int 0), (.int 0)] (.int 0) := A9
  refine G.dup H7 at_43 (pc' := 44) rfl rfl ?_
  refine G.iconst H7 at_44 (pc' := 45) rfl (v := 1) rfl ?_
  refine G.bipush H7 at_45 (pc' := 47) rfl (v := 79) rfl ?_
  refine G.stC H7 A9 (by decide) (i := 1) rfl lB na2 (y := 79) rfl at_47 (pc' := 48) rfl ?_
  intro T10 h10_ H10 W11 A12
  replace A12 : Arv Z h10_ a2 k5 .char 10 [(.int 67), (.int 79), (.int 0), (.int 0), (.int 0), (.int 0), (.int 0), (.int 0), (.int 0), (.int 0)] (.int 0) := A12
  refine G.dup H10 at_48 (pc' := 49) rfl rfl ?_
  refine G.iconst H10 at_49 (pc' := 50) rfl (v := 2) rfl ?_
  refine G.bipush H10 at_50 (pc' := 52) rfl (v := 78) rfl ?_
  refine G.stC H10 A12 (by decide) (i := 2) rfl lB na2 (y := 78) rfl at_52 (pc' := 53) rfl ?_
  intro T13 h13_ H13 W14 A15
  replace A15 : Arv Z h13_ a2 k5 .char 10 [(.int 67), (.int 79), (.int 78), (.int 0), (.int 0), (.int 0), (.int 0), (.int 0), (.int 0), (.int 0)] (.int 0) := A15
  refine G.dup H13 at_53 (pc' := 54) rfl rfl ?_
  refine G.iconst H13 at_54 (pc' := 55) rfl (v := 3) rfl ?_
  refine G.bipush H13 at_55 (pc' := 57) rfl (v := 78) rfl ?_
  refine G.stC H13 A15 (by decide) (i := 3) rfl lB na2 (y := 78) rfl at_57 (pc' := 58) rfl ?_
  intro T16 h16_ H16 W17 A18
  replace A18 : Arv Z h16_ a2 k5 .char 10 [(.int 67), (.int 79), (.int 78), (.int 78), (.int 0), (.int 0), (.int 0), (.int 0), (.int 0), (.int 0)] (.int 0) := A18
  refine G.dup H16 at_58 (pc' := 59) rfl rfl ?_
  refine G.iconst H16 at_59 (pc' := 60) rfl (v := 4) rfl ?_
  refine G.bipush H16 at_60 (pc' := 62) rfl (v := 69) rfl ?_
  refine G.stC H16 A18 (by decide) (i := 4) rfl lB na2 (y := 69) rfl at_62 (pc' := 63) rfl ?_
  intro T19 h19_ H19 W20 A21
  replace A21 : Arv Z h19_ a2 k5 .char 10 [(.int 67), (.int 79), (.int 78), (.int 78), (.int 69), (.int 0), (.int 0), (.int 0), (.int 0), (.int 0)] (.int 0) := A21
  refine G.dup H19 at_63 (pc' := 64) rfl rfl ?_
  refine G.iconst H19 at_64 (pc' := 65) rfl (v := 5) rfl ?_
  refine G.bipush H19 at_65 (pc' := 67) rfl (v := 67) rfl ?_
  refine G.stC H19 A21 (by decide) (i := 5) rfl lB na2 (y := 67) rfl at_67 (pc' := 68) rfl ?_
  intro T22 h22_ H22 W23 A24
  replace A24 : Arv Z h22_ a2 k5 .char 10 [(.int 67), (.int 79), (.int 78), (.int 78), (.int 69), (.int 67), (.int 0), (.int 0), (.int 0), (.int 0)] (.int 0) := A24
  refine G.dup H22 at_68 (pc' := 69) rfl rfl ?_
  refine G.bipush H22 at_69 (pc' := 71) rfl (v := 6) rfl ?_
  refine G.bipush H22 at_71 (pc' := 73) rfl (v := 84) rfl ?_
  refine G.stC H22 A24 (by decide) (i := 6) rfl lB na2 (y := 84) rfl at_73 (pc' := 74) rfl ?_
  intro T25 h25_ H25 W26 A27
  replace A27 : Arv Z h25_ a2 k5 .char 10 [(.int 67), (.int 79), (.int 78), (.int 78), (.int 69), (.int 67), (.int 84), (.int 0), (.int 0), (.int 0)] (.int 0) := A27
  refine G.dup H25 at_74 (pc' := 75) rfl rfl ?_
  refine G.bipush H25 at_75 (pc' := 77) rfl (v := 7) rfl ?_
  refine G.bipush H25 at_77 (pc' := 79) rfl (v := 69) rfl ?_
  refine G.stC H25 A27 (by decide) (i := 7) rfl lB na2 (y := 69) rfl at_79 (pc' := 80) rfl ?_
  intro T28 h28_ H28 W29 A30
  replace A30 : Arv Z h28_ a2 k5 .char 10 [(.int 67), (.int 79), (.int 78), (.int 78), (.int 69), (.int 67), (.int 84), (.int 69), (.int 0), (.int 0)] (.int 0) := A30
  refine G.dup H28 at_80 (pc' := 81) rfl rfl ?_
  refine G.bipush H28 at_81 (pc' := 83) rfl (v := 8) rfl ?_
  refine G.bipush H28 at_83 (pc' := 85) rfl (v := 68) rfl ?_
  refine G.stC H28 A30 (by decide) (i := 8) rfl lB na2 (y := 68) rfl at_85 (pc' := 86) rfl ?_
  intro T31 h31_ H31 W32 A33
  replace A33 : Arv Z h31_ a2 k5 .char 10 [(.int 67), (.int 79), (.int 78), (.int 78), (.int 69), (.int 67), (.int 84), (.int 69), (.int 68), (.int 0)] (.int 0) := A33
  refine G.dup H31 at_86 (pc' := 87) rfl rfl ?_
  refine G.bipush H31 at_87 (pc' := 89) rfl (v := 9) rfl ?_
  refine G.iload H31 at_89 (pc' := 91) rfl rfl ?_
  refine G.stC H31 A33 (by decide) (i := 9) rfl lB na2 (y := (x3 &&& 255)) (own_narC (own_u16 (own_and255 _))) at_91 (pc' := 92) rfl ?_
  intro T34 h34_ H34 W35 A36
  replace A36 : Arv Z h34_ a2 k5 .char 10 [(.int 67), (.int 79), (.int 78), (.int 78), (.int 69), (.int 67), (.int 84), (.int 69), (.int 68), (.int (x3 &&& 255))] (.int 0) := A36
  refine G.astore H34 (L' := #[.val (.int x0), .val (.int x1), .val (.int x2), .val (.int x3), .val (.int ((x0 &&& 2147483647) % 11)), .val (.int ((x1 &&& 2147483647) % 10)), .val (.int (x2 &&& 255)), .val (.int (x3 &&& 255)), .val (.ref a2), .unset, .unset]) at_92 (pc' := 94) rfl rfl rfl ?_
  exact cut88_94 V ((x1 &&& 2147483647) % 10) x0 x1 x2 x3 a2 k5 ((H34.less all0).mono (C' := 1) (S' := 10) (by decide) (by decide)) (own_r10 _) A36 na2

set_option maxRecDepth 65536 in
set_option maxHeartbeats 40000000 in
theorem comes_1 {Post : Tables → Env → Array Value → State → Outcome → State → Prop} (hpost : ∀ tb e args s v u, (limb_1_1.after args s (.returned v) u = true ∧ limb_1_2.after args s (.returned v) u = true ∧ True) → ReturnedEndW s (.returned v) u (Jvm.fieldLocs frame_1_writes args s ++ Jvm.arrayLocs frame_1_arrays args s ++ Jvm.staticLocs frame_1_statics s) 24 4288 → Post tb e args s (.returned v) u) :
    ArmFor flags0 classFile x code maxLocals ret World_1 tables_1 room_1 Calls_1 rest_1 Pre_1 Post := by
  intro l hfl _ _ p e ha hc hk s m args below hf hA hF happ hP
  obtain ⟨hcalls, hrest, hpre⟩ := hP
  obtain ⟨-, -, -, hnamed, -, -, -, hat⟩ := (Spec.applies_iff hf).mp happ
  obtain ⟨hg, hn⟩ := and_e (Cond.before_iff.mp (show (Jvm.Cond.and given_1 narrow_1).before args s = true from hpre))
  obtain ⟨hg0, hg1⟩ := and_e hg
  obtain ⟨ha0, hg2⟩ := and_e hg1
  obtain ⟨ha1, hg3⟩ := and_e hg2
  obtain ⟨ha2, hg4⟩ := and_e hg3
  have ha3 := hg4
  obtain ⟨w0, w1, w2, w3, rfl⟩ : ∃ w0 w1 w2 w3 : Value, args = #[w0, w1, w2, w3] := by
    have hs : args.size = 4 := by simpa [Cond.value, given_1] using hg0
    obtain ⟨L⟩ := args
    match L, hs with
    | [w0, w1, w2, w3], _ => exact ⟨w0, w1, w2, w3, rfl⟩
  have hw := fun d (hd : d ∈ tables_1) => atoms_spec (ws := Jvm.Cond.code x code maxLocals ret :: tables_1) hat d (List.mem_cons_of_mem _ hd)
  obtain ⟨hsets, hown0⟩ := atoms_of _ (rest_1_c_eq ▸ (show rest_1_c.before _ s = true from hrest))
  have hr0 := Cond.before_iff.mp hown0
  have hfit : Fit s := fun {y c} hc i hi => by
    obtain ⟨ha, rfl⟩ := Array.getElem?_eq_some_iff.mp hc
    have q := List.all_eq_true.mp ((Array.all_eq_true_iff_forall_mem.mp hF) _ (Array.getElem_mem ha)) i (List.mem_range.mpr hi)
    simpa [Array.getElem?_eq_getElem hi] using q
  obtain ⟨i0, e0⟩ := is_v ha0
  obtain rfl : w0 = (.int i0) := Option.some.inj e0
  obtain ⟨i1, e1⟩ := is_v ha1
  obtain rfl : w1 = (.int i1) := Option.some.inj e1
  obtain ⟨i2, e2⟩ := is_v ha2
  obtain rfl : w2 = (.int i2) := Option.some.inj e2
  obtain ⟨i3, e3⟩ := is_v ha3
  obtain rfl : w3 = (.int i3) := Option.some.inj e3
  obtain ⟨uu0, ez_COMPACT_STRINGS⟩ := is_v (Cond.before_iff.mp (hsets _ (List.mem_of_getElem? (i := 1) rfl)))
  have hv0 := Sta.start ez_COMPACT_STRINGS (Or.inl (hsets _ (List.mem_of_getElem? (i := 0) rfl)))
  have hv1 : ¬ (uu0 = (0 : Int32)) := gotF (Cond.eq_ints ez_COMPACT_STRINGS (Term.int_eval (0))) (not_v (Cond.before_iff.mp (hsets _ (List.mem_of_getElem? (i := 2) rfl))))
  obtain ⟨uu1, ez_SIOOBE_FORMATTER, hv3⟩ := isR_v (Cond.before_iff.mp (hsets _ (List.mem_of_getElem? (i := 8) rfl)))
  have hv2 := Sta.start ez_SIOOBE_FORMATTER (Or.inl (hsets _ (List.mem_of_getElem? (i := 7) rfl)))
  have V : Env1 s _ s.heap.size uu0 uu1 := ⟨hw, (EW.cons (hw _ (List.mem_of_getElem? (i := 31) rfl)) (by decide) (EW.cons (hw _ (List.mem_of_getElem? (i := 43) rfl)) (by decide) (EW.cons (hw _ (List.mem_of_getElem? (i := 54) rfl)) (by decide) (EW.cons (hw _ (List.mem_of_getElem? (i := 19) rfl)) (by decide) EW.nil)))), hv0, hv1, hv2, hv3, trivial⟩
  have hCH : CHv s ELs s.vm s.heap := CHv.start (EWl V) (fun q hq => hcalls.1 q hq) (hsets _ (List.mem_of_getElem? (i := 2) rfl)) (hw _ (List.mem_of_getElem? (i := 20) rfl)) (hw _ (List.mem_of_getElem? (i := 7) rfl))
  obtain ⟨n, o, g1, g2, g3, v, L, so, rfl, rfl, -, N, -, -, hq, hq2⟩ := rmLaw (l := l) V i0 i1 i2 i3 s.heap (Old.start s) tables_1 p e ha hc hk s m _ below hf ((Spec.applies_iff_loose hf).mp happ).1 ⟨rfl, State.Warmed39.refl s, rfl, hCH, fun _ q => nomatch q⟩ trivial
  refine ⟨n, _, g1, g2, g3, hpost _ _ _ _ _ _ ⟨Cond.after_iff.mpr rfl, Cond.after_iff.mpr (eq_i res_at (Term.int_eval (1)) rfl), trivial⟩ ⟨hq.1, hq.2.1, hq.2.2.1, (hq.2.2.2.sift fun y hy => Or.inr (N y hy)).mono (by decide) (by decide)⟩⟩
theorem main_1_1 : Claimed_1_1 := comes_1 fun _ _ _ _ _ _ h hF => ⟨h.1, hF⟩
theorem main_1_2 : Claimed_1_2 := comes_1 fun _ _ _ _ _ _ h hF => ⟨h.2.1, hF⟩
end Jvm.Pilot.@@N@@
namespace Jvm.Pilot.@@N@@
open Jvm Jvm.ClassFile Sem Op Lib Jvm.Free Jvm.Stand Jvm.Pilot.@@N@@.Jvm.D
/-! MADE BY PROGRAM (witnessworld.py) out of the Statement's table words and the real class files: 20 classes; the members and pool entries that the words name. The judged class is class 1, her method 1. -/
namespace start1
open Jvm.ClassFile
def u (s : String) : CpInfo := .utf8 (stringToUtf16 s)
/-- a pool by its gaps: so many unusable entries, then the entry; so many at the end -/
def gap : Nat → List CpInfo → List CpInfo
  | 0, r => r
  | n + 1, r => .unusable :: gap n r
def poolList (es : List (Nat × CpInfo)) (last : Nat) : List CpInfo := es.foldr (fun e r => gap e.1 (e.2 :: r)) (gap last [])
def pool (es : List (Nat × CpInfo)) (last : Nat) : Array CpInfo := ⟨poolList es last⟩
def fileOf (pool : Array CpInfo) (this : Nat) (attrs : Array Attribute := #[]) (ms : Array MethodInfo := #[]) (fl : Nat := 33) (sup : Nat := 0) (ifs : Array Nat := #[]) (fds : Array FieldInfo := #[]) : ClassFile where
  minorVersion := 0
  majorVersion := 65
  constantPool := pool
  accessFlags := fl
  thisClass := this
  superClass := sup
  interfaces := ifs
  fields := fds
  methods := ms
  attributes := attrs
def plain (name : String) (sup : Option ClassId) : Class where
  name := name
  kind := .ordinary
  loader := none
  accessFlags := 33
  super := sup
  interfaces := #[]
  cf := none
  fields := #[]
  methods := #[]
  instanceTypes := #[]
  staticTypes := #[]
  resolved := #[]
  callSites := []
  init := .initialized
  statics := none
  mirror := none

def pool0 : Array CpInfo := pool [(5, u "<init>"), (0, u "()V"), (1, .class_ 10), (1, u "java/lang/Object")] 113

def k0c0 : Code := { maxStack := 0, maxLocals := 1, code := object_method_1_code, exceptionTable := #[], attributes := #[] }
def k0m0 : Method := { name := "<init>", desc := "()V", sig := { parameters := [], returnType := none }, accessFlags := 1, code := some k0c0 }
/-- java/lang/Object -/
def k0 : Class := { plain "java/lang/Object" none with
  accessFlags := 33
  interfaces := #[]
  cf := some (fileOf pool0 8 #[] #[{ accessFlags := 1, nameIndex := 5, descriptorIndex := 6, attributes := #[] }] 33 0 #[] #[])
  fields := #[]
  methods := #[k0m0]
  instanceTypes := #[]
  staticTypes := #[]
  resolved := Array.replicate 124 none
  statics := none }

def pool1 : Array CpInfo := pool [(2, .class_ 4), (1, u "java/lang/Object"), (0, u "<init>"), (0, u "()V"), (0, .integer 2147483647), (0, .methodref 9 10), (0, .class_ 11), (0, .nameAndType 12 13), (0, u "bindery/server/stomp/HeaderEscapesApplyPinLaw"), (0, u "cut"), (0, u "([CI)Ljava/lang/String;"), (0, .string 15), (0, u "CONNECTED"), (0, .methodref 17 18), (0, .class_ 19), (0, .nameAndType 20 21), (0, u "java/lang/String"), (0, u "charAt"), (0, u "(I)C"), (0, .methodref 23 24), (0, .class_ 25), (0, .nameAndType 26 27), (0, u "bindery/server/stomp/HeaderEscapes"), (0, u "apply"), (0, u "(Ljava/lang/String;)Z"), (0, .methodref 17 29), (0, .nameAndType 5 30), (0, u "([C)V"), (2, u "law"), (0, u "(IIII)Z")] 5

def k1m0 : Method := { name := "<init>", desc := "()V", sig := { parameters := [], returnType := none }, accessFlags := 1, code := none }
def k1c1 : Code := { maxStack := 4, maxLocals := 11, code := code, exceptionTable := #[], attributes := #[] }
def k1m1 : Method := { name := "law", desc := "(IIII)Z", sig := { parameters := [.int, .int, .int, .int], returnType := some .boolean }, accessFlags := 9, code := some k1c1 }
def k1c2 : Code := { maxStack := 7, maxLocals := 2, code := method_3_code, exceptionTable := #[], attributes := #[] }
def k1m2 : Method := { name := "cut", desc := "([CI)Ljava/lang/String;", sig := { parameters := [(.array .char), .int], returnType := some (.object "java/lang/String") }, accessFlags := 10, code := some k1c2 }
/-- bindery/server/stomp/HeaderEscapesApplyPinLaw -/
def k1 : Class := { plain "bindery/server/stomp/HeaderEscapesApplyPinLaw" (some 0) with
  accessFlags := 49
  interfaces := #[]
  cf := some (fileOf pool1 9 #[] #[{ accessFlags := 1, nameIndex := 5, descriptorIndex := 6, attributes := #[] }, { accessFlags := 9, nameIndex := 33, descriptorIndex := 34, attributes := #[] }, { accessFlags := 10, nameIndex := 12, descriptorIndex := 13, attributes := #[] }] 49 2 #[] #[])
  fields := #[]
  methods := #[k1m0, k1m1, k1m2]
  instanceTypes := #[]
  staticTypes := #[]
  resolved := Array.replicate 40 none
  statics := none }

def pool2 : Array CpInfo := pool [(1, .class_ 2), (0, u "java/io/Serializable"), (0, .class_ 4), (0, u "java/lang/Object")] 2

/-- java/io/Serializable -/
def k2 : Class := { plain "java/io/Serializable" (some 0) with
  accessFlags := 1537
  interfaces := #[]
  cf := some (fileOf pool2 1 #[] #[] 1537 3 #[] #[])
  fields := #[]
  methods := #[]
  instanceTypes := #[]
  staticTypes := #[]
  resolved := Array.replicate 7 none
  statics := none }

def pool3 : Array CpInfo := pool [(1, .class_ 2), (0, u "java/lang/Comparable"), (0, .class_ 4), (0, u "java/lang/Object")] 7

/-- java/lang/Comparable -/
def k3 : Class := { plain "java/lang/Comparable" (some 0) with
  accessFlags := 1537
  interfaces := #[]
  cf := some (fileOf pool3 1 #[] #[] 1537 3 #[] #[])
  fields := #[]
  methods := #[]
  instanceTypes := #[]
  staticTypes := #[]
  resolved := Array.replicate 12 none
  statics := none }

def pool4 : Array CpInfo := pool [(2, .class_ 4), (1, u "java/lang/CharSequence"), (42, .class_ 48), (0, u "java/lang/CharSequence$1CodePointIterator"), (10, .class_ 60), (0, u "java/lang/CharSequence$1CharIterator"), (5, .class_ 67), (0, u "java/lang/Object")] 63

/-- java/lang/CharSequence -/
def k4 : Class := { plain "java/lang/CharSequence" (some 0) with
  accessFlags := 1537
  interfaces := #[]
  cf := some (fileOf pool4 2 #[.nestMembers #[47, 59]] #[] 1537 66 #[] #[])
  fields := #[]
  methods := #[]
  instanceTypes := #[]
  staticTypes := #[]
  resolved := Array.replicate 131 none
  statics := none }

def pool5 : Array CpInfo := pool [(1, .class_ 2), (0, u "java/lang/constant/Constable"), (0, .class_ 4), (0, u "java/lang/Object")] 6

/-- java/lang/constant/Constable -/
def k5 : Class := { plain "java/lang/constant/Constable" (some 0) with
  accessFlags := 1537
  interfaces := #[]
  cf := some (fileOf pool5 1 #[] #[] 1537 3 #[] #[])
  fields := #[]
  methods := #[]
  instanceTypes := #[]
  staticTypes := #[]
  resolved := Array.replicate 11 none
  statics := none }

def pool6 : Array CpInfo := pool [(1, .class_ 2), (0, u "java/lang/constant/ConstantDesc"), (0, .class_ 4), (0, u "java/lang/Object")] 32

/-- java/lang/constant/ConstantDesc -/
def k6 : Class := { plain "java/lang/constant/ConstantDesc" (some 0) with
  accessFlags := 1537
  interfaces := #[]
  cf := some (fileOf pool6 1 #[] #[] 1537 3 #[] #[])
  fields := #[]
  methods := #[]
  instanceTypes := #[]
  staticTypes := #[]
  resolved := Array.replicate 37 none
  statics := none }

def pool7 : Array CpInfo := pool [(1, .methodref 2 3), (0, .class_ 4), (0, .nameAndType 5 6), (0, u "java/lang/Object"), (0, u "<init>"), (0, u "()V"), (0, .string 8), (0, u ""), (0, .fieldref 10 11), (0, .class_ 12), (0, .nameAndType 13 14), (0, u "java/lang/String"), (0, u "value"), (0, u "[B"), (0, .fieldref 10 16), (0, .nameAndType 17 18), (0, u "coder"), (0, u "B"), (2, u "hash"), (0, u "I"), (2, u "hashIsZero"), (0, u "Z"), (0, .methodref 10 28), (0, .nameAndType 5 29), (0, u "([CIILjava/lang/Void;)V"), (8, .fieldref 10 39), (0, .nameAndType 40 26), (0, u "COMPACT_STRINGS"), (1, .class_ 44), (1, u "java/lang/StringUTF16"), (0, u "compress"), (1, .methodref 42 48), (0, .nameAndType 49 50), (0, u "coderFromArrayLen"), (0, u "([BI)B"), (56, .class_ 109), (1, u "java/lang/StringLatin1"), (32, u "()Z"), (34, .methodref 42 178), (0, .nameAndType 45 179), (0, u "([CII)[B"), (183, u "([BI)C"), (27, u "(II)V"), (35, u "(I)C"), (64, .methodref 10 493), (0, .nameAndType 494 142), (0, u "isLatin1"), (0, .methodref 107 496), (0, .nameAndType 497 363), (0, u "charAt"), (3, u "checkIndex"), (39, .methodref 107 542), (0, .nameAndType 543 544), (0, u "equals"), (0, u "([B[B)Z"), (28, u "(Ljava/lang/Object;)Z"), (1, .class_ 576), (0, u "java/lang/CharSequence"), (22, u "CASE_INSENSITIVE_ORDER"), (0, u "Ljava/util/Comparator;"), (409, u "([C)V"), (42, .fieldref 1054 1055), (0, .class_ 1056), (0, .nameAndType 1057 1058), (0, u "jdk/internal/util/Preconditions"), (0, u "SIOOBE_FORMATTER"), (0, u "Ljava/util/function/BiFunction;"), (0, .methodref 1054 1060), (0, .nameAndType 501 1061), (0, u "(IILjava/util/function/BiFunction;)I"), (39, u "serialPersistentFields"), (0, u "[Ljava/io/ObjectStreamField;"), (0, .class_ 1104), (0, u "java/lang/String$CaseInsensitiveComparator"), (1, .class_ 1107), (0, u "java/io/Serializable"), (0, .class_ 1109), (0, u "java/lang/Comparable"), (0, .class_ 1111), (0, u "java/lang/constant/Constable"), (0, .class_ 1113), (0, u "java/lang/constant/ConstantDesc"), (2, u "serialVersionUID"), (0, u "J"), (3, u "REPL"), (0, u "C"), (2, u "LATIN1"), (1, u "UTF16")] 323

def k7m0 : Method := { name := "<init>", desc := "()V", sig := { parameters := [], returnType := none }, accessFlags := 1, code := none }
def k7c1 : Code := { maxStack := 5, maxLocals := 2, code := jdk_42_method_3_code, exceptionTable := #[], attributes := #[] }
def k7m1 : Method := { name := "<init>", desc := "([C)V", sig := { parameters := [(.array .char)], returnType := none }, accessFlags := 1, code := some k7c1 }
def k7c2 : Code := { maxStack := 2, maxLocals := 2, code := jdk_42_method_56_code, exceptionTable := #[], attributes := #[] }
def k7m2 : Method := { name := "charAt", desc := "(I)C", sig := { parameters := [.int], returnType := some .char }, accessFlags := 1, code := some k7c2 }
def k7c3 : Code := { maxStack := 2, maxLocals := 3, code := jdk_42_method_66_code, exceptionTable := #[], attributes := #[] }
def k7m3 : Method := { name := "equals", desc := "(Ljava/lang/Object;)Z", sig := { parameters := [(.object "java/lang/Object")], returnType := some .boolean }, accessFlags := 1, code := some k7c3 }
def k7c4 : Code := { maxStack := 4, maxLocals := 6, code := jdk_42_method_149_code, exceptionTable := #[], attributes := #[] }
def k7m4 : Method := { name := "<init>", desc := "([CIILjava/lang/Void;)V", sig := { parameters := [(.array .char), .int, .int, (.object "java/lang/Void")], returnType := none }, accessFlags := 2, code := some k7c4 }
def k7c5 : Code := { maxStack := 1, maxLocals := 1, code := jdk_42_method_154_code, exceptionTable := #[], attributes := #[] }
def k7m5 : Method := { name := "isLatin1", desc := "()Z", sig := { parameters := [], returnType := some .boolean }, accessFlags := 0, code := some k7c5 }
def k7c6 : Code := { maxStack := 3, maxLocals := 2, code := jdk_42_method_155_code, exceptionTable := #[], attributes := #[] }
def k7m6 : Method := { name := "checkIndex", desc := "(II)V", sig := { parameters := [.int, .int], returnType := none }, accessFlags := 8, code := some k7c6 }
/-- java/lang/String -/
def k7 : Class := { plain "java/lang/String" (some 0) with
  accessFlags := 49
  interfaces := #[2, 3, 4, 5, 6]
  cf := some (fileOf pool7 10 #[.nestMembers #[1103]] #[{ accessFlags := 1, nameIndex := 5, descriptorIndex := 6, attributes := #[] }, { accessFlags := 1, nameIndex := 5, descriptorIndex := 1010, attributes := #[] }, { accessFlags := 1, nameIndex := 497, descriptorIndex := 427, attributes := #[] }, { accessFlags := 1, nameIndex := 543, descriptorIndex := 573, attributes := #[] }, { accessFlags := 2, nameIndex := 5, descriptorIndex := 29, attributes := #[] }, { accessFlags := 0, nameIndex := 494, descriptorIndex := 142, attributes := #[] }, { accessFlags := 8, nameIndex := 501, descriptorIndex := 391, attributes := #[] }] 49 2 #[1106, 1108, 575, 1110, 1112] #[{ accessFlags := 18, nameIndex := 13, descriptorIndex := 14, attributes := #[] }, { accessFlags := 18, nameIndex := 17, descriptorIndex := 18, attributes := #[] }, { accessFlags := 2, nameIndex := 21, descriptorIndex := 22, attributes := #[] }, { accessFlags := 2, nameIndex := 25, descriptorIndex := 26, attributes := #[] }, { accessFlags := 26, nameIndex := 1116, descriptorIndex := 1117, attributes := #[] }, { accessFlags := 24, nameIndex := 40, descriptorIndex := 26, attributes := #[] }, { accessFlags := 26, nameIndex := 1101, descriptorIndex := 1102, attributes := #[] }, { accessFlags := 26, nameIndex := 1121, descriptorIndex := 1122, attributes := #[] }, { accessFlags := 25, nameIndex := 599, descriptorIndex := 600, attributes := #[] }, { accessFlags := 24, nameIndex := 1125, descriptorIndex := 18, attributes := #[] }, { accessFlags := 24, nameIndex := 1127, descriptorIndex := 18, attributes := #[] }])
  fields := #[{ name := "value", type := (.array .byte), accessFlags := 18, slot := 0, constantValue := 0 }, { name := "coder", type := .byte, accessFlags := 18, slot := 1, constantValue := 0 }, { name := "hash", type := .int, accessFlags := 2, slot := 2, constantValue := 0 }, { name := "hashIsZero", type := .boolean, accessFlags := 2, slot := 3, constantValue := 0 }, { name := "serialVersionUID", type := .long, accessFlags := 26, slot := 0, constantValue := 0 }, { name := "COMPACT_STRINGS", type := .boolean, accessFlags := 24, slot := 1, constantValue := 0 }, { name := "serialPersistentFields", type := (.array (.object "java/io/ObjectStreamField")), accessFlags := 26, slot := 2, constantValue := 0 }, { name := "REPL", type := .char, accessFlags := 26, slot := 3, constantValue := 0 }, { name := "CASE_INSENSITIVE_ORDER", type := (.object "java/util/Comparator"), accessFlags := 25, slot := 4, constantValue := 0 }, { name := "LATIN1", type := .byte, accessFlags := 24, slot := 5, constantValue := 0 }, { name := "UTF16", type := .byte, accessFlags := 24, slot := 6, constantValue := 0 }]
  methods := #[k7m0, k7m1, k7m2, k7m3, k7m4, k7m5, k7m6]
  instanceTypes := #[(.array .byte), .byte, .int, .boolean]
  staticTypes := #[.long, .boolean, (.array (.object "java/io/ObjectStreamField")), .char, (.object "java/util/Comparator"), .byte, .byte]
  resolved := Array.replicate 1451 none
  statics := some 0 }

def pool8 : Array CpInfo := pool [(2, .class_ 4), (1, u "java/lang/Object"), (0, u "<init>"), (0, u "()V"), (0, .string 8), (0, u "CONNECT"), (0, .methodref 10 11), (0, .class_ 12), (0, .nameAndType 13 14), (0, u "java/lang/String"), (0, u "equals"), (0, u "(Ljava/lang/Object;)Z"), (0, .string 16), (0, u "CONNECTED"), (9, .class_ 28), (1, u "bindery/server/stomp/HeaderEscapes"), (42, u "apply"), (0, u "(Ljava/lang/String;)Z")] 7

def k8m0 : Method := { name := "<init>", desc := "()V", sig := { parameters := [], returnType := none }, accessFlags := 2, code := none }
def k8c1 : Code := { maxStack := 2, maxLocals := 1, code := prog_84_method_2_code, exceptionTable := #[], attributes := #[] }
def k8m1 : Method := { name := "apply", desc := "(Ljava/lang/String;)Z", sig := { parameters := [(.object "java/lang/String")], returnType := some .boolean }, accessFlags := 8, code := some k8c1 }
/-- bindery/server/stomp/HeaderEscapes -/
def k8 : Class := { plain "bindery/server/stomp/HeaderEscapes" (some 0) with
  accessFlags := 48
  interfaces := #[]
  cf := some (fileOf pool8 26 #[] #[{ accessFlags := 2, nameIndex := 5, descriptorIndex := 6, attributes := #[] }, { accessFlags := 8, nameIndex := 71, descriptorIndex := 72, attributes := #[] }] 48 2 #[] #[])
  fields := #[]
  methods := #[k8m0, k8m1]
  instanceTypes := #[]
  staticTypes := #[]
  resolved := Array.replicate 80 none
  statics := none }

def pool9 : Array CpInfo := pool [(1, .class_ 2), (0, u "java/lang/String"), (1, .class_ 6), (1, u "java/lang/Object"), (0, u "<init>"), (0, u "()V"), (0, .methodref 1 10), (0, .nameAndType 11 12), (0, u "checkIndex"), (0, u "(II)V"), (1, .class_ 16), (1, u "java/lang/StringLatin1"), (36, u "([BI)C"), (67, u "$assertionsDisabled"), (0, u "Z"), (98, .class_ 223), (1, u "java/lang/StringLatin1$LinesSpliterator"), (28, u "charAt"), (28, u "equals"), (0, u "([B[B)Z"), (107, .class_ 391), (0, u "java/lang/StringLatin1$CharsSpliterator")] 3

def k9m0 : Method := { name := "<init>", desc := "()V", sig := { parameters := [], returnType := none }, accessFlags := 0, code := none }
def k9c1 : Code := { maxStack := 2, maxLocals := 2, code := jdk_43_method_2_code, exceptionTable := #[], attributes := #[] }
def k9m1 : Method := { name := "charAt", desc := "([BI)C", sig := { parameters := [(.array .byte), .int], returnType := some .char }, accessFlags := 9, code := some k9c1 }
def k9c2 : Code := { maxStack := 3, maxLocals := 3, code := jdk_43_method_13_code, exceptionTable := #[], attributes := #[] }
def k9m2 : Method := { name := "equals", desc := "([B[B)Z", sig := { parameters := [(.array .byte), (.array .byte)], returnType := some .boolean }, accessFlags := 9, code := some k9c2 }
/-- java/lang/StringLatin1 -/
def k9 : Class := { plain "java/lang/StringLatin1" (some 0) with
  accessFlags := 48
  interfaces := #[]
  cf := some (fileOf pool9 14 #[.nestMembers #[390, 221]] #[{ accessFlags := 0, nameIndex := 7, descriptorIndex := 8, attributes := #[] }, { accessFlags := 9, nameIndex := 252, descriptorIndex := 53, attributes := #[] }, { accessFlags := 9, nameIndex := 281, descriptorIndex := 282, attributes := #[] }] 48 4 #[] #[{ accessFlags := 4120, nameIndex := 121, descriptorIndex := 122, attributes := #[] }])
  fields := #[{ name := "$assertionsDisabled", type := .boolean, accessFlags := 4120, slot := 0, constantValue := 0 }]
  methods := #[k9m0, k9m1, k9m2]
  instanceTypes := #[]
  staticTypes := #[.boolean]
  resolved := Array.replicate 395 none
  statics := none }

def pool10 : Array CpInfo := pool [(6, .class_ 8), (1, u "java/lang/Object"), (0, u "<init>"), (0, u "()V"), (1, .class_ 14), (1, u "java/lang/StringUTF16"), (31, u "$assertionsDisabled"), (0, u "Z"), (13, u "HI_BYTE_SHIFT"), (0, u "I"), (2, u "LO_BYTE_SHIFT"), (49, .methodref 12 116), (0, .nameAndType 117 118), (0, u "compress"), (0, u "([CI[BII)I"), (3, u "([CII)[B"), (138, u "coderFromArrayLen"), (0, u "([BI)B"), (106, .class_ 371), (1, u "java/lang/StringUTF16$LinesSpliterator"), (58, u "MAX_LENGTH"), (196, .class_ 628), (0, u "java/lang/StringUTF16$CodePointsSpliterator"), (0, .class_ 630), (0, u "java/lang/StringUTF16$CharsSpliterator")] 4

def k10m0 : Method := { name := "<init>", desc := "()V", sig := { parameters := [], returnType := none }, accessFlags := 0, code := none }
def k10c1 : Code := { maxStack := 2, maxLocals := 2, code := jdk_52_method_15_code, exceptionTable := #[], attributes := #[] }
def k10m1 : Method := { name := "coderFromArrayLen", desc := "([BI)B", sig := { parameters := [(.array .byte), .int], returnType := some .byte }, accessFlags := 8, code := some k10c1 }
def k10c2 : Code := { maxStack := 5, maxLocals := 6, code := jdk_52_method_16_code, exceptionTable := #[], attributes := #[] }
def k10m2 : Method := { name := "compress", desc := "([CII)[B", sig := { parameters := [(.array .char), .int, .int], returnType := some (.array .byte) }, accessFlags := 9, code := some k10c2 }
def k10c3 : Code := { maxStack := 3, maxLocals := 7, code := jdk_52_method_21_code, exceptionTable := #[], attributes := #[] }
def k10m3 : Method := { name := "compress", desc := "([CI[BII)I", sig := { parameters := [(.array .char), .int, (.array .byte), .int, .int], returnType := some .int }, accessFlags := 9, code := some k10c3 }
/-- java/lang/StringUTF16 -/
def k10 : Class := { plain "java/lang/StringUTF16" (some 0) with
  accessFlags := 48
  interfaces := #[]
  cf := some (fileOf pool10 12 #[.nestMembers #[627, 629, 369]] #[{ accessFlags := 0, nameIndex := 9, descriptorIndex := 10, attributes := #[] }, { accessFlags := 8, nameIndex := 261, descriptorIndex := 262, attributes := #[] }, { accessFlags := 9, nameIndex := 117, descriptorIndex := 122, attributes := #[] }, { accessFlags := 9, nameIndex := 117, descriptorIndex := 118, attributes := #[] }] 48 6 #[] #[{ accessFlags := 26, nameIndex := 61, descriptorIndex := 62, attributes := #[] }, { accessFlags := 26, nameIndex := 65, descriptorIndex := 62, attributes := #[] }, { accessFlags := 24, nameIndex := 430, descriptorIndex := 62, attributes := #[] }, { accessFlags := 4120, nameIndex := 46, descriptorIndex := 47, attributes := #[] }])
  fields := #[{ name := "HI_BYTE_SHIFT", type := .int, accessFlags := 26, slot := 0, constantValue := 0 }, { name := "LO_BYTE_SHIFT", type := .int, accessFlags := 26, slot := 1, constantValue := 0 }, { name := "MAX_LENGTH", type := .int, accessFlags := 24, slot := 2, constantValue := 0 }, { name := "$assertionsDisabled", type := .boolean, accessFlags := 4120, slot := 3, constantValue := 0 }]
  methods := #[k10m0, k10m1, k10m2, k10m3]
  instanceTypes := #[]
  staticTypes := #[.int, .int, .int, .boolean]
  resolved := Array.replicate 635 none
  statics := none }

def pool11 : Array CpInfo := pool [(2, .class_ 4), (1, u "java/lang/Object"), (0, u "<init>"), (0, u "()V"), (17, .class_ 26), (1, u "jdk/internal/util/Preconditions"), (6, u "checkIndex"), (21, .class_ 56), (0, u "jdk/internal/util/Preconditions$4"), (57, .class_ 115), (0, u "jdk/internal/util/Preconditions$1"), (7, u "SIOOBE_FORMATTER"), (0, u "Ljava/util/function/BiFunction;"), (0, .class_ 126), (0, u "jdk/internal/util/Preconditions$2"), (3, u "AIOOBE_FORMATTER"), (0, .class_ 132), (0, u "jdk/internal/util/Preconditions$3"), (3, u "IOOBE_FORMATTER"), (41, u "(IILjava/util/function/BiFunction;)I")] 15

def k11m0 : Method := { name := "<init>", desc := "()V", sig := { parameters := [], returnType := none }, accessFlags := 1, code := none }
def k11c1 : Code := { maxStack := 3, maxLocals := 3, code := jdk_41_method_11_code, exceptionTable := #[], attributes := #[] }
def k11m1 : Method := { name := "checkIndex", desc := "(IILjava/util/function/BiFunction;)I", sig := { parameters := [.int, .int, (.object "java/util/function/BiFunction")], returnType := some .int }, accessFlags := 9, code := some k11c1 }
/-- jdk/internal/util/Preconditions -/
def k11 : Class := { plain "jdk/internal/util/Preconditions" (some 0) with
  accessFlags := 33
  interfaces := #[]
  cf := some (fileOf pool11 24 #[.nestMembers #[55, 131, 125, 114]] #[{ accessFlags := 1, nameIndex := 5, descriptorIndex := 6, attributes := #[] }, { accessFlags := 9, nameIndex := 33, descriptorIndex := 178, attributes := #[] }] 33 2 #[] #[{ accessFlags := 25, nameIndex := 123, descriptorIndex := 124, attributes := #[] }, { accessFlags := 25, nameIndex := 130, descriptorIndex := 124, attributes := #[] }, { accessFlags := 25, nameIndex := 136, descriptorIndex := 124, attributes := #[] }])
  fields := #[{ name := "SIOOBE_FORMATTER", type := (.object "java/util/function/BiFunction"), accessFlags := 25, slot := 0, constantValue := 0 }, { name := "AIOOBE_FORMATTER", type := (.object "java/util/function/BiFunction"), accessFlags := 25, slot := 1, constantValue := 0 }, { name := "IOOBE_FORMATTER", type := (.object "java/util/function/BiFunction"), accessFlags := 25, slot := 2, constantValue := 0 }]
  methods := #[k11m0, k11m1]
  instanceTypes := #[]
  staticTypes := #[(.object "java/util/function/BiFunction"), (.object "java/util/function/BiFunction"), (.object "java/util/function/BiFunction")]
  resolved := Array.replicate 194 none
  statics := some 1 }

def pool12 : Array CpInfo := pool [(9, u "<init>"), (6, .class_ 18), (1, u "java/lang/Object"), (0, u "()V"), (1, .class_ 23), (1, u "jdk/internal/util/ArraysSupport"), (0, u "LOG2_ARRAY_LONG_INDEX_SCALE"), (0, u "I"), (2, u "U"), (0, u "Ljdk/internal/misc/Unsafe;"), (8, u "BIG_ENDIAN"), (0, u "Z"), (8, u "LOG2_BYTE_BIT_SIZE"), (4, u "LOG2_ARRAY_INT_INDEX_SCALE"), (54, u "JLA"), (0, u "Ljdk/internal/access/JavaLangAccess;"), (11, u "LOG2_ARRAY_BOOLEAN_INDEX_SCALE"), (9, u "LOG2_ARRAY_BYTE_INDEX_SCALE"), (5, u "LOG2_ARRAY_CHAR_INDEX_SCALE"), (5, u "LOG2_ARRAY_SHORT_INDEX_SCALE"), (18, u "LOG2_ARRAY_FLOAT_INDEX_SCALE"), (24, u "LOG2_ARRAY_DOUBLE_INDEX_SCALE"), (89, u "T_BOOLEAN"), (2, u "T_CHAR"), (1, u "T_FLOAT"), (1, u "T_DOUBLE"), (1, u "T_BYTE"), (1, u "T_SHORT"), (1, u "T_INT"), (1, u "T_LONG"), (1, u "SOFT_MAX_ARRAY_LENGTH")] 83

def k12m0 : Method := { name := "<init>", desc := "()V", sig := { parameters := [], returnType := none }, accessFlags := 2, code := none }
/-- jdk/internal/util/ArraysSupport -/
def k12 : Class := { plain "jdk/internal/util/ArraysSupport" (some 0) with
  accessFlags := 33
  interfaces := #[]
  cf := some (fileOf pool12 21 #[] #[{ accessFlags := 2, nameIndex := 9, descriptorIndex := 19, attributes := #[] }] 33 16 #[] #[{ accessFlags := 24, nameIndex := 28, descriptorIndex := 29, attributes := #[] }, { accessFlags := 26, nameIndex := 38, descriptorIndex := 39, attributes := #[] }, { accessFlags := 25, nameIndex := 121, descriptorIndex := 25, attributes := #[] }, { accessFlags := 25, nameIndex := 131, descriptorIndex := 25, attributes := #[] }, { accessFlags := 25, nameIndex := 137, descriptorIndex := 25, attributes := #[] }, { accessFlags := 25, nameIndex := 143, descriptorIndex := 25, attributes := #[] }, { accessFlags := 25, nameIndex := 53, descriptorIndex := 25, attributes := #[] }, { accessFlags := 25, nameIndex := 24, descriptorIndex := 25, attributes := #[] }, { accessFlags := 25, nameIndex := 162, descriptorIndex := 25, attributes := #[] }, { accessFlags := 25, nameIndex := 187, descriptorIndex := 25, attributes := #[] }, { accessFlags := 26, nameIndex := 48, descriptorIndex := 25, attributes := #[] }, { accessFlags := 25, nameIndex := 277, descriptorIndex := 25, attributes := #[] }, { accessFlags := 25, nameIndex := 280, descriptorIndex := 25, attributes := #[] }, { accessFlags := 25, nameIndex := 282, descriptorIndex := 25, attributes := #[] }, { accessFlags := 25, nameIndex := 284, descriptorIndex := 25, attributes := #[] }, { accessFlags := 25, nameIndex := 286, descriptorIndex := 25, attributes := #[] }, { accessFlags := 25, nameIndex := 288, descriptorIndex := 25, attributes := #[] }, { accessFlags := 25, nameIndex := 290, descriptorIndex := 25, attributes := #[] }, { accessFlags := 25, nameIndex := 292, descriptorIndex := 25, attributes := #[] }, { accessFlags := 26, nameIndex := 108, descriptorIndex := 109, attributes := #[] }, { accessFlags := 25, nameIndex := 294, descriptorIndex := 25, attributes := #[] }])
  fields := #[{ name := "U", type := (.object "jdk/internal/misc/Unsafe"), accessFlags := 24, slot := 0, constantValue := 0 }, { name := "BIG_ENDIAN", type := .boolean, accessFlags := 26, slot := 1, constantValue := 0 }, { name := "LOG2_ARRAY_BOOLEAN_INDEX_SCALE", type := .int, accessFlags := 25, slot := 2, constantValue := 0 }, { name := "LOG2_ARRAY_BYTE_INDEX_SCALE", type := .int, accessFlags := 25, slot := 3, constantValue := 0 }, { name := "LOG2_ARRAY_CHAR_INDEX_SCALE", type := .int, accessFlags := 25, slot := 4, constantValue := 0 }, { name := "LOG2_ARRAY_SHORT_INDEX_SCALE", type := .int, accessFlags := 25, slot := 5, constantValue := 0 }, { name := "LOG2_ARRAY_INT_INDEX_SCALE", type := .int, accessFlags := 25, slot := 6, constantValue := 0 }, { name := "LOG2_ARRAY_LONG_INDEX_SCALE", type := .int, accessFlags := 25, slot := 7, constantValue := 0 }, { name := "LOG2_ARRAY_FLOAT_INDEX_SCALE", type := .int, accessFlags := 25, slot := 8, constantValue := 0 }, { name := "LOG2_ARRAY_DOUBLE_INDEX_SCALE", type := .int, accessFlags := 25, slot := 9, constantValue := 0 }, { name := "LOG2_BYTE_BIT_SIZE", type := .int, accessFlags := 26, slot := 10, constantValue := 0 }, { name := "T_BOOLEAN", type := .int, accessFlags := 25, slot := 11, constantValue := 0 }, { name := "T_CHAR", type := .int, accessFlags := 25, slot := 12, constantValue := 0 }, { name := "T_FLOAT", type := .int, accessFlags := 25, slot := 13, constantValue := 0 }, { name := "T_DOUBLE", type := .int, accessFlags := 25, slot := 14, constantValue := 0 }, { name := "T_BYTE", type := .int, accessFlags := 25, slot := 15, constantValue := 0 }, { name := "T_SHORT", type := .int, accessFlags := 25, slot := 16, constantValue := 0 }, { name := "T_INT", type := .int, accessFlags := 25, slot := 17, constantValue := 0 }, { name := "T_LONG", type := .int, accessFlags := 25, slot := 18, constantValue := 0 }, { name := "JLA", type := (.object "jdk/internal/access/JavaLangAccess"), accessFlags := 26, slot := 19, constantValue := 0 }, { name := "SOFT_MAX_ARRAY_LENGTH", type := .int, accessFlags := 25, slot := 20, constantValue := 0 }]
  methods := #[k12m0]
  instanceTypes := #[]
  staticTypes := #[(.object "jdk/internal/misc/Unsafe"), .boolean, .int, .int, .int, .int, .int, .int, .int, .int, .int, .int, .int, .int, .int, .int, .int, .int, .int, (.object "jdk/internal/access/JavaLangAccess"), .int]
  resolved := Array.replicate 378 none
  statics := none }

def pool13 : Array CpInfo := pool [(1, u "java/lang/Cloneable"), (0, .class_ 1), (0, u "java/lang/Object"), (0, .class_ 3)] 3

/-- java/lang/Cloneable -/
def k13 : Class := { plain "java/lang/Cloneable" (some 0) with
  accessFlags := 1537
  interfaces := #[]
  cf := some (fileOf pool13 2 #[] #[] 1537 4 #[] #[])
  fields := #[]
  methods := #[]
  instanceTypes := #[]
  staticTypes := #[]
  resolved := Array.replicate 8 none
  statics := none }

/-- the primitive byte -/
def k14 : Class := { plain "byte" none with kind := .primitive 'B', accessFlags := 0x411 }
/-- [B -/
def k15 : Class := { plain "[B" (some 0) with kind := .array 14 .byte, interfaces := #[13, 2], accessFlags := 1041 }

/-- the primitive char -/
def k16 : Class := { plain "char" none with kind := .primitive 'C', accessFlags := 0x411 }
/-- [C -/
def k17 : Class := { plain "[C" (some 0) with kind := .array 16 .char, interfaces := #[13, 2], accessFlags := 1041 }

/-- the primitive int -/
def k18 : Class := { plain "int" none with kind := .primitive 'I', accessFlags := 0x411 }
/-- [I -/
def k19 : Class := { plain "[I" (some 0) with kind := .array 18 .int, interfaces := #[13, 2], accessFlags := 1041 }

def heap : Heap := #[{ cls := 7, slots := #[.long 0, .int 1, .null, .int 0, .null, .int 0, .int 0], vm := .statics 7 },
  { cls := 11, slots := #[.null, .null, .null], vm := .statics 11 }]
def classes : Array Class := #[k0, k1, k2, k3, k4, k5, k6, k7, k8, k9, k10, k11, k12, k13, k14, k15, k16, k17, k18, k19]
def interned : List (Array UInt16 × Addr) := []
def slotsUsed : Nat := 10
def theMethod : MethodId := ⟨1, 1⟩
def args0 : Array Value := #[.int 6, .int 7, .int 8, .int 1]
def aboutOver (below : List Frame) : State where
  vm := { classes := classes, interned := interned.toArray }
  heap := heap
  slotsUsed := slotsUsed
  threads := #[{ frames := .invoking theMethod args0 :: below }]
def below0 : List Frame := [.native { method := ⟨0, 0⟩, args := #[] }]
def about1 : State := aboutOver below0
def p0 : Program := .bare "" "" ""
def e0 : Env := launch0.env 0 0 0
theorem w_frames : about1.frames = Frame.invoking theMethod args0 :: below0 := rfl
set_option maxRecDepth 65536 in
theorem w_args : argsFit about1.vm theMethod args0 = true := by decide +kernel
set_option maxRecDepth 65536 in
theorem w_heap : heapFits about1 = true := by decide +kernel
set_option maxRecDepth 65536 in
theorem w_runnable : about1.curStatus? = some .runnable := by decide +kernel
set_option maxRecDepth 65536 in
theorem w_alone : about1.alone = true := by decide +kernel
set_option maxRecDepth 65536 in
theorem w_named : about1.methodNamed? x = some theMethod := by decide +kernel
set_option maxRecDepth 65536 in
theorem w_hears : about1.hears theMethod below0 = true := by decide +kernel
set_option maxRecDepth 65536 in
theorem w_ripe : about1.ripe theMethod args0 below0 = true := by decide +kernel
theorem w_running : about1.status = .running := rfl
set_option maxRecDepth 65536 in
theorem w_room : about1.hasRoom e0.platform room_1 = true :=
  launch0.hasRoom_least _ room_1 (by decide +kernel) (by decide +kernel) (by decide +kernel) (by decide +kernel) (by decide +kernel) (by decide +kernel)
theorem allAtoms_all (ts : List Jvm.Cond) (a : Array Jvm.Value) (st : Jvm.State) : (allAtoms ts).before a st = ts.all (fun c => c.before a st) := by
  induction ts with
  | nil => rfl
  | cons c t ih =>
    show (Jvm.Cond.and c (allAtoms t)).before a st = _
    rw [Jvm.Cond.before_and, ih, List.all_cons]
def words1 : List Jvm.Cond := Jvm.Cond.code x code maxLocals ret :: tables_1
/-- a 'code' word, met by the world's own term for the bytes: nothing is compared byte by byte -/
theorem code_word {y : MethodName} {bytes : ByteArray} {mx : Nat} {rt : Option FieldType} {a : Array Value} {s : State} {m : MethodId} {meth : Method} {c : Code} (h1 : s.methodNamed? y = some m) (h2 : s.vm.method? m = some meth) (h3 : meth.code = some c) (h4 : c.code = bytes)
    (h5 : (c.maxLocals == mx && c.exceptionTable.isEmpty && decide (c.maxStack ≤ mostOperands) && decide (meth.sig.returnType = rt) && !meth.locks && decide (parseMethodDescriptor y.desc = some meth.sig)) = true) : (Jvm.Cond.code y bytes mx rt).before a s = true := by
  simp only [Bool.and_eq_true, beq_iff_eq, Bool.not_eq_true', decide_eq_true_eq] at h5
  obtain ⟨⟨⟨⟨⟨g1, g2⟩, g3⟩, g4⟩, g5⟩, g6⟩ := h5
  simp [Cond.before, Cond.holds, Cond.value, h1, h2, h3, h4, g1, g2, g3, g4, g5, g6]
def isCode : Jvm.Cond → Bool
  | .code _ _ _ _ => true
  | _ => false
theorem all_split {L : List Jvm.Cond} {P : Jvm.Cond → Bool} (h1 : L.all (fun c => isCode c || P c) = true) (h2 : ∀ c ∈ L.filter isCode, P c = true) : L.all P = true := by
  refine List.all_eq_true.mpr fun c hc => ?_
  have h := List.all_eq_true.mp h1 c hc
  rcases Bool.eq_false_or_eq_true (isCode c) with hi | hi
  · exact h2 c (List.mem_filter.mpr ⟨hc, hi⟩)
  · simpa [hi] using h
set_option maxRecDepth 65536 in
theorem w_c0 : (Jvm.Cond.code x code maxLocals ret).before args0 about1 = true := code_word (m := ⟨1, 1⟩) (meth := k1m1) (c := k1c1) (by decide +kernel) rfl rfl rfl (by decide +kernel)
set_option maxRecDepth 65536 in
theorem w_c1 : (Jvm.Cond.code ({ cls := "bindery/server/stomp/HeaderEscapesApplyPinLaw", name := "cut", desc := "([CI)Ljava/lang/String;" } : Jvm.MethodName) method_3_code (2 : Nat) (Option.some (Jvm.ClassFile.FieldType.object "java/lang/String"))).before args0 about1 = true := code_word (m := ⟨1, 2⟩) (meth := k1m2) (c := k1c2) (by decide +kernel) rfl rfl rfl (by decide +kernel)
set_option maxRecDepth 65536 in
theorem w_c2 : (Jvm.Cond.code ({ cls := "java/lang/String", name := "<init>", desc := "([C)V" } : Jvm.MethodName) jdk_42_method_3_code (2 : Nat) (Option.none : Option Jvm.ClassFile.FieldType)).before args0 about1 = true := code_word (m := ⟨7, 1⟩) (meth := k7m1) (c := k7c1) (by decide +kernel) rfl rfl rfl (by decide +kernel)
set_option maxRecDepth 65536 in
theorem w_c3 : (Jvm.Cond.code ({ cls := "java/lang/String", name := "<init>", desc := "([CIILjava/lang/Void;)V" } : Jvm.MethodName) jdk_42_method_149_code (6 : Nat) (Option.none : Option Jvm.ClassFile.FieldType)).before args0 about1 = true := code_word (m := ⟨7, 4⟩) (meth := k7m4) (c := k7c4) (by decide +kernel) rfl rfl rfl (by decide +kernel)
set_option maxRecDepth 65536 in
theorem w_c4 : (Jvm.Cond.code ({ cls := "java/lang/Object", name := "<init>", desc := "()V" } : Jvm.MethodName) object_method_1_code (1 : Nat) (Option.none : Option Jvm.ClassFile.FieldType)).before args0 about1 = true := code_word (m := ⟨0, 0⟩) (meth := k0m0) (c := k0c0) (by decide +kernel) rfl rfl rfl (by decide +kernel)
set_option maxRecDepth 65536 in
theorem w_c5 : (Jvm.Cond.code ({ cls := "bindery/server/stomp/HeaderEscapes", name := "apply", desc := "(Ljava/lang/String;)Z" } : Jvm.MethodName) prog_84_method_2_code (1 : Nat) (Option.some Jvm.ClassFile.FieldType.boolean)).before args0 about1 = true := code_word (m := ⟨8, 1⟩) (meth := k8m1) (c := k8c1) (by decide +kernel) rfl rfl rfl (by decide +kernel)
set_option maxRecDepth 65536 in
theorem w_c6 : (Jvm.Cond.code ({ cls := "java/lang/String", name := "equals", desc := "(Ljava/lang/Object;)Z" } : Jvm.MethodName) jdk_42_method_66_code (3 : Nat) (Option.some Jvm.ClassFile.FieldType.boolean)).before args0 about1 = true := code_word (m := ⟨7, 3⟩) (meth := k7m3) (c := k7c3) (by decide +kernel) rfl rfl rfl (by decide +kernel)
set_option maxRecDepth 65536 in
theorem w_c7 : (Jvm.Cond.code ({ cls := "java/lang/StringLatin1", name := "equals", desc := "([B[B)Z" } : Jvm.MethodName) jdk_43_method_13_code (3 : Nat) (Option.some Jvm.ClassFile.FieldType.boolean)).before args0 about1 = true := code_word (m := ⟨9, 2⟩) (meth := k9m2) (c := k9c2) (by decide +kernel) rfl rfl rfl (by decide +kernel)
set_option maxRecDepth 65536 in
theorem w_c8 : (Jvm.Cond.code ({ cls := "java/lang/StringUTF16", name := "compress", desc := "([CII)[B" } : Jvm.MethodName) jdk_52_method_16_code (6 : Nat) (Option.some (Jvm.ClassFile.FieldType.array Jvm.ClassFile.FieldType.byte))).before args0 about1 = true := code_word (m := ⟨10, 2⟩) (meth := k10m2) (c := k10c2) (by decide +kernel) rfl rfl rfl (by decide +kernel)
set_option maxRecDepth 65536 in
theorem w_c9 : (Jvm.Cond.code ({ cls := "java/lang/StringUTF16", name := "compress", desc := "([CI[BII)I" } : Jvm.MethodName) jdk_52_method_21_code (7 : Nat) (Option.some Jvm.ClassFile.FieldType.int)).before args0 about1 = true := code_word (m := ⟨10, 3⟩) (meth := k10m3) (c := k10c3) (by decide +kernel) rfl rfl rfl (by decide +kernel)
set_option maxRecDepth 65536 in
theorem w_c10 : (Jvm.Cond.code ({ cls := "java/lang/StringUTF16", name := "coderFromArrayLen", desc := "([BI)B" } : Jvm.MethodName) jdk_52_method_15_code (2 : Nat) (Option.some Jvm.ClassFile.FieldType.byte)).before args0 about1 = true := code_word (m := ⟨10, 1⟩) (meth := k10m1) (c := k10c1) (by decide +kernel) rfl rfl rfl (by decide +kernel)
set_option maxRecDepth 65536 in
theorem w_c11 : (Jvm.Cond.code ({ cls := "java/lang/String", name := "charAt", desc := "(I)C" } : Jvm.MethodName) jdk_42_method_56_code (2 : Nat) (Option.some Jvm.ClassFile.FieldType.char)).before args0 about1 = true := code_word (m := ⟨7, 2⟩) (meth := k7m2) (c := k7c2) (by decide +kernel) rfl rfl rfl (by decide +kernel)
set_option maxRecDepth 65536 in
theorem w_c12 : (Jvm.Cond.code ({ cls := "java/lang/String", name := "isLatin1", desc := "()Z" } : Jvm.MethodName) jdk_42_method_154_code (1 : Nat) (Option.some Jvm.ClassFile.FieldType.boolean)).before args0 about1 = true := code_word (m := ⟨7, 5⟩) (meth := k7m5) (c := k7c5) (by decide +kernel) rfl rfl rfl (by decide +kernel)
set_option maxRecDepth 65536 in
theorem w_c13 : (Jvm.Cond.code ({ cls := "java/lang/StringLatin1", name := "charAt", desc := "([BI)C" } : Jvm.MethodName) jdk_43_method_2_code (2 : Nat) (Option.some Jvm.ClassFile.FieldType.char)).before args0 about1 = true := code_word (m := ⟨9, 1⟩) (meth := k9m1) (c := k9c1) (by decide +kernel) rfl rfl rfl (by decide +kernel)
set_option maxRecDepth 65536 in
theorem w_c14 : (Jvm.Cond.code ({ cls := "java/lang/String", name := "checkIndex", desc := "(II)V" } : Jvm.MethodName) jdk_42_method_155_code (2 : Nat) (Option.none : Option Jvm.ClassFile.FieldType)).before args0 about1 = true := code_word (m := ⟨7, 6⟩) (meth := k7m6) (c := k7c6) (by decide +kernel) rfl rfl rfl (by decide +kernel)
set_option maxRecDepth 65536 in
theorem w_c15 : (Jvm.Cond.code ({ cls := "jdk/internal/util/Preconditions", name := "checkIndex", desc := "(IILjava/util/function/BiFunction;)I" } : Jvm.MethodName) jdk_41_method_11_code (3 : Nat) (Option.some Jvm.ClassFile.FieldType.int)).before args0 about1 = true := code_word (m := ⟨11, 1⟩) (meth := k11m1) (c := k11c1) (by decide +kernel) rfl rfl rfl (by decide +kernel)
def codes1 : List Jvm.Cond := [Jvm.Cond.code x code maxLocals ret, Jvm.Cond.code ({ cls := "bindery/server/stomp/HeaderEscapesApplyPinLaw", name := "cut", desc := "([CI)Ljava/lang/String;" } : Jvm.MethodName) method_3_code (2 : Nat) (Option.some (Jvm.ClassFile.FieldType.object "java/lang/String")), Jvm.Cond.code ({ cls := "java/lang/String", name := "<init>", desc := "([C)V" } : Jvm.MethodName) jdk_42_method_3_code (2 : Nat) (Option.none : Option Jvm.ClassFile.FieldType), Jvm.Cond.code ({ cls := "java/lang/String", name := "<init>", desc := "([CIILjava/lang/Void;)V" } : Jvm.MethodName) jdk_42_method_149_code (6 : Nat) (Option.none : Option Jvm.ClassFile.FieldType), Jvm.Cond.code ({ cls := "java/lang/Object", name := "<init>", desc := "()V" } : Jvm.MethodName) object_method_1_code (1 : Nat) (Option.none : Option Jvm.ClassFile.FieldType), Jvm.Cond.code ({ cls := "bindery/server/stomp/HeaderEscapes", name := "apply", desc := "(Ljava/lang/String;)Z" } : Jvm.MethodName) prog_84_method_2_code (1 : Nat) (Option.some Jvm.ClassFile.FieldType.boolean), Jvm.Cond.code ({ cls := "java/lang/String", name := "equals", desc := "(Ljava/lang/Object;)Z" } : Jvm.MethodName) jdk_42_method_66_code (3 : Nat) (Option.some Jvm.ClassFile.FieldType.boolean), Jvm.Cond.code ({ cls := "java/lang/StringLatin1", name := "equals", desc := "([B[B)Z" } : Jvm.MethodName) jdk_43_method_13_code (3 : Nat) (Option.some Jvm.ClassFile.FieldType.boolean), Jvm.Cond.code ({ cls := "java/lang/StringUTF16", name := "compress", desc := "([CII)[B" } : Jvm.MethodName) jdk_52_method_16_code (6 : Nat) (Option.some (Jvm.ClassFile.FieldType.array Jvm.ClassFile.FieldType.byte)), Jvm.Cond.code ({ cls := "java/lang/StringUTF16", name := "compress", desc := "([CI[BII)I" } : Jvm.MethodName) jdk_52_method_21_code (7 : Nat) (Option.some Jvm.ClassFile.FieldType.int), Jvm.Cond.code ({ cls := "java/lang/StringUTF16", name := "coderFromArrayLen", desc := "([BI)B" } : Jvm.MethodName) jdk_52_method_15_code (2 : Nat) (Option.some Jvm.ClassFile.FieldType.byte), Jvm.Cond.code ({ cls := "java/lang/String", name := "charAt", desc := "(I)C" } : Jvm.MethodName) jdk_42_method_56_code (2 : Nat) (Option.some Jvm.ClassFile.FieldType.char), Jvm.Cond.code ({ cls := "java/lang/String", name := "isLatin1", desc := "()Z" } : Jvm.MethodName) jdk_42_method_154_code (1 : Nat) (Option.some Jvm.ClassFile.FieldType.boolean), Jvm.Cond.code ({ cls := "java/lang/StringLatin1", name := "charAt", desc := "([BI)C" } : Jvm.MethodName) jdk_43_method_2_code (2 : Nat) (Option.some Jvm.ClassFile.FieldType.char), Jvm.Cond.code ({ cls := "java/lang/String", name := "checkIndex", desc := "(II)V" } : Jvm.MethodName) jdk_42_method_155_code (2 : Nat) (Option.none : Option Jvm.ClassFile.FieldType), Jvm.Cond.code ({ cls := "jdk/internal/util/Preconditions", name := "checkIndex", desc := "(IILjava/util/function/BiFunction;)I" } : Jvm.MethodName) jdk_41_method_11_code (3 : Nat) (Option.some Jvm.ClassFile.FieldType.int)]
set_option maxRecDepth 65536 in
theorem codes_eq : words1.filter isCode = codes1 := rfl
theorem w_codes : ∀ c ∈ words1.filter isCode, c.before args0 about1 = true := by
  rw [codes_eq]
  intro c hc
  simp only [codes1, List.mem_cons, List.not_mem_nil, or_false] at hc
  rcases hc with rfl | rfl | rfl | rfl | rfl | rfl | rfl | rfl | rfl | rfl | rfl | rfl | rfl | rfl | rfl | rfl
  · exact w_c0
  · exact w_c1
  · exact w_c2
  · exact w_c3
  · exact w_c4
  · exact w_c5
  · exact w_c6
  · exact w_c7
  · exact w_c8
  · exact w_c9
  · exact w_c10
  · exact w_c11
  · exact w_c12
  · exact w_c13
  · exact w_c14
  · exact w_c15
set_option maxRecDepth 65536 in
theorem w_t1 : (words1.take 24).all (fun c => isCode c || c.before args0 about1) = true := by decide +kernel
set_option maxRecDepth 65536 in
theorem w_t2 : ((words1.drop 24).take 24).all (fun c => isCode c || c.before args0 about1) = true := by decide +kernel
set_option maxRecDepth 65536 in
theorem w_t3 : (((words1.drop 24).drop 24).take 24).all (fun c => isCode c || c.before args0 about1) = true := by decide +kernel
set_option maxRecDepth 65536 in
theorem w_t4 : (((words1.drop 24).drop 24).drop 24).all (fun c => isCode c || c.before args0 about1) = true := by decide +kernel
theorem w_tables : (allAtoms (Jvm.Cond.code x code maxLocals ret :: tables_1)).before args0 about1 = true := by
  rw [allAtoms_all]
  show words1.all (fun c => c.before args0 about1) = true
  refine all_split ?_ w_codes
  rw [← List.take_append_drop 24 words1, List.all_append, w_t1, ← List.take_append_drop 24 (words1.drop 24), List.all_append, w_t2, ← List.take_append_drop 24 ((words1.drop 24).drop 24), List.all_append, w_t3, w_t4]
  rfl
set_option maxRecDepth 65536 in
theorem w_rest : rest_1_c.before args0 about1 = true := by decide +kernel
set_option maxRecDepth 65536 in
theorem w_case : (Jvm.Cond.and given_1 narrow_1).before args0 about1 = true := by decide +kernel
set_option maxRecDepth 65536 in
theorem w_consts : constsHeld consts_1 about1 := Jvm.Lit.constsHeldB_iff.mp (by decide +kernel)
theorem w_applies : (headSpec (Jvm.Cond.code x code maxLocals ret :: tables_1) room_1).applies x e0.platform about1 = true :=
  (Spec.applies_iff w_frames).mpr ⟨w_running, w_runnable, w_alone, w_named, w_hears, w_ripe, w_room, w_tables⟩
theorem atStart : AtStart classFile x code maxLocals ret World_1 tables_1 room_1 Calls_1 rest_1 Pre_1 launch0 p0 e0 about1 theMethod args0 below0 :=
  ⟨lists_1, trivial, launch0.admits_env _ _ _, launch0.least_env, fairChoices_fair.cas, fairChoices_fair.clock, w_frames, w_args, w_heap, w_applies, ⟨w_consts, trivial⟩, w_rest, w_case⟩
end start1
theorem witness_1 : WitnessClaimed_1 := ⟨start1.p0, start1.e0, start1.about1, start1.theMethod, start1.args0, start1.below0, start1.atStart⟩
end Jvm.Pilot.@@N@@
