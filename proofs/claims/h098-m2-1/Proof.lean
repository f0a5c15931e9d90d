import JvmDerived
import JvmDerived.Pilot.@@N@@Statement
import JvmDerived.Pilot.@@N@@Code
set_option linter.unusedVariables false
set_option linter.unusedSimpArgs false
namespace Jvm.OwnKit
open Sem ClassFile Op Lib Bundle Jvm.Stand Jvm.Free Jvm.LawKit Jvm.RoadKit
section Kit
variable {p : Program} {l : Launch} {e : Env} {R : Room} {s : State} {m : MethodId} {args : Array Value} {below : List Frame} {meth : Method} {c : Code} {Z : State} {a0 : Array Value} {EL : List (String × Nat)} {cw : Prop} {own : String} {n0 : Nat} {bytes : ByteArray} {maxL : Nat} {ret : Option FieldType} {nm : String} {T : State} {h : Heap} {C S : Nat} {sf : List Addr} {P : State → Outcome → Prop}

/-- from t the run comes to a state of which P speaks -/
def Go (p : Program) (e : Env) (below : List Frame) (P : State → Outcome → Prop) (t : State) : Prop := ∃ u o, Steps p.tables e below t u ∧ P u o
theorem Go.st {t t' : State} (k : ∀ target, Steps p.tables e below t' target → Steps p.tables e below t target) (G : Go p e below P t') : Go p e below P t := by
  obtain ⟨u, o, h1, h2⟩ := G; exact ⟨u, o, k _ h1, h2⟩
theorem Go.tr {t t' : State} (k : Steps p.tables e below t t') (G : Go p e below P t') : Go p e below P t := by
  obtain ⟨u, o, h1, h2⟩ := G; exact ⟨u, o, k.trans h1, h2⟩

/-- where the walk stands: all that the steps ask, in one word -/
def Hs (p : Program) (l : Launch) (e : Env) (R : Room) (s : State) (m : MethodId) (args : Array Value) (below : List Frame) (meth : Method) (c : Code) (Z : State) (a0 : Array Value) (EL : List (String × Nat)) (cw : Prop) (own : String) (n0 : Nat) (bytes : ByteArray) (maxL : Nat) (ret : Option FieldType) (nm : String) (T : State) (h : Heap) (C S : Nat) (sf : List Addr) : Prop :=
  (p.tables.exec = Jvm.exec ∧ EW Z a0 EL ∧ c.code = bytes ∧ c.maxLocals = maxL ∧ meth.sig.returnType = ret ∧ meth.locks = false ∧ meth.name = nm ∧ n0 ≤ s.heap.size) ∧
  ∃ (vm0 : Vm) (k0 : Nat) (locs : List Loc), Stand p l e R (s.setVm vm0) m args below meth c T locs C S ∧ T.heap = h ∧ s.Since vm0 k0 ∧ k0 ≤ h.size ∧ Z.Warmed39 vm0 ∧ vm0.findClass own = some m.cls ∧ Fr n0 locs ∧ CHr Z EL s.vm s.heap vm0 h ∧ (∀ x ∈ sf, x < h.size ∧ Safe Z EL vm0 h x) ∧ (cw ∨ s.WarmedH vm0) ∧ Old Z n0 h

theorem Hs.here (H : Hs p l e R s m args below meth c Z a0 EL cw own n0 bytes maxL ret nm T h C S sf) : At T m c below := by
  obtain ⟨-, vm0, k0, locs, X, -⟩ := H; exact X.here
theorem Hs.exec (H : Hs p l e R s m args below meth c Z a0 EL cw own n0 bytes maxL ret nm T h C S sf) : p.tables.exec = Jvm.exec := H.1.1
theorem Hs.dec (H : Hs p l e R s m args below meth c Z a0 EL cw own n0 bytes maxL ret nm T h C S sf) {pc : Nat} {r : Except ClassFile.DecodeError (ClassFile.Instr × Nat)} (hd : decode bytes pc = r) : decode c.code pc = r := by rw [H.1.2.2.1]; exact hd
theorem Hs.le (H : Hs p l e R s m args below meth c Z a0 EL cw own n0 bytes maxL ret nm T h C S sf) : n0 ≤ h.size := by
  obtain ⟨⟨-, -, -, -, -, -, -, hn⟩, vm0, k0, locs, -, -, -, -, -, -, -, hC, -⟩ := H
  exact Nat.le_trans hn hC.2.1
theorem Hs.nle {a : Addr} (H : Hs p l e R s m args below meth c Z a0 EL cw own n0 bytes maxL ret nm T h C S sf) (g : a = h.size) : n0 ≤ a := Nat.le_trans H.le (Nat.le_of_eq g.symm)
theorem Hs.old (H : Hs p l e R s m args below meth c Z a0 EL cw own n0 bytes maxL ret nm T h C S sf) : Old Z n0 h := by
  obtain ⟨-, vm0, k0, locs, -, -, -, -, -, -, -, -, -, -, hO⟩ := H; exact hO
theorem Hs.mono (H : Hs p l e R s m args below meth c Z a0 EL cw own n0 bytes maxL ret nm T h C S sf) {C' S' : Nat} (hc : C ≤ C') (hs : S ≤ S') : Hs p l e R s m args below meth c Z a0 EL cw own n0 bytes maxL ret nm T h C' S' sf := by
  obtain ⟨hM, vm0, k0, locs, X, r⟩ := H
  exact ⟨hM, vm0, k0, locs, X.mono hc hs, r⟩
theorem Hs.less (H : Hs p l e R s m args below meth c Z a0 EL cw own n0 bytes maxL ret nm T h C S sf) {sf' : List Addr} (hs : ∀ x ∈ sf', x ∈ sf) : Hs p l e R s m args below meth c Z a0 EL cw own n0 bytes maxL ret nm T h C S sf' := by
  obtain ⟨hM, vm0, k0, locs, X, h1, h2, h3, h4, h5, h6, h7, h8, h9, hO⟩ := H
  exact ⟨hM, vm0, k0, locs, X, h1, h2, h3, h4, h5, h6, h7, fun x hx => h8 x (hs x hx), h9, hO⟩
/-- a place that no constant of the list lies at -/
def Sf (Z : State) (EL : List (String × Nat)) (h : Heap) (sf : List Addr) (a : Addr) : Prop := a ∈ sf ∨ (∃ K, Exa Z h a K ∧ K ≠ "java/lang/String" ∧ K ≠ "[B") ∨ ∃ cl ty, Arr Z h a cl ty ∧ ty ≠ .byte
theorem Sf.mem {a : Addr} (q : a ∈ sf) : Sf Z EL h sf a := Or.inl q
theorem Sf.exa {a : Addr} {K : String} (E : Exa Z h a K) (h1 : K ≠ "java/lang/String" := by decide) (h2 : K ≠ "[B" := by decide) : Sf Z EL h sf a := Or.inr (Or.inl ⟨K, E, h1, h2⟩)
theorem Sf.arr {a : Addr} {k : ClassId} {ty : FieldType} {z : Int32} {vs : List Value} {dv : Value} (A : Arv Z h a k ty z vs dv) (ht : ty ≠ .byte := by decide) : Sf Z EL h sf a := by
  obtain ⟨cl, A, -⟩ := A; exact Or.inr (Or.inr ⟨cl, ty, A, ht⟩)
theorem Sf.safe {a : Addr} {vm0 : Vm} (hZ : Z.Warmed39 vm0) (hs : ∀ x ∈ sf, x < h.size ∧ Safe Z EL vm0 h x) (q : Sf Z EL h sf a) : Safe Z EL vm0 h a := by
  rcases q with q | ⟨K, E, h1, h2⟩ | ⟨cl, ty, A, ht⟩
  · exact (hs a q).2
  · exact Safe.exa hZ.alike E h1 h2
  · exact Safe.arr hZ.alike A ht

/-- a step of the library's that keeps the heap (T' in place of T) -/
theorem G.getF (H : Hs p l e R s m args below meth c Z a0 EL cw own n0 bytes maxL ret nm T h C S sf) {R0 O n d : String} {index : Nat} (w : (Cond.fieldLink own index R0 n d).before a0 Z = true) (via : Via Z R0 O n d) {a : Addr} {v : Value} (F : Fld Z h a O n d v) {pc pc' : Nat} {L : Array Slot} {st : List Value} (hd : decode bytes pc = .ok (.getfield index, 3)) (hp : pc + 3 = pc')
    (k : ∀ T', Hs p l e R s m args below meth c Z a0 EL cw own n0 bytes maxL ret nm T' h C S sf → Go p e below P (T'.setTop (mkF m pc' L (v :: st)))) : Go p e below P (T.setTop (mkF m pc L (.ref a :: st))) := by
  subst hp
  obtain ⟨hM, vm0, k0, locs, X, h1, h2, h3, h4, h5, h6, h7, h8, h9, hO⟩ := id H
  obtain ⟨T', X', e', st'⟩ := RoadKit.getF X H.exec h4 (host := "") h5 (Or.inl w) via h1 F (g := mkF m pc L (.ref a :: st)) rfl rfl (H.dec hd)
  exact Go.st st' (k T' ⟨hM, vm0, k0, locs, X', e', h2, h3, h4, h5, h6, h7, h8, h9, hO⟩)
theorem G.getS (H : Hs p l e R s m args below meth c Z a0 EL cw own n0 bytes maxL ret nm T h C S sf) {R0 O n d : String} {index : Nat} (w : (Cond.fieldLink own index R0 n d).before a0 Z = true) (via : Via Z R0 O n d) {v : Value} (F : Sta Z h O n d v) {pc pc' : Nat} {L : Array Slot} {st : List Value} (hd : decode bytes pc = .ok (.getstatic index, 3)) (hp : pc + 3 = pc')
    (k : ∀ T', Hs p l e R s m args below meth c Z a0 EL cw own n0 bytes maxL ret nm T' h C S sf → Go p e below P (T'.setTop (mkF m pc' L (v :: st)))) : Go p e below P (T.setTop (mkF m pc L st)) := by
  subst hp
  obtain ⟨hM, vm0, k0, locs, X, h1, h2, h3, h4, h5, h6, h7, h8, h9, hO⟩ := id H
  obtain ⟨T', X', e', st'⟩ := RoadKit.getS (host := "") X H.exec h4 h5 w via h1 F (g := mkF m pc L st) rfl (H.dec hd)
  exact Go.st st' (k T' ⟨hM, vm0, k0, locs, X', e', h2, h3, h4, h5, h6, h7, h8, h9, hO⟩)
theorem G.castY (H : Hs p l e R s m args below meth c Z a0 EL cw own n0 bytes maxL ret nm T h C S sf) {K : String} {index : Nat} (w : (Cond.classLink own index K).before a0 Z = true) {a : Addr} (F : Ins Z h a K true) {pc pc' : Nat} {L : Array Slot} {st : List Value} (hd : decode bytes pc = .ok (.checkcast index, 3)) (hp : pc + 3 = pc')
    (k : ∀ T', Hs p l e R s m args below meth c Z a0 EL cw own n0 bytes maxL ret nm T' h C S sf → Go p e below P (T'.setTop (mkF m pc' L (.ref a :: st)))) : Go p e below P (T.setTop (mkF m pc L (.ref a :: st))) := by
  subst hp
  obtain ⟨hM, vm0, k0, locs, X, h1, h2, h3, h4, h5, h6, h7, h8, h9, hO⟩ := id H
  obtain ⟨T', X', e', st'⟩ := RoadKit.castY X H.exec h4 h5 w h1 F (g := mkF m pc L (.ref a :: st)) rfl rfl (H.dec hd)
  exact Go.st st' (k T' ⟨hM, vm0, k0, locs, X', e', h2, h3, h4, h5, h6, h7, h8, h9, hO⟩)
theorem G.initO (H : Hs p l e R s m args below meth c Z a0 EL cw own n0 bytes maxL ret nm T h C S sf) {index : Nat} (w1 : (Cond.methodLink own index Lib.objectInit).before a0 Z = true) (w2 : (Cond.instanceMethod Lib.objectInit).before a0 Z = true) (w3 : (Cond.code Lib.objectInit ⟨#[0xb1]⟩ 1 none).before a0 Z = true) {a : Addr} {pc pc' : Nat} {L : Array Slot} {st : List Value} (hL : L.size = maxL) (hd : decode bytes pc = .ok (.invokespecial index, 3)) (hp : pc + 3 = pc') (hf : 1 ≤ R.frames) {W : Nat} (hW : (st.map fun v => v.category).sum = W) (hl : W + 12 ≤ R.locals)
    (k : ∀ T', Hs p l e R s m args below meth c Z a0 EL cw own n0 bytes maxL ret nm T' h C S sf → Go p e below P (T'.setTop (mkF m pc' L st))) : Go p e below P (T.setTop (mkF m pc L (.ref a :: st))) := by
  subst hp
  obtain ⟨hM, vm0, k0, locs, X, h1, h2, h3, h4, h5, h6, h7, h8, h9, hO⟩ := id H
  obtain ⟨T', X', e', st'⟩ := RoadKit.initO X H.exec h4 h5 w1 w2 w3 h1 (g := mkF m pc L (.ref a :: st)) rfl (by rw [hM.2.2.2.1]; exact hL) rfl (H.dec hd) hf (W := W) (by show 2 * 0 + _ ≤ _; omega) hl
  exact Go.st st' (k T' ⟨hM, vm0, k0, locs, X', e', h2, h3, h4, h5, h6, h7, h8, h9, hO⟩)
theorem G.arrlen (H : Hs p l e R s m args below meth c Z a0 EL cw own n0 bytes maxL ret nm T h C S sf) {a : Addr} {kc : ClassId} {ty : FieldType} {z : Int32} {vs : List Value} {dv : Value} (A : Arv Z h a kc ty z vs dv) {pc pc' : Nat} {L : Array Slot} {st : List Value} (hd : decode bytes pc = .ok (.arraylength, 1)) (hp : pc + 1 = pc') (k : Go p e below P (T.setTop (mkF m pc' L (.int z :: st)))) : Go p e below P (T.setTop (mkF m pc L (.ref a :: st))) := by
  subst hp
  obtain ⟨hM, vm0, k0, locs, X, h1, h2, h3, h4, h5, h6, h7, h8, h9, hO⟩ := id H
  obtain ⟨cl, Ar, q1, S1, q3, H1, G1⟩ := A
  refine Go.st (fun t kk => X.arraylength H.exec (cell := cl) (by rw [h1]; exact Ar.1) (State.isArrayOf_alike (s := Z) h4.alike Ar.2.1) (g := mkF m pc L (.ref a :: st)) rfl rfl (H.dec hd) t ?_) k
  rw [len_of S1 q3]; exact kk
theorem G.caloadG (H : Hs p l e R s m args below meth c Z a0 EL cw own n0 bytes maxL ret nm T h C S sf) {a : Addr} {kc : ClassId} {z : Int32} {vs : List Value} {dv : Value} (A : Arv Z h a kc .char z vs dv) {j : Int32} {v : Value} (hj : ¬ j < 0 ∧ j < z) (hv : vs.getD j.toNatClampNeg dv = v) {pc pc' : Nat} {L : Array Slot} {st : List Value} (hd : decode bytes pc = .ok (.caload, 1)) (hp : pc + 1 = pc') (k : Go p e below P (T.setTop (mkF m pc' L (v :: st)))) : Go p e below P (T.setTop (mkF m pc L (.int j :: .ref a :: st))) := by
  subst hp
  obtain ⟨hM, vm0, k0, locs, X, h1, h2, h3, h4, h5, h6, h7, h8, h9, hO⟩ := id H
  obtain ⟨cl, Ar, q1, S1, q3, H1, G1⟩ := A
  exact Go.st (fun t kk => X.caload H.exec (cell := cl) (by rw [h1]; exact Ar.1) (State.isArrayOf_alike (s := Z) h4.alike Ar.2.1) Ar.2.2 (inb_of S1 hj) (Has.at H1 (inb_of S1 hj) hv) (g := mkF m pc L (.int j :: .ref a :: st)) rfl rfl (H.dec hd) t kk) k
theorem G.aaloadG (H : Hs p l e R s m args below meth c Z a0 EL cw own n0 bytes maxL ret nm T h C S sf) {a : Addr} {kc : ClassId} {ty : FieldType} {z : Int32} {vs : List Value} {dv : Value} (A : Arv Z h a kc ty z vs dv) (hty : ty.isReference = true) {j : Int32} {v : Value} (hj : ¬ j < 0 ∧ j < z) (hv : vs.getD j.toNatClampNeg dv = v) {pc pc' : Nat} {L : Array Slot} {st : List Value} (hd : decode bytes pc = .ok (.aaload, 1)) (hp : pc + 1 = pc') (k : Go p e below P (T.setTop (mkF m pc' L (v :: st)))) : Go p e below P (T.setTop (mkF m pc L (.int j :: .ref a :: st))) := by
  subst hp
  obtain ⟨hM, vm0, k0, locs, X, h1, h2, h3, h4, h5, h6, h7, h8, h9, hO⟩ := id H
  obtain ⟨cl, Ar, q1, S1, q3, H1, G1⟩ := A
  exact Go.st (fun t kk => X.aaload H.exec (cell := cl) (by rw [h1]; exact Ar.1) (State.isArrayOf_alike (s := Z) h4.alike Ar.2.1) hty Ar.2.2 (inb_of S1 hj) (Has.at H1 (inb_of S1 hj) hv) (g := mkF m pc L (.int j :: .ref a :: st)) rfl rfl (H.dec hd) t kk) k
theorem G.ldcI (H : Hs p l e R s m args below meth c Z a0 EL cw own n0 bytes maxL ret nm T h C S sf) {index : Nat} {v : Int32} (w : (Cond.constant own index v).before a0 Z = true) {pc pc' : Nat} {L : Array Slot} {st : List Value} (hd : decode bytes pc = .ok (.ldc index, 2)) (hp : pc + 2 = pc') (k : Go p e below P (T.setTop (mkF m pc' L (.int v :: st)))) : Go p e below P (T.setTop (mkF m pc L st)) := by
  subst hp
  obtain ⟨hM, vm0, k0, locs, X, h1, h2, h3, h4, h5, h6, h7, h8, h9, hO⟩ := id H
  exact Go.st (fun t kk => Jvm.Stand.ldcI X H.exec h5 (mv h4 w) (g := mkF m pc L st) rfl (H.dec hd) kk) k
theorem G.aloadN (H : Hs p l e R s m args below meth c Z a0 EL cw own n0 bytes maxL ret nm T h C S sf) {i : Fin 4} {v : Value} {pc pc' : Nat} {L : Array Slot} {st : List Value} (hd : decode bytes pc = .ok (.aload_n i, 1)) (hp : pc + 1 = pc') (hl : L[i.val]? = some (.val v)) (hv : v.isRef = true) (k : Go p e below P (T.setTop (mkF m pc' L (v :: st)))) : Go p e below P (T.setTop (mkF m pc L (st))) := by
  subst hp
  exact Go.st (fun t kk => XS.aloadN H.here H.exec (g := mkF m pc L (st)) rfl (H.dec hd) hl hv kk) k
theorem G.aload (H : Hs p l e R s m args below meth c Z a0 EL cw own n0 bytes maxL ret nm T h C S sf) {i : Nat} {v : Value} {pc pc' : Nat} {L : Array Slot} {st : List Value} (hd : decode bytes pc = .ok (.aload i, 2)) (hp : pc + 2 = pc') (hl : L[i]? = some (.val v)) (hv : v.isRef = true) (k : Go p e below P (T.setTop (mkF m pc' L (v :: st)))) : Go p e below P (T.setTop (mkF m pc L (st))) := by
  subst hp
  exact Go.st (fun t kk => XS.aload H.here H.exec (g := mkF m pc L (st)) rfl (H.dec hd) hl hv kk) k
theorem G.iloadN (H : Hs p l e R s m args below meth c Z a0 EL cw own n0 bytes maxL ret nm T h C S sf) {i : Fin 4} {v : Int32} {pc pc' : Nat} {L : Array Slot} {st : List Value} (hd : decode bytes pc = .ok (.iload_n i, 1)) (hp : pc + 1 = pc') (hl : L[i.val]? = some (.val (.int v))) (k : Go p e below P (T.setTop (mkF m pc' L (.int v :: st)))) : Go p e below P (T.setTop (mkF m pc L (st))) := by
  subst hp
  exact Go.st (fun t kk => XS.iloadN H.here H.exec (g := mkF m pc L (st)) rfl (H.dec hd) hl kk) k
theorem G.iload (H : Hs p l e R s m args below meth c Z a0 EL cw own n0 bytes maxL ret nm T h C S sf) {i : Nat} {v : Int32} {pc pc' : Nat} {L : Array Slot} {st : List Value} (hd : decode bytes pc = .ok (.iload i, 2)) (hp : pc + 2 = pc') (hl : L[i]? = some (.val (.int v))) (k : Go p e below P (T.setTop (mkF m pc' L (.int v :: st)))) : Go p e below P (T.setTop (mkF m pc L (st))) := by
  subst hp
  exact Go.st (fun t kk => XS.iload H.here H.exec (g := mkF m pc L (st)) rfl (H.dec hd) hl kk) k
theorem G.iconst (H : Hs p l e R s m args below meth c Z a0 EL cw own n0 bytes maxL ret nm T h C S sf) {i : Int} {v : Int32} {pc pc' : Nat} {L : Array Slot} {st : List Value} (hd : decode bytes pc = .ok (.iconst i, 1)) (hp : pc + 1 = pc') (hv : Int32.ofInt i = v) (k : Go p e below P (T.setTop (mkF m pc' L (.int v :: st)))) : Go p e below P (T.setTop (mkF m pc L (st))) := by
  subst hp; subst hv
  exact Go.st (fun t kk => XS.iconst H.here H.exec (g := mkF m pc L (st)) rfl (H.dec hd) kk) k
theorem G.bipush (H : Hs p l e R s m args below meth c Z a0 EL cw own n0 bytes maxL ret nm T h C S sf) {i : Int} {v : Int32} {pc pc' : Nat} {L : Array Slot} {st : List Value} (hd : decode bytes pc = .ok (.bipush i, 2)) (hp : pc + 2 = pc') (hv : (Int8.ofInt i).toInt32 = v) (k : Go p e below P (T.setTop (mkF m pc' L (.int v :: st)))) : Go p e below P (T.setTop (mkF m pc L (st))) := by
  subst hp; subst hv
  exact Go.st (fun t kk => XS.bipush H.here H.exec (g := mkF m pc L (st)) rfl (H.dec hd) kk) k
theorem G.sipush (H : Hs p l e R s m args below meth c Z a0 EL cw own n0 bytes maxL ret nm T h C S sf) {i : Int} {v : Int32} {pc pc' : Nat} {L : Array Slot} {st : List Value} (hd : decode bytes pc = .ok (.sipush i, 3)) (hp : pc + 3 = pc') (hv : (Int16.ofInt i).toInt32 = v) (k : Go p e below P (T.setTop (mkF m pc' L (.int v :: st)))) : Go p e below P (T.setTop (mkF m pc L (st))) := by
  subst hp; subst hv
  exact Go.st (fun t kk => XS.sipush H.here H.exec (g := mkF m pc L (st)) rfl (H.dec hd) kk) k
theorem G.aconstNull (H : Hs p l e R s m args below meth c Z a0 EL cw own n0 bytes maxL ret nm T h C S sf) {pc pc' : Nat} {L : Array Slot} {st : List Value} (hd : decode bytes pc = .ok (.aconst_null, 1)) (hp : pc + 1 = pc') (k : Go p e below P (T.setTop (mkF m pc' L (.null :: st)))) : Go p e below P (T.setTop (mkF m pc L (st))) := by
  subst hp
  exact Go.st (fun t kk => XS.aconstNull H.here H.exec (g := mkF m pc L (st)) rfl (H.dec hd) kk) k
theorem G.isub (H : Hs p l e R s m args below meth c Z a0 EL cw own n0 bytes maxL ret nm T h C S sf) {x y : Int32} {pc pc' : Nat} {L : Array Slot} {st : List Value} (hd : decode bytes pc = .ok (.isub, 1)) (hp : pc + 1 = pc') (k : Go p e below P (T.setTop (mkF m pc' L (.int (x - y) :: st)))) : Go p e below P (T.setTop (mkF m pc L (.int y :: .int x :: st))) := by
  subst hp
  exact Go.st (fun t kk => XS.isub H.here H.exec (g := mkF m pc L (.int y :: .int x :: st)) rfl (H.dec hd) rfl kk) k
theorem G.iand (H : Hs p l e R s m args below meth c Z a0 EL cw own n0 bytes maxL ret nm T h C S sf) {x y : Int32} {pc pc' : Nat} {L : Array Slot} {st : List Value} (hd : decode bytes pc = .ok (.iand, 1)) (hp : pc + 1 = pc') (k : Go p e below P (T.setTop (mkF m pc' L (.int (x &&& y) :: st)))) : Go p e below P (T.setTop (mkF m pc L (.int y :: .int x :: st))) := by
  subst hp
  exact Go.st (fun t kk => XS.iand H.here H.exec (g := mkF m pc L (.int y :: .int x :: st)) rfl (H.dec hd) rfl kk) k
theorem G.iushr (H : Hs p l e R s m args below meth c Z a0 EL cw own n0 bytes maxL ret nm T h C S sf) {x y : Int32} {pc pc' : Nat} {L : Array Slot} {st : List Value} (hd : decode bytes pc = .ok (.iushr, 1)) (hp : pc + 1 = pc') (k : Go p e below P (T.setTop (mkF m pc' L (.int (XT.ushr x y) :: st)))) : Go p e below P (T.setTop (mkF m pc L (.int y :: .int x :: st))) := by
  subst hp
  exact Go.st (fun t kk => XT.iushr H.here H.exec (g := mkF m pc L (.int y :: .int x :: st)) rfl (H.dec hd) rfl kk) k
theorem G.irem (H : Hs p l e R s m args below meth c Z a0 EL cw own n0 bytes maxL ret nm T h C S sf) {x y : Int32} {pc pc' : Nat} {L : Array Slot} {st : List Value} (hd : decode bytes pc = .ok (.irem, 1)) (hp : pc + 1 = pc') (hy : y ≠ 0) (k : Go p e below P (T.setTop (mkF m pc' L (.int (x % y) :: st)))) : Go p e below P (T.setTop (mkF m pc L (.int y :: .int x :: st))) := by
  subst hp
  obtain ⟨-, vm0, k0, locs, X, -⟩ := id H
  exact Go.st (fun t kk => iremM X H.exec (g := mkF m pc L (.int y :: .int x :: st)) rfl (H.dec hd) rfl hy kk) k
theorem G.i2b (H : Hs p l e R s m args below meth c Z a0 EL cw own n0 bytes maxL ret nm T h C S sf) {x : Int32} {pc pc' : Nat} {L : Array Slot} {st : List Value} (hd : decode bytes pc = .ok (.i2b, 1)) (hp : pc + 1 = pc') (k : Go p e below P (T.setTop (mkF m pc' L (.int (x.toInt8.toInt32) :: st)))) : Go p e below P (T.setTop (mkF m pc L (.int x :: st))) := by
  subst hp
  exact Go.st (fun t kk => XT.i2b H.here H.exec (g := mkF m pc L (.int x :: st)) rfl (H.dec hd) rfl kk) k
theorem G.i2c (H : Hs p l e R s m args below meth c Z a0 EL cw own n0 bytes maxL ret nm T h C S sf) {x y : Int32} {pc pc' : Nat} {L : Array Slot} {st : List Value} (hd : decode bytes pc = .ok (.i2c, 1)) (hp : pc + 1 = pc') (hy : x.toUInt32.toUInt16.toUInt32.toInt32 = y) (k : Go p e below P (T.setTop (mkF m pc' L (.int y :: st)))) : Go p e below P (T.setTop (mkF m pc L (.int x :: st))) := by
  subst hp; subst hy
  exact Go.st (fun t kk => XT.i2c H.here H.exec (g := mkF m pc L (.int x :: st)) rfl (H.dec hd) rfl kk) k
theorem G.dup (H : Hs p l e R s m args below meth c Z a0 EL cw own n0 bytes maxL ret nm T h C S sf) {x : Value} {pc pc' : Nat} {L : Array Slot} {st : List Value} (hd : decode bytes pc = .ok (.dup, 1)) (hp : pc + 1 = pc') (hc : x.category = 1) (k : Go p e below P (T.setTop (mkF m pc' L (x :: x :: st)))) : Go p e below P (T.setTop (mkF m pc L (x :: st))) := by
  subst hp
  exact Go.st (fun t kk => XS.dup H.here H.exec (g := mkF m pc L (x :: st)) rfl (H.dec hd) rfl hc kk) k
theorem G.istoreN (H : Hs p l e R s m args below meth c Z a0 EL cw own n0 bytes maxL ret nm T h C S sf) {i : Fin 4} {x : Int32} {L' : Array Slot} {pc pc' : Nat} {L : Array Slot} {st : List Value} (hd : decode bytes pc = .ok (.istore_n i, 1)) (hp : pc + 1 = pc') (hl : storeLocals L i.val (.int x) = some L') (k : Go p e below P (T.setTop (mkF m pc' L' (st)))) : Go p e below P (T.setTop (mkF m pc L (.int x :: st))) := by
  subst hp
  exact Go.st (fun t kk => XS.istoreN H.here H.exec (g := mkF m pc L (.int x :: st)) rfl (H.dec hd) rfl hl kk) k
theorem G.istore (H : Hs p l e R s m args below meth c Z a0 EL cw own n0 bytes maxL ret nm T h C S sf) {i : Nat} {x : Int32} {L' : Array Slot} {pc pc' : Nat} {L : Array Slot} {st : List Value} (hd : decode bytes pc = .ok (.istore i, 2)) (hp : pc + 2 = pc') (hl : storeLocals L i (.int x) = some L') (k : Go p e below P (T.setTop (mkF m pc' L' (st)))) : Go p e below P (T.setTop (mkF m pc L (.int x :: st))) := by
  subst hp
  exact Go.st (fun t kk => XS.istore H.here H.exec (g := mkF m pc L (.int x :: st)) rfl (H.dec hd) rfl hl kk) k
theorem G.astoreN (H : Hs p l e R s m args below meth c Z a0 EL cw own n0 bytes maxL ret nm T h C S sf) {i : Fin 4} {x : Value} {L' : Array Slot} {pc pc' : Nat} {L : Array Slot} {st : List Value} (hd : decode bytes pc = .ok (.astore_n i, 1)) (hp : pc + 1 = pc') (hv : x.isRef = true) (hl : storeLocals L i.val x = some L') (k : Go p e below P (T.setTop (mkF m pc' L' (st)))) : Go p e below P (T.setTop (mkF m pc L (x :: st))) := by
  subst hp
  exact Go.st (fun t kk => XS.astoreN H.here H.exec (g := mkF m pc L (x :: st)) rfl (H.dec hd) rfl hv hl kk) k
theorem G.astore (H : Hs p l e R s m args below meth c Z a0 EL cw own n0 bytes maxL ret nm T h C S sf) {i : Nat} {x : Value} {L' : Array Slot} {pc pc' : Nat} {L : Array Slot} {st : List Value} (hd : decode bytes pc = .ok (.astore i, 2)) (hp : pc + 2 = pc') (hv : x.isRef = true) (hl : storeLocals L i x = some L') (k : Go p e below P (T.setTop (mkF m pc' L' (st)))) : Go p e below P (T.setTop (mkF m pc L (x :: st))) := by
  subst hp
  exact Go.st (fun t kk => XS.astore H.here H.exec (g := mkF m pc L (x :: st)) rfl (H.dec hd) rfl hv hl kk) k
theorem G.iinc (H : Hs p l e R s m args below meth c Z a0 EL cw own n0 bytes maxL ret nm T h C S sf) {i : Nat} {cst : Int} {x v : Int32} {L' : Array Slot} {pc pc' : Nat} {L : Array Slot} {st : List Value} (hd : decode bytes pc = .ok (.iinc i cst, 3)) (hp : pc + 3 = pc') (hl : L[i]? = some (.val (.int x))) (hv : x + Int32.ofInt cst = v) (hl' : storeLocals L i (.int v) = some L') (k : Go p e below P (T.setTop (mkF m pc' L' (st)))) : Go p e below P (T.setTop (mkF m pc L (st))) := by
  subst hp; subst hv
  exact Go.st (fun t kk => XS.iinc H.here H.exec (g := mkF m pc L (st)) rfl (H.dec hd) hl hl' kk) k
theorem G.goto (H : Hs p l e R s m args below meth c Z a0 EL cw own n0 bytes maxL ret nm T h C S sf) {o : Int} {pc pc' : Nat} {L : Array Slot} {st : List Value} (hd : decode bytes pc = .ok (.goto o, 3)) (ho : 0 ≤ (pc : Int) + o) (hp : ((pc : Int) + o).toNat = pc') (k : Go p e below P (T.setTop (mkF m pc' L (st)))) : Go p e below P (T.setTop (mkF m pc L (st))) :=
  Go.st (fun t kk => XS.goto H.here H.exec (g := mkF m pc L (st)) rfl (pc0 := pc) rfl (H.dec hd) ho hp kk) k
theorem G.ifYes (H : Hs p l e R s m args below meth c Z a0 EL cw own n0 bytes maxL ret nm T h C S sf) {cd : ClassFile.Cond} {x : Int32} {o : Int} {pc pc' : Nat} {L : Array Slot} {st : List Value} (hd : decode bytes pc = .ok (.ifCond cd o, 3)) (hc : ifCond.holds cd x = true) (ho : 0 ≤ (pc : Int) + o) (hp : ((pc : Int) + o).toNat = pc') (k : Go p e below P (T.setTop (mkF m pc' L (st)))) : Go p e below P (T.setTop (mkF m pc L (.int x :: st))) :=
  Go.st (fun t kk => XS.ifYes H.here H.exec (g := mkF m pc L (.int x :: st)) rfl (pc0 := pc) rfl (H.dec hd) rfl hc ho hp kk) k
theorem G.icmpYes (H : Hs p l e R s m args below meth c Z a0 EL cw own n0 bytes maxL ret nm T h C S sf) {cd : ClassFile.Cond} {x y : Int32} {o : Int} {pc pc' : Nat} {L : Array Slot} {st : List Value} (hd : decode bytes pc = .ok (.if_icmp cd o, 3)) (hc : if_icmp.holds cd x y = true) (ho : 0 ≤ (pc : Int) + o) (hp : ((pc : Int) + o).toNat = pc') (k : Go p e below P (T.setTop (mkF m pc' L (st)))) : Go p e below P (T.setTop (mkF m pc L (.int y :: .int x :: st))) :=
  Go.st (fun t kk => XS.icmpYes H.here H.exec (g := mkF m pc L (.int y :: .int x :: st)) rfl (pc0 := pc) rfl (H.dec hd) rfl hc ho hp kk) k
theorem G.acmpYes (H : Hs p l e R s m args below meth c Z a0 EL cw own n0 bytes maxL ret nm T h C S sf) {cd : ClassFile.ACond} {x y : Value} {o : Int} {pc pc' : Nat} {L : Array Slot} {st : List Value} (hd : decode bytes pc = .ok (.if_acmp cd o, 3)) (hx' : x.isRef = true) (hy' : y.isRef = true) (hc : XT.acmp cd x y = true) (ho : 0 ≤ (pc : Int) + o) (hp : ((pc : Int) + o).toNat = pc') (k : Go p e below P (T.setTop (mkF m pc' L (st)))) : Go p e below P (T.setTop (mkF m pc L (y :: x :: st))) :=
  Go.st (fun t kk => XT.acmpYes H.here H.exec (g := mkF m pc L (y :: x :: st)) rfl (pc0 := pc) rfl (H.dec hd) rfl hx' hy' hc ho hp kk) k
theorem G.ifNo (H : Hs p l e R s m args below meth c Z a0 EL cw own n0 bytes maxL ret nm T h C S sf) {cd : ClassFile.Cond} {o : Int} {x : Int32} {pc pc' : Nat} {L : Array Slot} {st : List Value} (hd : decode bytes pc = .ok (.ifCond cd o, 3)) (hp : pc + 3 = pc') (hc : ifCond.holds cd x = false) (k : Go p e below P (T.setTop (mkF m pc' L (st)))) : Go p e below P (T.setTop (mkF m pc L (.int x :: st))) := by
  subst hp
  exact Go.st (fun t kk => XS.ifNo H.here H.exec (g := mkF m pc L (.int x :: st)) rfl (H.dec hd) rfl hc kk) k
theorem G.icmpNo (H : Hs p l e R s m args below meth c Z a0 EL cw own n0 bytes maxL ret nm T h C S sf) {cd : ClassFile.Cond} {o : Int} {x y : Int32} {pc pc' : Nat} {L : Array Slot} {st : List Value} (hd : decode bytes pc = .ok (.if_icmp cd o, 3)) (hp : pc + 3 = pc') (hc : if_icmp.holds cd x y = false) (k : Go p e below P (T.setTop (mkF m pc' L (st)))) : Go p e below P (T.setTop (mkF m pc L (.int y :: .int x :: st))) := by
  subst hp
  exact Go.st (fun t kk => XS.icmpNo H.here H.exec (g := mkF m pc L (.int y :: .int x :: st)) rfl (H.dec hd) rfl hc kk) k
theorem G.acmpNo (H : Hs p l e R s m args below meth c Z a0 EL cw own n0 bytes maxL ret nm T h C S sf) {cd : ClassFile.ACond} {o : Int} {x y : Value} {pc pc' : Nat} {L : Array Slot} {st : List Value} (hd : decode bytes pc = .ok (.if_acmp cd o, 3)) (hp : pc + 3 = pc') (hx' : x.isRef = true) (hy' : y.isRef = true) (hc : XT.acmp cd x y = false) (k : Go p e below P (T.setTop (mkF m pc' L (st)))) : Go p e below P (T.setTop (mkF m pc L (y :: x :: st))) := by
  subst hp
  exact Go.st (fun t kk => XT.acmpNo H.here H.exec (g := mkF m pc L (y :: x :: st)) rfl (H.dec hd) rfl hx' hy' hc kk) k
theorem Hs.ext {T' : State} {h' : Heap} {C' S' : Nat} {vm0 : Vm} {k0 : Nat} {locs : List Loc} (H : Hs p l e R s m args below meth c Z a0 EL cw own n0 bytes maxL ret nm T h C S sf) (X' : Stand p l e R (s.setVm vm0) m args below meth c T' locs C' S') (e' : T'.heap = h') (E : Ext h h') (h2 : s.Since vm0 k0) (h3 : k0 ≤ h.size) (h4 : Z.Warmed39 vm0) (h5 : vm0.findClass own = some m.cls) (h6 : Fr n0 locs) (h7 : CHr Z EL s.vm s.heap vm0 h) (h8 : ∀ x ∈ sf, x < h.size ∧ Safe Z EL vm0 h x) (h9 : cw ∨ s.WarmedH vm0) (hO : Old Z n0 h) (hlt : h.size < h'.size) : Hs p l e R s m args below meth c Z a0 EL cw own n0 bytes maxL ret nm T' h' C' S' (h.size :: sf) :=
  ⟨H.1, vm0, k0, locs, X', e', h2, Nat.le_trans h3 E.1, h4, h5, h6, h7.trans (CHr.ext E h7.1), fun x hx => by
    rcases List.mem_cons.mp hx with rfl | hx
    · exact ⟨hlt, Safe.ext E h7.1 (Safe.new (Nat.le_refl _))⟩
    · exact ⟨Nat.lt_of_lt_of_le (h8 x hx).1 E.1, Safe.ext E h7.1 (h8 x hx).2⟩, h9, hO.ext E⟩
theorem G.new (H : Hs p l e R s m args below meth c Z a0 EL cw own n0 bytes maxL ret nm T h C S sf) {K : String} {index n : Nat} (w : (Cond.classLink own index K).before a0 Z = true) (wi : (Cond.instantiable K n).before a0 Z = true) (wz : (Cond.initialized K).before a0 Z = true) {pc pc' : Nat} {L : Array Slot} {st : List Value} (hd : decode bytes pc = .ok (.new index, 3)) (hp : pc + 3 = pc') (hc : C + 1 ≤ R.cells) (hl : S + n ≤ R.slots)
    (k : ∀ T' h' a, a = h.size → Hs p l e R s m args below meth c Z a0 EL cw own n0 bytes maxL ret nm T' h' (C + 1) (S + n) (a :: sf) → Ext h h' → Exa Z h' a K → (∀ {O nm' d : String} {ty : FieldType}, Laid Z a0 K O nm' d → parseFieldDescriptor d = some ty → Fld Z h' a O nm' d (defaultValue ty)) → Go p e below P (T'.setTop (mkF m pc' L (.ref a :: st)))) : Go p e below P (T.setTop (mkF m pc L st)) := by
  subst hp
  obtain ⟨hM, vm0, k0, locs, X, h1, h2, h3, h4, h5, h6, h7, h8, h9, hO⟩ := id H
  obtain ⟨T', h', X', e', E, A, D, -, st'⟩ := RoadKit.newO X H.exec h4 h5 w wi wz h1 (g := mkF m pc L st) rfl (H.dec hd) hc hl
  exact Go.st st' (k T' h' _ rfl (H.ext X' e' E h2 h3 h4 h5 h6 h7 h8 h9 hO A.lt) E A D)
theorem G.newP (H : Hs p l e R s m args below meth c Z a0 EL cw own n0 bytes maxL ret nm T h C S sf) {aty : ArrayType} (w : (Cond.arrayClass (newarray.typeOf aty)).before a0 Z = true) {z : Int32} {pc pc' : Nat} {L : Array Slot} {st : List Value} (hd : decode bytes pc = .ok (.newarray aty, 2)) (hp : pc + 2 = pc') (hn : ¬ z < 0) {cap : Nat} (hcap : z.toNatClampNeg ≤ cap) (hb : cap * 8 ≤ 536870912) (hc : C + 1 ≤ R.cells) (hl : S + cap ≤ R.slots) {vs : List Value} (hvs : List.replicate z.toNatClampNeg (defaultValue (newarray.typeOf aty)) = vs) {ad : String} (had : "[" ++ (newarray.typeOf aty).toString = ad)
    (k : ∀ T' h' a kc, a = h.size → Hs p l e R s m args below meth c Z a0 EL cw own n0 bytes maxL ret nm T' h' (C + 1) (S + cap) (a :: sf) → Ext h h' → Arv Z h' a kc (newarray.typeOf aty) z vs (defaultValue (newarray.typeOf aty)) → Exa Z h' a ad → Go p e below P (T'.setTop (mkF m pc' L (.ref a :: st)))) : Go p e below P (T.setTop (mkF m pc L (.int z :: st))) := by
  subst hp
  obtain ⟨hM, vm0, k0, locs, X, h1, h2, h3, h4, h5, h6, h7, h8, h9, hO⟩ := id H
  obtain ⟨T', h', cA, X', e', E, A, EX, st'⟩ := RoadKit.newPE X H.exec h4 w h1 (g := mkF m pc L (.int z :: st)) rfl (H.dec hd) rfl hn hcap hb hc hl had
  refine Go.st st' (k T' h' _ cA rfl (H.ext X' e' E h2 h3 h4 h5 h6 h7 h8 h9 hO A.lt) E ?_ EX)
  subst hvs
  exact (Arv.new A hn).pad (fun i => by simpa using pad_rep [] (defaultValue (newarray.typeOf aty)) z.toNatClampNeg i)
theorem Hs.wr {T' : State} {h' : Heap} {vm0 : Vm} {k0 : Nat} {locs : List Loc} {a : Addr} {sl : Nat} {v : Value} (H : Hs p l e R s m args below meth c Z a0 EL cw own n0 bytes maxL ret nm T h C S sf) (X' : Stand p l e R (s.setVm vm0) m args below meth c T' (locs ++ [⟨a, sl⟩]) C S) (e' : T'.heap = h') (W : Wr h h' a sl v) (q : n0 ≤ a) (sa : Safe Z EL vm0 h a) (h2 : s.Since vm0 k0) (h3 : k0 ≤ h.size) (h4 : Z.Warmed39 vm0) (h5 : vm0.findClass own = some m.cls) (h6 : Fr n0 locs) (h7 : CHr Z EL s.vm s.heap vm0 h) (h8 : ∀ x ∈ sf, x < h.size ∧ Safe Z EL vm0 h x) (h9 : cw ∨ s.WarmedH vm0) (hO : Old Z n0 h) : Hs p l e R s m args below meth c Z a0 EL cw own n0 bytes maxL ret nm T' h' C S sf :=
  ⟨H.1, vm0, k0, locs ++ [⟨a, sl⟩], X', e', h2, by rw [W.size]; exact h3, h4, h5, Fr.snoc X' h6 q, h7.trans (CHr.wr W sa h7.1), fun x hx => ⟨by rw [W.size]; exact (h8 x hx).1, Safe.wr W sa h7.1 (h8 x hx).2⟩, h9, hO.wr W q⟩
theorem G.putF (H : Hs p l e R s m args below meth c Z a0 EL cw own n0 bytes maxL ret nm T h C S sf) {R0 O n d K : String} {index kk : Nat} {ty : FieldType} (w : (Cond.fieldLink own index R0 n d).before a0 Z = true) (via : Via Z R0 O n d) {a : Addr} {v old : Value} (F : Fld Z h a O n d old) (E : Exa Z h a K) (Ly : (Cond.lays K O n d).before a0 Z = true ∨ ((Cond.laysFinal K O n d).before a0 Z = true ∧ own = O ∧ nm = "<init>")) (wi : (Cond.instantiable K kk).before a0 Z = true) (hty : parseFieldDescriptor d = some ty) (hn : narrow ty v = v) (hf : fits ty v = true) (hq : n0 ≤ a) (hsf : Sf Z EL h sf a) {pc pc' : Nat} {L : Array Slot} {st : List Value} (hd : decode bytes pc = .ok (.putfield index, 3)) (hp : pc + 3 = pc')
    (k : ∀ T' h', Hs p l e R s m args below meth c Z a0 EL cw own n0 bytes maxL ret nm T' h' C S sf → Wr h h' a (RoadKit.slotOf Z O n d) v → Go p e below P (T'.setTop (mkF m pc' L st))) : Go p e below P (T.setTop (mkF m pc L (v :: .ref a :: st))) := by
  subst hp
  obtain ⟨hM, vm0, k0, locs, X, h1, h2, h3, h4, h5, h6, h7, h8, h9, hO⟩ := id H
  obtain ⟨T', h', X', e', W, st'⟩ := RoadKit.putF X H.exec h4 (host := "") h5 (Or.inl w) via h1 F E (Ly.imp id (fun q => ⟨q.1, q.2.1, hM.2.2.2.2.2.2.1.trans q.2.2⟩)) wi hty hn hf (g := mkF m pc L (v :: .ref a :: st)) rfl rfl (H.dec hd)
  exact Go.st st' (k T' h' (H.wr X' e' W hq (hsf.safe h4 h8) h2 h3 h4 h5 h6 h7 h8 h9 hO) W)
theorem G.stC (H : Hs p l e R s m args below meth c Z a0 EL cw own n0 bytes maxL ret nm T h C S sf) {a : Addr} {kc : ClassId} {z : Int32} {vs : List Value} {dv : Value} (A : Arv Z h a kc .char z vs dv) {j x : Int32} (hj : ¬ j < 0 ∧ j < z) {i : Nat} (hi : j.toNatClampNeg = i) (hlt : i < vs.length) (hq : n0 ≤ a) {y : Int32} (hy : nar .char x = y) {pc pc' : Nat} {L : Array Slot} {st : List Value} (hd : decode bytes pc = .ok (.castore, 1)) (hp : pc + 1 = pc')
    (k : ∀ T' h', Hs p l e R s m args below meth c Z a0 EL cw own n0 bytes maxL ret nm T' h' C S sf → Wr h h' a i (.int y) → Arv Z h' a kc .char z (vs.set i (.int y)) dv → Go p e below P (T'.setTop (mkF m pc' L st))) : Go p e below P (T.setTop (mkF m pc L (.int x :: .int j :: .ref a :: st))) := by
  subst hp; subst hi; subst hy
  obtain ⟨hM, vm0, k0, locs, X, h1, h2, h3, h4, h5, h6, h7, h8, h9, hO⟩ := id H
  obtain ⟨cl, Ar, q1, S1, q3, H1, G1⟩ := A
  obtain ⟨T', h', X', e', W, st'⟩ := RoadKit.stC X H.exec h4 h1 Ar (inb_of S1 hj) (g := mkF m pc L (.int x :: .int j :: .ref a :: st)) rfl rfl (H.dec hd)
  exact Go.st st' (k T' h' (H.wr X' e' W hq (Safe.arr h4.alike Ar (by decide)) h2 h3 h4 h5 h6 h7 h8 h9 hO) W (Arv.set Ar q1 S1 q3 H1 G1 (fits_nar_char x) W _ rfl hlt))
theorem G.stB (H : Hs p l e R s m args below meth c Z a0 EL cw own n0 bytes maxL ret nm T h C S sf) {a : Addr} {kc : ClassId} {z : Int32} {vs : List Value} {dv : Value} (A : Arv Z h a kc .byte z vs dv) {j x : Int32} (hj : ¬ j < 0 ∧ j < z) {i : Nat} (hi : j.toNatClampNeg = i) (hlt : i < vs.length) (hq : n0 ≤ a) (hsf : Sf Z EL h sf a) {y : Int32} (hy : nar .byte x = y) {pc pc' : Nat} {L : Array Slot} {st : List Value} (hd : decode bytes pc = .ok (.bastore, 1)) (hp : pc + 1 = pc')
    (k : ∀ T' h', Hs p l e R s m args below meth c Z a0 EL cw own n0 bytes maxL ret nm T' h' C S sf → Wr h h' a i (.int y) → Arv Z h' a kc .byte z (vs.set i (.int y)) dv → Go p e below P (T'.setTop (mkF m pc' L st))) : Go p e below P (T.setTop (mkF m pc L (.int x :: .int j :: .ref a :: st))) := by
  subst hp; subst hi; subst hy
  obtain ⟨hM, vm0, k0, locs, X, h1, h2, h3, h4, h5, h6, h7, h8, h9, hO⟩ := id H
  obtain ⟨cl, Ar, q1, S1, q3, H1, G1⟩ := A
  obtain ⟨T', h', X', e', W, st'⟩ := RoadKit.stB X H.exec h4 h1 Ar (inb_of S1 hj) (g := mkF m pc L (.int x :: .int j :: .ref a :: st)) rfl rfl (H.dec hd)
  exact Go.st st' (k T' h' (H.wr X' e' W hq (hsf.safe h4 h8) h2 h3 h4 h5 h6 h7 h8 h9 hO) W (Arv.set Ar q1 S1 q3 H1 G1 (fits_nar_byte x) W _ rfl hlt))
theorem Hs.rebase {T' : State} {h' : Heap} {C' S' : Nat} {vm0 : Vm} {k1 : Nat} {locs : List Loc} (H : Hs p l e R s m args below meth c Z a0 EL cw own n0 bytes maxL ret nm T h C S sf) (hcw : cw) (X' : Stand p l e R (s.setVm T'.vm) m args below meth c T' locs C' S') (e' : T'.heap = h') (h2 : s.Since T'.vm k1) (h3 : k1 ≤ h'.size) (h4 : Z.Warmed39 T'.vm) (h5 : T'.vm.findClass own = some m.cls) (h6 : Fr n0 locs) (h7 : CHr Z EL s.vm s.heap vm0 h) (h7' : CHr Z EL vm0 h T'.vm h') (h8 : ∀ x ∈ sf, x < h.size ∧ Safe Z EL vm0 h x) (hO : Old Z n0 h') : Hs p l e R s m args below meth c Z a0 EL cw own n0 bytes maxL ret nm T' h' C' S' sf :=
  ⟨H.1, T'.vm, k1, locs, X', e', h2, h3, h4, h5, h6, h7.trans h7', fun x hx => ⟨Nat.lt_of_lt_of_le (h8 x hx).1 h7'.2.1, h7'.safe (h8 x hx).1 (h8 x hx).2⟩, Or.inl hcw, hO⟩
theorem G.ldcS (H : Hs p l e R s m args below meth c Z a0 EL cw own n0 bytes maxL ret nm T h C S sf) (hcw : cw) (wS : ∀ a ∈ Bundle.stringAtoms, a.before a0 Z = true) {index : Nat} {text : String} (w : (Cond.stringLink own index text).before a0 Z = true) (hmem : (own, index) ∈ EL) {vs : List Value} {z : Int32} (ht : (∀ c ∈ text.toList, c.toNat < 256) ∧ text.toList.map (fun c => Value.int (Jvm.Lit.byteI c.toNat.toUInt16)) = vs) (hz : ¬ z < 0) (hl : z.toNatClampNeg = vs.length) {n : Nat} (hn : 4 * text.toList.length ≤ n) (hbig : n ≤ 536870912) (hc : C + 2 ≤ R.cells) (hl' : S + (n + 4) ≤ R.slots) {pc pc' : Nat} {L : Array Slot} {st : List Value} (hd : decode bytes pc = .ok (.ldc index, 2)) (hp : pc + 2 = pc')
    (k : ∀ T' h' a b kb, Hs p l e R s m args below meth c Z a0 EL cw own n0 bytes maxL ret nm T' h' (C + 2) (S + (n + 4)) sf → Ext h h' → Exa Z h' a "java/lang/String" → Fld Z h' a "java/lang/String" "coder" "B" (.int 0) → Fld Z h' a "java/lang/String" "value" "[B" (.ref b) → Arv Z h' b kb .byte z vs (.int 0) → (∀ x ∈ sf, x ≠ a ∧ x ≠ b) → Go p e below P (T'.setTop (mkF m pc' L (.ref a :: st)))) : Go p e below P (T.setTop (mkF m pc L st)) := by
  subst hp
  obtain ⟨hM, vm0, k0, locs, X, h1, h2, h3, h4, h5, h6, h7, h8, h9, hO⟩ := id H
  obtain ⟨a, T', h', k1, b, kb, X', e', E, s2, s3, s4, s5, F1, F2, F3, F4, -, -, h7', -, hne, st'⟩ := RoadKit.ldcCH X H.exec h4 h5 w wS h1 h2 h3 hM.2.1 hmem h7.1 ht hz hl (g := mkF m pc L st) rfl (H.dec hd) hn hbig hc hl'
  exact Go.st st' (k T' h' a b kb (H.rebase hcw X' e' s2 s3 s4 s5 h6 h7 h7' h8 (hO.ext E)) E F1 F2 F3 F4 (fun x hx => hne x (h7'.safe (h8 x hx).1 (h8 x hx).2)))
def FinP (s : State) (below : List Frame) (Z : State) (EL : List (String × Nat)) (cw : Prop) (n0 Cm Sm : Nat) (Q : Option Value → Heap → List Addr → Prop) : State → Outcome → Prop := fun u o =>
  u.status = .running ∧ Ended u below o ∧ ∃ v L so, o = .returned v ∧ Q v u.heap so ∧ Old Z n0 u.heap ∧ Fr n0 L ∧ CHr Z EL s.vm s.heap u.vm u.heap ∧ (∀ x ∈ so, x < u.heap.size ∧ Safe Z EL u.vm u.heap x) ∧ ReturnedEndW s o u L Cm Sm ∧ (cw ∨ FrameEnd s o u L Cm Sm)
theorem Hs.leave (H : Hs p l e R s m args below meth c Z a0 EL cw own n0 bytes maxL ret nm T h C S sf) {Cm Sm : Nat} {Q : Option Value → Heap → List Addr → Prop} {v : Option Value} {so : List Addr} (hv : ret = none → v = none) (hQ : Q v h so) (hso : ∀ x ∈ so, x ∈ sf) (hC : C ≤ Cm) (hS : S ≤ Sm) :
    ∃ fs, (∀ (f : JFrame) (acts : List Action), f.method = m → f.locked = none → f.entered = [] → (doReturn e (T.setTop f) acts v).1 = T.setFrames fs) ∧ FinP s below Z EL cw n0 Cm Sm Q (T.setFrames fs) (.returned v) := by
  obtain ⟨hM, vm0, k0, locs, X, h1, h2, h3, h4, h5, h6, h7, h8, h9, hO⟩ := H
  obtain ⟨-, hEL, -, -, hret, hlocks, -, -⟩ := hM
  obtain ⟨fs, hr, hrun, hended, hW, hsame⟩ := X.leave (v := v) (fun q => hv (hret.symm.trans q)) hlocks
  have hk : k0 ≤ (T.setFrames fs).heap.size := by show k0 ≤ T.heap.size; rw [h1]; exact h3
  obtain ⟨w1, w2, w3⟩ := h2.ended (U := T.setFrames fs) hW hk hsame
  have A := CHv.at X h4 hEL h7.1
  refine ⟨fs, hr, hrun, hended, v, locs, so, rfl, ?_, ?_, h6, ?_, ?_, ⟨⟨v, rfl⟩, w1, w2, w3.mono hC hS⟩, ?_⟩
  · show Q v T.heap so; rw [h1]; exact hQ
  · show Old Z n0 T.heap; rw [h1]; exact hO
  · show CHr Z EL s.vm s.heap T.vm T.heap; rw [h1]; exact h7.trans A
  · intro x hx
    show x < T.heap.size ∧ Safe Z EL T.vm T.heap x
    rw [h1]; exact ⟨(h8 x (hso x hx)).1, A.safe (h8 x (hso x hx)).1 (h8 x (hso x hx)).2⟩
  · exact h9.imp id (fun q => ⟨⟨v, rfl⟩, State.WarmedH.trans (t := s.setVm vm0) q hW, w3.mono hC hS⟩)
theorem G.retG (H : Hs p l e R s m args below meth c Z a0 EL cw own n0 bytes maxL ret nm T h C S sf) {Cm Sm : Nat} {Q : Option Value → Heap → List Addr → Prop} {so : List Addr} {pc : Nat} {L : Array Slot} {w : Value} {t : FieldType} {i : Instr} {rest : List Value} (hret : ret = some t) (hn : narrow t w = w)
    (hi : (i = .ireturn ∧ (t = .int ∨ t = .boolean ∨ t = .byte ∨ t = .char ∨ t = .short) ∧ ∃ z, w = .int z) ∨ (i = .lreturn ∧ t = .long ∧ ∃ z, w = .long z) ∨ (i = .dreturn ∧ t = .double ∧ ∃ z, w = .double z) ∨ (i = .freturn ∧ t = .float ∧ ∃ z, w = .float z) ∨ (i = .areturn ∧ t.isReference = true ∧ w.isRef = true))
    (hd : decode bytes pc = .ok (i, 1)) (hso : ∀ x ∈ so, x ∈ sf) (hC : C ≤ Cm) (hS : S ≤ Sm) (hQ : Q (some w) h so) : Go p e below (FinP s below Z EL cw n0 Cm Sm Q) (T.setTop (mkF m pc L (w :: rest))) := by
  obtain ⟨fs, hr, hF⟩ := H.leave (Q := Q) (v := some w) (Cm := Cm) (Sm := Sm) (fun q => by rw [hret] at q; cases q) hQ hso hC hS
  obtain ⟨hM, vm0, k0, locs, X, -⟩ := id H
  exact ⟨_, _, retOut X H.exec (hM.2.2.2.2.1.trans hret) hn hi (H.dec hd) hr, hF⟩
theorem G.retN (H : Hs p l e R s m args below meth c Z a0 EL cw own n0 bytes maxL ret nm T h C S sf) {Cm Sm : Nat} {Q : Option Value → Heap → List Addr → Prop} {so : List Addr} {pc : Nat} {L : Array Slot} {z : Int32} {t : FieldType} {rest : List Value} (hret : ret = some t) (ht : t = .boolean ∨ t = .byte ∨ t = .char ∨ t = .short) (hd : decode bytes pc = .ok (.ireturn, 1)) (hso : ∀ x ∈ so, x ∈ sf) (hC : C ≤ Cm) (hS : S ≤ Sm) (hQ : Q (some (.int (nar t z))) h so) : Go p e below (FinP s below Z EL cw n0 Cm Sm Q) (T.setTop (mkF m pc L (.int z :: rest))) := by
  obtain ⟨fs, hr, hF⟩ := H.leave (Q := Q) (v := some (.int (nar t z))) (Cm := Cm) (Sm := Sm) (fun q => by rw [hret] at q; cases q) hQ hso hC hS
  obtain ⟨hM, vm0, k0, locs, X, -⟩ := id H
  exact ⟨_, _, RoadKit.retN X H.exec (hM.2.2.2.2.1.trans hret) ht (H.dec hd) hr, hF⟩
theorem G.retA (H : Hs p l e R s m args below meth c Z a0 EL cw own n0 bytes maxL ret nm T h C S sf) {Cm Sm : Nat} {Q : Option Value → Heap → List Addr → Prop} {so : List Addr} {pc : Nat} {L : Array Slot} {w : Value} {t : FieldType} {rest : List Value} (hret : ret = some t) (ht : t.isReference = true) (hw : w.isRef = true) (hd : decode bytes pc = .ok (.areturn, 1)) (hso : ∀ x ∈ so, x ∈ sf) (hC : C ≤ Cm) (hS : S ≤ Sm) (hQ : Q (some w) h so) : Go p e below (FinP s below Z EL cw n0 Cm Sm Q) (T.setTop (mkF m pc L (w :: rest))) :=
  G.retG H hret (by rcases ref_cases hw with rfl | ⟨a, rfl⟩ <;> cases t <;> first | rfl | cases ht) (Or.inr (Or.inr (Or.inr (Or.inr ⟨rfl, ht, hw⟩)))) hd hso hC hS hQ
theorem G.retV (H : Hs p l e R s m args below meth c Z a0 EL cw own n0 bytes maxL ret nm T h C S sf) {Cm Sm : Nat} {Q : Option Value → Heap → List Addr → Prop} {so : List Addr} {pc : Nat} {L : Array Slot} (hret : ret = none) (hd : decode bytes pc = .ok (.return_, 1)) (hso : ∀ x ∈ so, x ∈ sf) (hC : C ≤ Cm) (hS : S ≤ Sm) (hQ : Q none h so) : Go p e below (FinP s below Z EL cw n0 Cm Sm Q) (T.setTop (mkF m pc L [])) := by
  obtain ⟨fs, hr, hF⟩ := H.leave (Q := Q) (v := none) (Cm := Cm) (Sm := Sm) (fun _ => rfl) hQ hso hC hS
  obtain ⟨hM, vm0, k0, locs, X, -⟩ := id H
  exact ⟨_, _, X.returnOut H.exec (hM.2.2.2.2.1.trans hret) (H.dec hd) hr, hF⟩
def Met (Z : State) (a0 : Array Value) (EL : List (String × Nat)) (cw : Prop) (n0 : Nat) (l : Launch) (y : MethodName) (bytes : ByteArray) (maxL : Nat) (ret : Option FieldType) (rm : Room) (as' : Array Value) (h : Heap) (sfI : List Addr) (Q : Option Value → Heap → List Addr → Prop) : Prop :=
  ∀ ws, MetFree l y (head1 (Cond.code y bytes maxL ret :: ws) rm) (fun a U => a = as' ∧ Z.Warmed39 U.vm ∧ U.heap = h ∧ CHv Z EL U.vm h ∧ ∀ x ∈ sfI, x < h.size ∧ Safe Z EL U.vm h x) (fun _ _ _ _ _ => True)
    (fun _ U o U' => ∃ v L so, o = .returned v ∧ Q v U'.heap so ∧ Old Z n0 U'.heap ∧ Fr n0 L ∧ CHr Z EL U.vm U.heap U'.vm U'.heap ∧ (∀ x ∈ so, x < U'.heap.size ∧ Safe Z EL U'.vm U'.heap x) ∧ ReturnedEndW U o U' L rm.cells rm.slots ∧ (cw ∨ FrameEnd U o U' L rm.cells rm.slots))
theorem Met.of {y : MethodName} {rm : Room} {as' : Array Value} {sfI : List Addr} {Q : Option Value → Heap → List Addr → Prop} {L0 : Array Slot} (hEL : EW Z a0 EL) (hpn : plainFor y = true) (hO : Old Z n0 h) (hL : Jvm.Sym.laidSlots as'.toList ++ List.replicate (maxL - (Jvm.Sym.laidSlots as'.toList).length) .unset = L0.toList)
    (body : ∀ (p : Program) (e : Env) (s : State) (m : MethodId) (below : List Frame) (meth : Method) (c : Code) (T : State), Hs p l e rm s m as' below meth c Z a0 EL cw y.cls n0 bytes maxL ret y.name T h 0 0 sfI → Go p e below (FinP s below Z EL cw n0 rm.cells rm.slots Q) (T.setTop (mkF m 0 L0 []))) : Met Z a0 EL cw n0 l y bytes maxL ret rm as' h sfI Q := by
  intro ws
  refine MetFree.of_bodySF hpn hisR ?_
  intro p e s m args below meth c s₁ Bd hml hP hK
  obtain ⟨rfl, hZ, hh, hC, hs⟩ := hP
  have X0 : Stand p l e rm (s.setVm s.vm) m args below meth c s₁ [] 0 0 := Stand.of_body Bd
  have e0 : s₁.heap = h := by rw [← hh, Bd.state]; rfl
  have H : Hs p l e rm s m args below meth c Z a0 EL cw y.cls n0 bytes maxL ret y.name s₁ h 0 0 sfI :=
    ⟨⟨Bd.exec, hEL, Bd.bytes, hml, Bd.returns, Bd.notSynchronized, (name_of_methodNamed Bd.named Bd.method).1, by rw [hh, ← hO.1]; exact hO.2.1⟩, s.vm, s.heap.size, [], X0, e0, (State.WarmedH.refl s).since _, by rw [hh]; exact Nat.le_refl _, hZ, findClass_of_methodNamed Bd.named, Fr.nil n0, by rw [hh]; exact CHr.refl hC, hs, Or.inr (State.WarmedH.refl s), hO⟩
  obtain ⟨u, o, h1, h2, h3, v, L, so, r1, r2, rO, r3, r4, r5, r6, r7⟩ := body p e s m below meth c s₁ H
  exact ⟨u, o, (XT.entry hL).trans h1, h2, h3, v, L, so, r1, r2, rO, r3, r4, r5, r6, r7⟩
theorem Met.backS {y : MethodName} {rm : Room} {as' : Array Value} {sfI : List Addr} {Q : Option Value → Heap → List Addr → Prop} {vm0 : Vm} {len W : Nat} (M : Met Z a0 EL cw n0 l y bytes maxL ret rm as' h sfI Q) (hEL : EW Z a0 EL) (hZ : Z.Warmed39 vm0) (wc : (Cond.code y bytes maxL ret).before a0 Z = true) (wz : (Cond.initialized y.cls).before a0 Z = true) (hf : rm.frames + 1 ≤ R.frames) (hl : W + (maxL + 11) + rm.locals ≤ R.locals) (H : CHv Z EL vm0 h) (hs : ∀ x ∈ sfI, x < h.size ∧ Safe Z EL vm0 h x) :
    BackS l R p e below (s.setVm vm0) args y len W (fun A a => a = as' ∧ A.U.heap = h ∧ A.cells + rm.cells ≤ R.cells ∧ A.slots + rm.slots ≤ R.slots)
      (fun A _ v B => ∃ L so, Q v B.U.heap so ∧ Old Z n0 B.U.heap ∧ Fr n0 L ∧ B.locs = A.locs ++ L ∧ B.cells = A.cells + rm.cells ∧ B.slots = A.slots + rm.slots ∧ CHr Z EL vm0 h B.U.vm B.U.heap ∧ (∀ x ∈ so, x < B.U.heap.size ∧ Safe Z EL B.U.vm B.U.heap x) ∧ (cw ∨ (s.setVm vm0).WarmedH B.U.vm)) :=
  BackS.of_freeW (bytes := bytes) (maxL := maxL) (ret := ret)
    (E := fun _ first o t L k n => k = rm.cells ∧ n = rm.slots ∧ ∃ v so, o = .returned v ∧ Q v t.heap so ∧ Old Z n0 t.heap ∧ Fr n0 L ∧ CHr Z EL first.vm first.heap t.vm t.heap ∧ (∀ x ∈ so, x < t.heap.size ∧ Safe Z EL t.vm t.heap x) ∧ (cw ∨ first.WarmedH t.vm))
    (M []) hf hl
    (fun m meth c A a Y hp => have hU : Z.Warmed39 A.U.vm := wtrans (s := s.setVm vm0) hZ Y.warmed
      ⟨by show (Cond.and _ .tt).before a A.U = true; rw [Cond.before_and, mv hU wc]; rfl, mv hU wc, mv hU wz, hp.2.2.1, hp.2.2.2⟩)
    (fun m meth c A a g mk Y hp => by
      have A1 := CHv.at Y hZ hEL H
      exact ⟨hp.1, wtrans (s := s.setVm vm0) hZ Y.warmed, hp.2.1, A1.1, fun x hx => ⟨(hs x hx).1, A1.safe (hs x hx).1 (hs x hx).2⟩⟩)
    (fun _ _ _ _ _ _ _ _ _ => trivial)
    (fun _ _ _ _ ⟨v, L, so, h1, h2, hO, h3, h4, h5, h6, h7⟩ => ⟨L, _, _, h6, rfl, rfl, v, so, h1, h2, hO, h3, h4, h5, h7.imp id (fun q => q.2.1)⟩)
    (fun m meth c A a g mk v t L k n Y hp _ _ ⟨e1, e2, v', so, e3, e4, eO, e5, e6, e7, e8⟩ => by
      cases e3; subst e1 e2
      refine ⟨L, so, e4, eO, e5, rfl, rfl, rfl, (CHv.at Y hZ hEL H).trans ?_, e7, e8.imp id (fun q => State.WarmedH.trans (t := A.U) Y.warmed q)⟩
      rw [← hp.2.1]; exact e6)
/-- behind a call -/
theorem Hs.behind {vm0 vm₁ : Vm} {k0 : Nat} {locs : List Loc} {B : Pt} {L' : List Loc} {so : List Addr} {kc ks : Nat} (H : Hs p l e R s m args below meth c Z a0 EL cw own n0 bytes maxL ret nm T h C S sf) (h2 : s.Since vm0 k0) (h3 : k0 ≤ h.size) (h4 : Z.Warmed39 vm0) (h5 : vm0.findClass own = some m.cls) (h6 : Fr n0 locs) (h7 : CHr Z EL s.vm s.heap vm0 h) (h8 : ∀ x ∈ sf, x < h.size ∧ Safe Z EL vm0 h x) (h9 : cw ∨ s.WarmedH vm0)
    (X' : Stand p l e R ((s.setVm vm0).setVm B.U.vm) m args below meth c B.U B.locs B.cells B.slots) (hS : (s.setVm vm0).Since B.U.vm B.U.heap.size) (hg : h.size ≤ B.U.heap.size) (r1 : Fr n0 L') (r2 : B.locs = locs ++ L') (r3 : B.cells = C + kc) (r4 : B.slots = S + ks) (r5 : CHr Z EL vm0 h B.U.vm B.U.heap) (r6 : ∀ x ∈ so, x < B.U.heap.size ∧ Safe Z EL B.U.vm B.U.heap x) (r7 : cw ∨ (s.setVm vm0).WarmedH B.U.vm) (rO : Old Z n0 B.U.heap) : Hs p l e R s m args below meth c Z a0 EL cw own n0 bytes maxL ret nm B.U B.U.heap (C + kc) (S + ks) (so ++ sf) := by
  obtain ⟨Y, y1, y2, y3⟩ := rebS (Z := Z) (own := own) h2 h3 X' hS hg h4 h5
  refine ⟨H.1, B.U.vm, B.U.heap.size, B.locs, by rw [← r3, ← r4]; exact Y, rfl, y1, Nat.le_refl _, y2, y3, by rw [r2]; exact Fr.app h6 r1, h7.trans r5, fun x hx => ?_, ?_, rO⟩
  · rcases List.mem_append.mp hx with hx | hx
    · exact r6 x hx
    · exact ⟨Nat.lt_of_lt_of_le (h8 x hx).1 hg, r5.safe (h8 x hx).1 (h8 x hx).2⟩
  · rcases h9 with q | q
    · exact Or.inl q
    · exact r7.imp id (fun r => State.WarmedH.trans (t := s.setVm vm0) q r)
theorem G.callS (H : Hs p l e R s m args below meth c Z a0 EL cw own n0 bytes maxL ret nm T h C S sf) {y : MethodName} {yb : ByteArray} {ym : Nat} {yr : Option FieldType} {rm : Room} {as' : Array Value} {sfI : List Addr} {Q : Option Value → Heap → List Addr → Prop} (M : Met Z a0 EL cw n0 l y yb ym yr rm as' h sfI Q) {index : Nat} (w1 : (Cond.methodLink own index y).before a0 Z = true) (w2 : (Cond.static y).before a0 Z = true) (wz : (Cond.initialized y.cls).before a0 Z = true) (wc : (Cond.code y yb ym yr).before a0 Z = true) (hy : y.cls ≠ "java/lang/invoke/MethodHandle" ∧ y.cls ≠ "java/lang/invoke/VarHandle")
    {argsL rest st : List Value} {W : Nat} {pc pc' : Nat} {L : Array Slot} (hL : L.size = maxL) (has : argsL.toArray = as') (hlen : ∀ sig, parseMethodDescriptor y.desc = some sig → argsL.length = sig.parameters.length) (hst : st = argsL.reverse ++ rest) (hW : (rest.map fun v => v.category).sum = W) (hd : decode bytes pc = .ok (.invokestatic index, 3)) (hp : pc + 3 = pc') (hf : rm.frames + 1 ≤ R.frames) (hl : W + (ym + 11) + rm.locals ≤ R.locals) (hc : C + rm.cells ≤ R.cells) (hsl : S + rm.slots ≤ R.slots) (hsf : ∀ x ∈ sfI, x ∈ sf)
    (k : ∀ T' h' v so, Hs p l e R s m args below meth c Z a0 EL cw own n0 bytes maxL ret nm T' h' (C + rm.cells) (S + rm.slots) (so ++ sf) → Q v h' so → Go p e below P (T'.setTop (mkF m pc' L (v.toList ++ rest)))) : Go p e below P (T.setTop (mkF m pc L st)) := by
  subst hp; subst has
  obtain ⟨hM, vm0, k0, locs, X, h1, h2, h3, h4, h5, h6, h7, h8, h9, hO⟩ := id H
  obtain ⟨v, vm₁, B, hw, X', hS, hg, ⟨L', so, q1, rO, r1, r2, r3, r4, r5, r6, r7⟩, st'⟩ := RoadKit.callSS X H.exec h5 (mvT (s := s.setVm vm0) h4 w1) (mvT (s := s.setVm vm0) h4 w2) (mvT (s := s.setVm vm0) h4 wz) (mvT (s := s.setVm vm0) h4 wc) hy (M.backS (W := W) hM.2.1 h4 wc wz hf hl h7.1 (fun x hx => h8 x (hsf x hx))) (g := mkF m pc L st) rfl (by rw [hM.2.2.2.1]; exact hL) hlen hst (by show 2 * 0 + _ ≤ _; omega) (H.dec hd) (fun _ _ => ⟨rfl, h1, hc, hsl⟩)
  rw [h1] at hg
  exact Go.tr st' (k _ _ v so (H.behind (vm₁ := vm₁) h2 h3 h4 h5 h6 h7 h8 h9 X' hS hg r1 r2 r3 r4 r5 r6 r7 rO) q1)
theorem G.callI (H : Hs p l e R s m args below meth c Z a0 EL cw own n0 bytes maxL ret nm T h C S sf) {y : MethodName} {yb : ByteArray} {ym : Nat} {rm : Room} {as' : Array Value} {sfI : List Addr} {Q : Option Value → Heap → List Addr → Prop} (M : Met Z a0 EL cw n0 l y yb ym none rm as' h sfI Q) {index : Nat} (hy1 : y.name = "<init>") (w1 : (Cond.methodLink own index y).before a0 Z = true) (w2 : (Cond.instanceMethod y).before a0 Z = true) (wz : (Cond.initialized y.cls).before a0 Z = true) (wc : (Cond.code y yb ym none).before a0 Z = true) (hy : y.cls ≠ "java/lang/invoke/MethodHandle" ∧ y.cls ≠ "java/lang/invoke/VarHandle")
    {a : Addr} {argsL rest st : List Value} {W : Nat} {pc pc' : Nat} {L : Array Slot} (hL : L.size = maxL) (has : (Value.ref a :: argsL).toArray = as') (hlen : ∀ sig, parseMethodDescriptor y.desc = some sig → argsL.length = sig.parameters.length) (hst : st = argsL.reverse ++ .ref a :: rest) (hW : (rest.map fun v => v.category).sum = W) (hd : decode bytes pc = .ok (.invokespecial index, 3)) (hp : pc + 3 = pc') (hf : rm.frames + 1 ≤ R.frames) (hl : W + (ym + 11) + rm.locals ≤ R.locals) (hc : C + rm.cells ≤ R.cells) (hsl : S + rm.slots ≤ R.slots) (hsf : ∀ x ∈ sfI, x ∈ sf)
    (k : ∀ T' h' v so, Hs p l e R s m args below meth c Z a0 EL cw own n0 bytes maxL ret nm T' h' (C + rm.cells) (S + rm.slots) (so ++ sf) → Q v h' so → Go p e below P (T'.setTop (mkF m pc' L (v.toList ++ rest)))) : Go p e below P (T.setTop (mkF m pc L st)) := by
  subst hp; subst has
  obtain ⟨hM, vm0, k0, locs, X, h1, h2, h3, h4, h5, h6, h7, h8, h9, hO⟩ := id H
  obtain ⟨v, vm₁, B, hw, X', hS, hg, ⟨L', so, q1, rO, r1, r2, r3, r4, r5, r6, r7⟩, st'⟩ := X.specialBackS H.exec hy1 h5 (mvT (s := s.setVm vm0) h4 w1) (mvT (s := s.setVm vm0) h4 w2) (mvT (s := s.setVm vm0) h4 wc) hy (M.backS (W := W) hM.2.1 h4 wc wz hf hl h7.1 (fun x hx => h8 x (hsf x hx))) (g := mkF m pc L st) rfl (by rw [hM.2.2.2.1]; exact hL) (Steps.refl _) (a := a) hlen hst (by show 2 * 0 + _ ≤ _; omega) (H.dec hd) (fun _ _ => ⟨rfl, h1, hc, hsl⟩)
  rw [h1] at hg
  exact Go.tr st' (k _ _ v so (H.behind (vm₁ := vm₁) h2 h3 h4 h5 h6 h7 h8 h9 X' hS hg r1 r2 r3 r4 r5 r6 r7 rO) q1)
theorem G.callV (H : Hs p l e R s m args below meth c Z a0 EL cw own n0 bytes maxL ret nm T h C S sf) {y z : MethodName} {D : String} {yb : ByteArray} {ym : Nat} {yr : Option FieldType} {rm : Room} {as' : Array Value} {sfI : List Addr} {Q : Option Value → Heap → List Addr → Prop} (M : Met Z a0 EL cw n0 l z yb ym yr rm as' h sfI Q) {index : Nat} (w1 : (Cond.methodLink own index y).before a0 Z = true) (w2 : (Cond.declares y).before a0 Z = true) (wn : ∀ s' : State, Z.Warmed39 s'.vm → NotFace s' y) (w3 : (Cond.selects D y z).before a0 Z = true) (w4 : (Cond.instanceMethod z).before a0 Z = true) (wz : (Cond.initialized z.cls).before a0 Z = true) (wc : (Cond.code z yb ym yr).before a0 Z = true) (hy : y.cls ≠ "java/lang/invoke/MethodHandle" ∧ y.cls ≠ "java/lang/invoke/VarHandle")
    {a : Addr} (E : Exa Z h a D) {argsL rest st : List Value} {W : Nat} {pc pc' : Nat} {L : Array Slot} (hL : L.size = maxL) (has : (Value.ref a :: argsL).toArray = as') (hlen : ∀ sig, parseMethodDescriptor y.desc = some sig → argsL.length = sig.parameters.length) (hst : st = argsL.reverse ++ .ref a :: rest) (hW : (rest.map fun v => v.category).sum = W) (hd : decode bytes pc = .ok (.invokevirtual index, 3)) (hp : pc + 3 = pc') (hf : rm.frames + 1 ≤ R.frames) (hl : W + (ym + 11) + rm.locals ≤ R.locals) (hc : C + rm.cells ≤ R.cells) (hsl : S + rm.slots ≤ R.slots) (hsf : ∀ x ∈ sfI, x ∈ sf)
    (k : ∀ T' h' v so, Hs p l e R s m args below meth c Z a0 EL cw own n0 bytes maxL ret nm T' h' (C + rm.cells) (S + rm.slots) (so ++ sf) → Q v h' so → Go p e below P (T'.setTop (mkF m pc' L (v.toList ++ rest)))) : Go p e below P (T.setTop (mkF m pc L st)) := by
  subst hp; subst has
  obtain ⟨hM, vm0, k0, locs, X, h1, h2, h3, h4, h5, h6, h7, h8, h9, hO⟩ := id H
  obtain ⟨cq, kq, qa, qb, qc⟩ := isOf (s := s.setVm vm0) h4 h1 E
  obtain ⟨v, vm₁, B, hw, X', hS, hg, ⟨L', so, q1, rO, r1, r2, r3, r4, r5, r6, r7⟩, st'⟩ := X.virtualBackS H.exec h5 (mvT (s := s.setVm vm0) h4 w1) (mvT (s := s.setVm vm0) h4 w2) (wn (s.setVm vm0) h4) (mvT (s := s.setVm vm0) h4 w3) (mvT (s := s.setVm vm0) h4 w4) hy (M.backS (W := W) hM.2.1 h4 wc wz hf hl h7.1 (fun x hx => h8 x (hsf x hx))) qa qc (g := mkF m pc L st) rfl (by rw [hM.2.2.2.1]; exact hL) (Steps.refl _) hlen hst (by show 2 * 0 + _ ≤ _; omega) (H.dec hd) (fun _ _ => ⟨rfl, h1, hc, hsl⟩)
  rw [h1] at hg
  exact Go.tr st' (k _ _ v so (H.behind (vm₁ := vm₁) h2 h3 h4 h5 h6 h7 h8 h9 X' hS hg r1 r2 r3 r4 r5 r6 r7 rO) q1)
theorem nf_sel {y : MethodName} {D : String} (w : (Cond.selects D y y).before a0 Z = true) : ∀ s' : State, Z.Warmed39 s'.vm → NotFace s' y := fun s' hZ => notFace_of_selects (args := #[]) (mvT (s := s') hZ w)
theorem own_and255 (x : Int32) : ¬ (x &&& 255) < 0 ∧ ¬ (255 : Int32) < (x &&& 255) := by
  have h : (x &&& 255).toBitVec.toNat < 256 := by
    simp only [Int32.toBitVec_and, BitVec.toNat_and]
    exact Nat.lt_succ_of_le Nat.and_le_right
  have h2 : (x &&& 255).toInt = ((x &&& 255).toBitVec.toNat : Int) := by
    show (x &&& 255).toBitVec.toInt = _
    rw [BitVec.toInt_eq_toNat_of_lt (by omega)]
  rw [Int32.lt_iff_toInt_lt, Int32.lt_iff_toInt_lt, h2]
  have e0 : (0 : Int32).toInt = 0 := rfl
  have e1 : (255 : Int32).toInt = 255 := rfl
  omega
theorem own_u16 {x : Int32} (h : ¬ x < 0 ∧ ¬ (255 : Int32) < x) : ¬ x < 0 ∧ ¬ (65535 : Int32) < x := by
  obtain ⟨h0, h1⟩ := h
  rw [Int32.lt_iff_toInt_lt] at h0 h1
  refine ⟨by rw [Int32.lt_iff_toInt_lt]; exact h0, ?_⟩
  rw [Int32.lt_iff_toInt_lt]
  have e1 : (255 : Int32).toInt = 255 := rfl
  have e2 : (65535 : Int32).toInt = 65535 := rfl
  omega
theorem own_c16 {x : Int32} (h : ¬ x < 0 ∧ ¬ (65535 : Int32) < x) : x.toUInt32.toUInt16.toUInt32.toInt32 = x := by
  obtain ⟨h0, h1⟩ := h
  rw [Int32.lt_iff_toInt_lt] at h0 h1
  have e0 : (0 : Int32).toInt = 0 := rfl
  have e2 : (65535 : Int32).toInt = 65535 := rfl
  have hb : x.toBitVec.toNat < 65536 := by
    have q : x.toBitVec.toInt = x.toInt := rfl
    have r := BitVec.toInt_eq_toNat_cond x.toBitVec
    split at r <;> omega
  apply Int32.toBitVec_inj.mp
  apply BitVec.eq_of_toNat_eq
  have e : x.toUInt32.toUInt16.toUInt32.toInt32.toBitVec.toNat = x.toUInt32.toUInt16.toUInt32.toNat := rfl
  rw [e, UInt16.toNat_toUInt32, UInt32.toNat_toUInt16]
  show x.toBitVec.toNat % 2 ^ 16 = _
  omega
theorem own_narC {x : Int32} (h : ¬ x < 0 ∧ ¬ (65535 : Int32) < x) : nar .char x = x := own_c16 h
theorem own_rem {x : Int32} {k : Int32} (hk : 0 < k.toInt) : 0 ≤ ((x &&& 2147483647) % k).toInt ∧ ((x &&& 2147483647) % k).toInt < k.toInt := by
  have h : (x &&& 2147483647).toBitVec.toNat < 2 ^ 31 := by
    simp only [Int32.toBitVec_and, BitVec.toNat_and]
    exact Nat.lt_of_le_of_lt Nat.and_le_right (by decide)
  have h2 : (x &&& 2147483647).toInt = ((x &&& 2147483647).toBitVec.toNat : Int) := by
    show (x &&& 2147483647).toBitVec.toInt = _
    rw [BitVec.toInt_eq_toNat_of_lt (by omega)]
  rw [Int32.toInt_mod, h2]
  exact ⟨Int.tmod_nonneg _ (by omega), Int.tmod_lt_of_pos _ hk⟩
theorem own_narB (x : Int32) : nar .byte x.toInt8.toInt32 = x.toInt8.toInt32 := by
  show x.toInt8.toInt32.toInt8.toInt32 = _
  simp
theorem lcs {a b : Int32} {l m : List Int32} (h : a = b) (t : l = m) : a :: l = b :: m := by rw [h, t]
theorem mG {α : Type} {L : List α} {a : α} {i : Nat} (q : L[i]? = some a) : a ∈ L := List.mem_of_getElem? q
theorem lB {n m : Nat} (q : Nat.ble n m = true := by rfl) : n ≤ m := Nat.le_of_ble_eq_true q
theorem cb0 : ∀ c ∈ ([] : List Int32), ¬ c < 0 ∧ ¬ (255 : Int32) < c := fun _ q => nomatch q
theorem cbS {x : Int32} {xs : List Int32} (q : ¬ x < 0 ∧ ¬ (255 : Int32) < x) (r : ∀ c ∈ xs, ¬ c < 0 ∧ ¬ (255 : Int32) < c) : ∀ c ∈ x :: xs, ¬ c < 0 ∧ ¬ (255 : Int32) < c := fun c hc => by
  rcases List.mem_cons.mp hc with rfl | hc
  · exact q
  · exact r c hc
/-- a Latin-1 String and its bytes -/
def Str (Z : State) (h : Heap) (a t : Addr) (kb : ClassId) (cs : List Int32) : Prop :=
  Exa Z h a "java/lang/String" ∧ Fld Z h a "java/lang/String" "coder" "B" (.int 0) ∧ Fld Z h a "java/lang/String" "value" "[B" (.ref t) ∧ Arv Z h t kb .byte (Int32.ofNat cs.length) (cs.map fun c => Value.int c.toInt8.toInt32) (.int 0) ∧ (∀ c ∈ cs, ¬ c < 0 ∧ ¬ (255 : Int32) < c) ∧ cs.length ≤ 4000
theorem Str.ext {h' : Heap} {a t : Addr} {kb : ClassId} {cs : List Int32} (E : Ext h h') (F : Str Z h a t kb cs) : Str Z h' a t kb cs := ⟨F.1.ext E, F.2.1.ext E, F.2.2.1.ext E, F.2.2.2.1.ext E, F.2.2.2.2⟩
theorem Str.keep {h' : Heap} {a t : Addr} {kb : ClassId} {cs : List Int32} {ws : List Addr} (F : Str Z h a t kb cs) (K : Keep h h' ws) (q : a ∉ ws) (r : t ∉ ws) : Str Z h' a t kb cs := ⟨F.1.keep K, F.2.1.keep K q, F.2.2.1.keep K q, F.2.2.2.1.keep K r, F.2.2.2.2⟩
theorem Str.other {h' : Heap} {a t w : Addr} {sl : Nat} {v : Value} {kb : ClassId} {cs : List Int32} (W : Wr h h' w sl v) (F : Str Z h a t kb cs) (q : a ≠ w) (r : t ≠ w) : Str Z h' a t kb cs := ⟨F.1.wr W, F.2.1.other W (Or.inl q), F.2.2.1.other W (Or.inl q), F.2.2.2.1.other W r, F.2.2.2.2⟩
theorem own_fldeq {args : Array Value} {t : Term} {K n d : String} {i : Int32} {x : Addr} (ev : t.eval args Z none [] Z = some (.ref x)) (hq : (Cond.eq (Term.field t K n d) (Term.int i)).value args Z none Z [] = some true) : Fld Z Z.heap x K n d (.int i) := by
  obtain ⟨u, w, hu, hw, k1, k2⟩ := cmp_v (Or.inl hq)
  have e1 : (Term.int i).eval args Z none [] Z = some (.int i) := Term.int_eval i
  cases e1.symm.trans hw
  obtain ⟨z, rfl⟩ := k2
  have e2 : z = i := gotT (Cond.eq_ints hu e1) hq
  subst e2
  exact Fld.start ((fld_at ev).symm.trans hu)
theorem G.pureV (H : Hs p l e R s m args below meth c Z a0 EL cw own n0 bytes maxL ret nm T h C S sf) {y : MethodName} {D : String} {Qv : Option Value → Prop} {as' : Array Value} {W : Nat} (hB : ∀ s' : State, Z.Warmed39 s'.vm → Back l R p e below s' args y 3 W (fun P a => a = as' ∧ P.U.heap = h ∧ P.cells + 0 ≤ R.cells ∧ P.slots + 0 ≤ R.slots) (fun P _ v B => ∃ L, (Qv v ∧ L = [] ∧ B.U.heap = h) ∧ B.locs = P.locs ++ L ∧ B.cells = P.cells + 0 ∧ B.slots = P.slots + 0))
    {index : Nat} (w1 : (Cond.methodLink own index y).before a0 Z = true) (w2 : (Cond.declares y).before a0 Z = true) (w3 : (Cond.selects D y y).before a0 Z = true) (w4 : (Cond.instanceMethod y).before a0 Z = true) (hy : y.cls ≠ "java/lang/invoke/MethodHandle" ∧ y.cls ≠ "java/lang/invoke/VarHandle")
    {a : Addr} (E : Exa Z h a D) {argsL rest st : List Value} {pc pc' : Nat} {L : Array Slot} (hL : L.size = maxL) (has : (Value.ref a :: argsL).toArray = as') (hlen : ∀ sig, parseMethodDescriptor y.desc = some sig → argsL.length = sig.parameters.length) (hst : st = argsL.reverse ++ .ref a :: rest) (hW : (rest.map fun v => v.category).sum = W) (hd : decode bytes pc = .ok (.invokevirtual index, 3)) (hp : pc + 3 = pc') (hc : C ≤ R.cells) (hsl : S ≤ R.slots)
    (k : ∀ T' v, Hs p l e R s m args below meth c Z a0 EL cw own n0 bytes maxL ret nm T' h C S sf → Qv v → Go p e below P (T'.setTop (mkF m pc' L (v.toList ++ rest)))) : Go p e below P (T.setTop (mkF m pc L st)) := by
  subst hp; subst has
  obtain ⟨hM, vm0, k0, locs, X, h1, h2, h3, h4, h5, h6, h7, h8, h9, hO⟩ := id H
  obtain ⟨cq, kq, qa, qb, qc⟩ := isOf (s := s.setVm vm0) h4 h1 E
  obtain ⟨v, vm₁, B, hw, X', ⟨L', ⟨q1, q2, q3⟩, r2, r3, r4⟩, st'⟩ := X.virtualBack H.exec h5 (mvT (s := s.setVm vm0) h4 w1) (mvT (s := s.setVm vm0) h4 w2) (notFace_of_selects (args := #[]) (mvT (s := s.setVm vm0) h4 w3)) (mvT (s := s.setVm vm0) h4 w3) (mvT (s := s.setVm vm0) h4 w4) hy (hB (s.setVm vm0) h4) qa qc (g := mkF m pc L st) rfl (by rw [hM.2.2.2.1]; exact hL) (Steps.refl _) hlen hst (by show 2 * 0 + _ ≤ _; omega) (H.dec hd) (fun _ _ => ⟨rfl, h1, hc, hsl⟩)
  subst q2
  refine Go.tr st' (k B.U v ⟨hM, vm0, k0, locs, ?_, q3, h2, h3, h4, h5, h6, h7, h8, h9, hO⟩ q1)
  have e1 : B.locs = locs := by rw [r2]; exact List.append_nil _
  have e2 : B.cells = C := r3
  have e3 : B.slots = S := r4
  rw [← e1, ← e2, ← e3]; exact X'
theorem G.clone (H : Hs p l e R s m args below meth c Z a0 EL cw own n0 bytes maxL ret nm T h C S sf) {ad : String} {index : Nat} (w1 : (Cond.methodLink own index ⟨ad, "clone", "()Ljava/lang/Object;"⟩).before a0 Z = true) (w2 : (Cond.sameMethod ad "java/lang/Object" "clone" "()Ljava/lang/Object;").before a0 Z = true) (w3 : (Cond.native ⟨"java/lang/Object", "clone", "()Ljava/lang/Object;"⟩).before a0 Z = true) (w4 : (Cond.instanceMethod ⟨"java/lang/Object", "clone", "()Ljava/lang/Object;"⟩).before a0 Z = true) (w5 : (Cond.selects ad ⟨ad, "clone", "()Ljava/lang/Object;"⟩ ⟨"java/lang/Object", "clone", "()Ljava/lang/Object;"⟩).before a0 Z = true) (w6 : (Cond.castable ad "java/lang/Cloneable").before a0 Z = true)
    {a : Addr} {kc : ClassId} {ty : FieldType} {z : Int32} {vs : List Value} {dv : Value} (A : Arv Z h a kc ty z vs dv) (E : Exa Z h a ad) {st : List Value} {W cap : Nat} {pc pc' : Nat} {L : Array Slot} (hL : L.size = maxL) (hW : (st.map fun v => v.category).sum = W) (hd : decode bytes pc = .ok (.invokevirtual index, 3)) (hp : pc + 3 = pc') (hf : 1 ≤ R.frames) (hl : W + 14 ≤ R.locals) (hcap : z.toNatClampNeg ≤ cap) (hc : C + 1 ≤ R.cells) (hsl : S + cap ≤ R.slots)
    (k : ∀ T' h' b, b = h.size → Hs p l e R s m args below meth c Z a0 EL cw own n0 bytes maxL ret nm T' h' (C + 1) (S + cap) (b :: sf) → Ext h h' → Arv Z h' b kc ty z vs dv → Exa Z h' b ad → Go p e below P (T'.setTop (mkF m pc' L (.ref b :: st)))) : Go p e below P (T.setTop (mkF m pc L (.ref a :: st))) := by
  subst hp
  obtain ⟨hM, vm0, k0, locs, X, h1, h2, h3, h4, h5, h6, h7, h8, h9, hO⟩ := id H
  obtain ⟨T', h', X', e', Ex, A', E', st'⟩ := RoadKit.cloneH X H.exec h4 h5 w1 w2 w3 w4 w5 w6 h1 A.arh E (g := mkF m pc L (.ref a :: st)) rfl (by rw [hM.2.2.2.1]; exact hL) rfl (H.dec hd) hf (W := W) (by show 2 * 0 + _ ≤ _; omega) hl hcap hc hsl
  exact Go.st st' (k T' h' _ rfl (H.ext X' e' Ex h2 h3 h4 h5 h6 h7 h8 h9 hO E'.lt) Ex A' E')
theorem G.instN (H : Hs p l e R s m args below meth c Z a0 EL cw own n0 bytes maxL ret nm T h C S sf) {index : Nat} {pc pc' : Nat} {L : Array Slot} {st : List Value} (hd : decode bytes pc = .ok (.instanceof index, 3)) (hp : pc + 3 = pc') (k : Go p e below P (T.setTop (mkF m pc' L (.int 0 :: st)))) : Go p e below P (T.setTop (mkF m pc L (.null :: st))) := by
  subst hp
  obtain ⟨hM, vm0, k0, locs, X, -⟩ := id H
  exact Go.st (X.instanceofNull H.exec (g := mkF m pc L (.null :: st)) rfl rfl (H.dec hd)) k
theorem Met.back {y : MethodName} {rm : Room} {as' : Array Value} {sfI : List Addr} {Q : Option Value → Heap → List Addr → Prop} {vm0 : Vm} {len W : Nat} (M : Met Z a0 EL False n0 l y bytes maxL ret rm as' h sfI Q) (hEL : EW Z a0 EL) (hZ : Z.Warmed39 vm0) (wc : (Cond.code y bytes maxL ret).before a0 Z = true) (wz : (Cond.initialized y.cls).before a0 Z = true) (hf : rm.frames + 1 ≤ R.frames) (hl : W + (maxL + 11) + rm.locals ≤ R.locals) (H : CHv Z EL vm0 h) (hs : ∀ x ∈ sfI, x < h.size ∧ Safe Z EL vm0 h x) :
    Back l R p e below (s.setVm vm0) args y len W (fun A a => a = as' ∧ A.U.heap = h ∧ A.cells + rm.cells ≤ R.cells ∧ A.slots + rm.slots ≤ R.slots)
      (fun A _ v B => ∃ L so, Q v B.U.heap so ∧ Old Z n0 B.U.heap ∧ Fr n0 L ∧ B.locs = A.locs ++ L ∧ B.cells = A.cells + rm.cells ∧ B.slots = A.slots + rm.slots ∧ CHr Z EL vm0 h B.U.vm B.U.heap ∧ (∀ x ∈ so, x < B.U.heap.size ∧ Safe Z EL B.U.vm B.U.heap x)) :=
  Back.of_free (bytes := bytes) (maxL := maxL) (ret := ret)
    (E := fun _ first o t L k n => k = rm.cells ∧ n = rm.slots ∧ ∃ v so, o = .returned v ∧ Q v t.heap so ∧ Old Z n0 t.heap ∧ Fr n0 L ∧ CHr Z EL first.vm first.heap t.vm t.heap ∧ (∀ x ∈ so, x < t.heap.size ∧ Safe Z EL t.vm t.heap x))
    (M []) hf hl
    (fun m meth c A a Y hp => have hU : Z.Warmed39 A.U.vm := wtrans (s := s.setVm vm0) hZ Y.warmed
      ⟨by show (Cond.and _ .tt).before a A.U = true; rw [Cond.before_and, mv hU wc]; rfl, mv hU wc, mv hU wz, hp.2.2.1, hp.2.2.2⟩)
    (fun m meth c A a g mk Y hp => by
      have A1 := CHv.at Y hZ hEL H
      exact ⟨hp.1, wtrans (s := s.setVm vm0) hZ Y.warmed, hp.2.1, A1.1, fun x hx => ⟨(hs x hx).1, A1.safe (hs x hx).1 (hs x hx).2⟩⟩)
    (fun _ _ _ _ _ _ _ _ _ => trivial)
    (fun _ _ _ _ ⟨v, L, so, h1, h2, hO, h3, h4, h5, h6, h7⟩ => ⟨L, _, _, h7.resolve_left (fun q => q), rfl, rfl, v, so, h1, h2, hO, h3, h4, h5⟩)
    (fun m meth c A a g mk v t L k n Y hp _ _ ⟨e1, e2, v', so, e3, e4, eO, e5, e6, e7⟩ => by
      cases e3; subst e1 e2
      refine ⟨L, so, e4, eO, e5, rfl, rfl, rfl, (CHv.at Y hZ hEL H).trans ?_, e7⟩
      rw [← hp.2.1]; exact e6)
theorem own_evI {args : Array Value} {a : Term} {i : Int32} (hq : (Cond.eq a (Term.int i)).value args Z none Z [] = some true) : a.eval args Z none [] Z = some (.int i) := by
  obtain ⟨u, w, hu, hw, k1, k2⟩ := cmp_v (Or.inl hq)
  have e1 : (Term.int i).eval args Z none [] Z = some (.int i) := Term.int_eval i
  cases e1.symm.trans hw
  obtain ⟨z, rfl⟩ := k2
  have e2 : z = i := gotT (Cond.eq_ints hu e1) hq
  subst e2; exact hu
theorem own_evR {args : Array Value} {a b : Term} {y : Addr} (hb : b.eval args Z none [] Z = some (.ref y)) (hq : (Cond.eq a b).value args Z none Z [] = some true) : a.eval args Z none [] Z = some (.ref y) := by
  obtain ⟨u, w, hu, hw, k1, k2⟩ := cmp_v (Or.inl hq)
  cases hb.symm.trans hw
  have e2 : u = .ref y := gotT (eq_R hu hb k2.2 rfl) hq
  subst e2; exact hu
theorem own_len {args : Array Value} {t : Term} {ty : FieldType} {x : Addr} {n : Int32} {cl : Cell} (ev : t.eval args Z none [] Z = some (.ref x)) (A : Arr Z Z.heap x cl ty) (hl : (Cond.eq (Term.length t) (Term.int n)).value args Z none Z [] = some true) : cl.slots.size < 2 ^ 31 ∧ cl.slots.size.toInt32 = n := by
  have e := own_evI hl
  have ha : Z.arrayAt? x = some cl := Arr.fin (U := Z) (Vm.Alike.refl _) A
  by_cases hs : cl.slots.size < 2 ^ 31
  · have q := (len_f ev ha hs).symm.trans e
    exact ⟨hs, by injection q with q; injection q⟩
  · simp [Term.eval, ev, ha, hs] at e
theorem own_el {args : Array Value} {t : Term} {ty : FieldType} {x : Addr} {cl : Cell} {j : Int32} {v : Value} {i : Nat} (ev : t.eval args Z none [] Z = some (.ref x)) (A : Arr Z Z.heap x cl ty) (he : (Term.elem t (Term.int j)).eval args Z none [] Z = some v) (hi : j.toNatClampNeg = i) : cl.slots[i]? = some v := by
  subst hi; exact (elem_in he ev (Term.int_eval j) A.1).2
end Kit
end Jvm.OwnKit
/- laws to paste: Road.backV, Road.eqW (cut by pick.py; bodies as the Statement names them) -/
namespace Jvm.Pilot.@@N@@
namespace StrChars
open Jvm Sem ClassFile Op Lib Jvm.Stand Jvm.Free.XT Jvm.Free.ALB Jvm.Free.JM Jvm.Free
open Jvm.Lib.Cold (StaticIs)
/-- a char array whose places are chars -/
def Ch (a : Addr) (A : Cell) (U : State) : Prop := Arr .char a A U ∧ Typed .char A
theorem Ch.mv {a : Addr} {A : Cell} {U U' : State} (h : Ch a A U) (hal : U.vm.Alike U'.vm) (hh : U'.heap = U.heap) : Ch a A U' := ⟨h.1.mv hal hh, h.2⟩
theorem Ch.keep {a : Addr} {A : Cell} {U U' : State} (h : Ch a A U) (hal : U.vm.Alike U'.vm) (hk : U'.heap[a]? = some A) : Ch a A U' := ⟨h.1.keep hal hk, h.2⟩
/-- what place i of a char[]'s cell holds -/
def cv (A : Cell) (i : Nat) : Int32 := match A.slots[i]? with | some (.int x) => x | _ => 0
theorem Ch.get {a : Addr} {A : Cell} {U : State} (h : Ch a A U) {i : Nat} (hi : i < A.slots.size) : A.slots[i]? = some (.int (cv A i)) := by
  have e := Array.getElem?_eq_getElem hi
  have f := h.2 i _ e
  unfold cv; rw [e]
  generalize A.slots[i] = v at f
  cases v <;> simp [fits] at f ⊢
/-- the byte that i2b leaves of a char -/
def lo8 (x : Int32) : Int32 := x.toInt8.toInt32
theorem fits_lo8 (y : Int32) : fits .byte (.int (lo8 y)) = true := by
  have h1 := y.toInt8.le_toInt
  have h2 := y.toInt8.toInt_lt
  simp only [lo8, fits, Bool.and_eq_true, decide_eq_true_eq, Int32.le_iff_toInt_le, Int8.toInt_toInt32, show (-128 : Int32).toInt = -128 from by decide, show (127 : Int32).toInt = 127 from by decide]
  omega
/-- A' is A but that each place j of lo .. hi - 1 holds f j -/
def Laid (A A' : Cell) (lo hi : Nat) (f : Nat → Value) : Prop := A'.cls = A.cls ∧ A'.vm = A.vm ∧ A'.slots.size = A.slots.size ∧ ∀ i, A'.slots[i]? = if lo ≤ i ∧ i < hi then some (f i) else A.slots[i]?
theorem Laid.zero (A : Cell) (lo : Nat) (f : Nat → Value) : Laid A A lo (lo + 0) f := ⟨rfl, rfl, rfl, fun i => by rw [if_neg (by omega)]⟩
theorem Laid.step {A Ak : Cell} {lo k : Nat} {f : Nat → Value} {v : Value} (h : Laid A Ak lo k f) (hlo : lo ≤ k) (hk : k < Ak.slots.size) (hv : v = f k) : Laid A (Ak.setSlot k v) lo (k + 1) f := by
  refine ⟨h.1, h.2.1, by simpa [Cell.setSlot] using h.2.2.1, fun i => ?_⟩
  by_cases e : k = i
  · subst e; rw [Cell.slots_setSlot_self v hk, if_pos (by omega), hv]
  · rw [Cell.slots_setSlot_ne v e, h.2.2.2 i]
    by_cases q : lo ≤ i ∧ i < k
    · rw [if_pos q, if_pos (by omega)]
    · rw [if_neg q, if_neg (by omega)]
def U16 : String := "java/lang/StringUTF16"
namespace Cmp5
def yN : MethodName := ⟨"java/lang/StringUTF16", "compress", "([CI[BII)I"⟩
abbrev yB : ByteArray := jdk_52_method_21_code
theorem d0 : decode yB 0 = .ok (.iconst 0, 1) := by decide +kernel
theorem d1 : decode yB 1 = .ok (.istore 5, 2) := by decide +kernel
theorem d3 : decode yB 3 = .ok (.iload 5, 2) := by decide +kernel
theorem d5 : decode yB 5 = .ok (.iload 4, 2) := by decide +kernel
theorem d7 : decode yB 7 = .ok (.if_icmp (.ge) 37, 3) := by decide +kernel
theorem d10 : decode yB 10 = .ok (.aload_n 0, 1) := by decide +kernel
theorem d11 : decode yB 11 = .ok (.iload_n 1, 1) := by decide +kernel
theorem d12 : decode yB 12 = .ok (.caload, 1) := by decide +kernel
theorem d13 : decode yB 13 = .ok (.istore 6, 2) := by decide +kernel
theorem d15 : decode yB 15 = .ok (.iload 6, 2) := by decide +kernel
theorem d17 : decode yB 17 = .ok (.sipush 255, 3) := by decide +kernel
theorem d20 : decode yB 20 = .ok (.if_icmp (.le) 6, 3) := by decide +kernel
theorem d26 : decode yB 26 = .ok (.aload_n 2, 1) := by decide +kernel
theorem d27 : decode yB 27 = .ok (.iload_n 3, 1) := by decide +kernel
theorem d28 : decode yB 28 = .ok (.iload 6, 2) := by decide +kernel
theorem d30 : decode yB 30 = .ok (.i2b, 1) := by decide +kernel
theorem d31 : decode yB 31 = .ok (.bastore, 1) := by decide +kernel
theorem d32 : decode yB 32 = .ok (.iinc 1 1, 3) := by decide +kernel
theorem d35 : decode yB 35 = .ok (.iinc 3 1, 3) := by decide +kernel
theorem d38 : decode yB 38 = .ok (.iinc 5 1, 3) := by decide +kernel
theorem d41 : decode yB 41 = .ok (.goto (-38), 3) := by decide +kernel
theorem d44 : decode yB 44 = .ok (.iload 4, 2) := by decide +kernel
theorem d46 : decode yB 46 = .ok (.ireturn, 1) := by decide +kernel
def site : List Cond := []
def tab : Cond := tabOf yN yB 7 (some .int) site
def P (b : Addr) (A : Cell) (d : Addr) (B : Cell) (o q len : Nat) (args : Array Value) (s : State) : Prop := args = #[.ref b, .int (Int32.ofNat o), .ref d, .int (Int32.ofNat q), .int (Int32.ofNat len)] ∧ Ch b A s ∧ Arr .byte d B s ∧ b ≠ d ∧ o + len ≤ A.slots.size ∧ q + len ≤ B.slots.size ∧ ∀ i, i < len → ¬ 255 < cv A (o + i)
def E (b : Addr) (A : Cell) (d : Addr) (B : Cell) (o q len : Nat) (r : Option Value) (s u : State) : Prop := r = some (.int (Int32.ofNat len)) ∧ ∃ B', Put d B' s u ∧ Laid B B' q (q + len) (fun j => Value.int (lo8 (cv A (o + (j - q)))))
/-- no char of the range above 255: len; the places written hold each char's low byte -/
theorem law (l : Launch) (b : Addr) (A : Cell) (d : Addr) (B : Cell) (o q len : Nat) : Law l yN 5 5 0 0 yB 7 (some .int) site (P b A d B o q len) (E b A d B o q len) (copyLocs d q len) 0 0 := by
  refine Law.of_walk (plainFor_of_name (by decide +kernel)) (by decide +kernel) (by decide +kernel) (by decide) (fun _ _ h => by rw [h.1]; rfl) (fun _ U U' hal hh h => ⟨h.1, h.2.1.mv hal hh, h.2.2.1.mv hal hh, h.2.2.2⟩) (fun r U U' V V' h1 hal h2 h => ⟨h.1, h.2.elim fun B' q => ⟨B', q.1.mv h1 h2, q.2⟩⟩) ?_
  intro p e s m args below meth c s₁ X0 hexec hbytes hml hret hlk hnm hown hh0 W hP
  obtain ⟨rfl, hA, hB, hne, l1, l2, hp⟩ := hP
  have c1 : Steps p.tables e below (s₁.setTop (entryFrame m #[.ref b, .int (Int32.ofNat o), .ref d, .int (Int32.ofNat q), .int (Int32.ofNat len)] 7)) (s₁.setTop (mkF m 0 #[.val (.ref b), .val (.int (Int32.ofNat o)), .val (.ref d), .val (.int (Int32.ofNat q)), .val (.int (Int32.ofNat len)), .unset, .unset] [])) := entry rfl
  have hA0 := hA.1.mv X0.warmed.alike hh0
  have hB0 := hB.mv X0.warmed.alike hh0
  have a31 := hA.1.2.2.2
  have c2 : Steps p.tables e below (s₁.setTop (entryFrame m #[.ref b, .int (Int32.ofNat o), .ref d, .int (Int32.ofNat q), .int (Int32.ofNat len)] 7)) (s₁.setTop (mkF m 3 #[.val (.ref b), .val (.int (Int32.ofNat o)), .val (.ref d), .val (.int (Int32.ofNat q)), .val (.int (Int32.ofNat len)), .val (.int 0), .unset] [])) := c1.trans (by
    refine iconstV X0.here hexec rfl 0 (hb hbytes d0) (by decide) ?_
    refine XS.istore X0.here hexec rfl (hb hbytes d1) rfl rfl ?_
    exact Steps.refl _)
  have loop : ∀ (r i : Nat), i + r = len → ∀ (z : Slot), (z = .unset ∨ ∃ w, z = .val w ∧ w.category = 1) → ∀ (Tl : State) (Bk : Cell), Stand p l e { frames := 0, locals := 0, cells := 0, slots := 0 } s m #[.ref b, .int (Int32.ofNat o), .ref d, .int (Int32.ofNat q), .int (Int32.ofNat len)] below meth c Tl ([] ++ copyLocs d q i) 0 0 → Put d Bk s₁ Tl → Laid B Bk q (q + i) (fun j => Value.int (lo8 (cv A (o + (j - q))))) →
      Steps p.tables e below (s₁.setTop (entryFrame m #[.ref b, .int (Int32.ofNat o), .ref d, .int (Int32.ofNat q), .int (Int32.ofNat len)] 7)) (Tl.setTop (mkF m 3 #[.val (.ref b), .val (.int (Int32.ofNat (o + i))), .val (.ref d), .val (.int (Int32.ofNat (q + i))), .val (.int (Int32.ofNat len)), .val (.int (Int32.ofNat i)), z] [])) → ∃ (T' : State) (B' : Cell) (z' : Slot), Stand p l e { frames := 0, locals := 0, cells := 0, slots := 0 } s m #[.ref b, .int (Int32.ofNat o), .ref d, .int (Int32.ofNat q), .int (Int32.ofNat len)] below meth c T' ([] ++ copyLocs d q len) 0 0 ∧ Put d B' s₁ T' ∧ Laid B B' q (q + len) (fun j => Value.int (lo8 (cv A (o + (j - q))))) ∧
      Steps p.tables e below (s₁.setTop (entryFrame m #[.ref b, .int (Int32.ofNat o), .ref d, .int (Int32.ofNat q), .int (Int32.ofNat len)] 7)) (T'.setTop (mkF m 3 #[.val (.ref b), .val (.int (Int32.ofNat (o + len))), .val (.ref d), .val (.int (Int32.ofNat (q + len))), .val (.int (Int32.ofNat len)), .val (.int (Int32.ofNat len)), z'] [])) := by
    intro r
    induction r with
    | zero =>
      intro i hi z hz Tl Bk Xl pl fl cl
      have hil : i = len := by omega
      rw [hil] at Xl fl cl
      exact ⟨Tl, Bk, z, Xl, pl, fl, cl⟩
    | succ r ih =>
      intro i hi z hz Tl Bk Xl pl fl cl
      have all := X0.warmed.alike.symm.trans Xl.warmed.alike
      have hAl := hA0.keep all (pl.other hne hA0.1)
      have hBk := hB0.like all pl.1 fl.1 fl.2.1 fl.2.2.1
      have hlt : q + i < Bk.slots.size := by rw [fl.2.2.1]; omega
      have c3 : Steps p.tables e below (s₁.setTop (entryFrame m #[.ref b, .int (Int32.ofNat o), .ref d, .int (Int32.ofNat q), .int (Int32.ofNat len)] 7)) (Tl.setTop (mkF m 12 #[.val (.ref b), .val (.int (Int32.ofNat (o + i))), .val (.ref d), .val (.int (Int32.ofNat (q + i))), .val (.int (Int32.ofNat len)), .val (.int (Int32.ofNat i)), z] [.int (Int32.ofNat (o + i)), .ref b])) := cl.trans (by
        refine XS.iload Xl.here hexec rfl (hb hbytes d3) rfl ?_
        refine XS.iload Xl.here hexec rfl (hb hbytes d5) rfl ?_
        refine XS.icmpNo Xl.here hexec rfl (hb hbytes d7) rfl (ii_ge_f (lt32 (by omega) (by omega))) ?_
        refine XS.aloadN Xl.here hexec rfl (hb hbytes d10) rfl rfl ?_
        refine XS.iloadN Xl.here hexec rfl (hb hbytes d11) rfl ?_
        exact Steps.refl _)
      have c4 : Steps p.tables e below (s₁.setTop (entryFrame m #[.ref b, .int (Int32.ofNat o), .ref d, .int (Int32.ofNat q), .int (Int32.ofNat len)] 7)) (Tl.setTop (mkF m 13 #[.val (.ref b), .val (.int (Int32.ofNat (o + i))), .val (.ref d), .val (.int (Int32.ofNat (q + i))), .val (.int (Int32.ofNat len)), .val (.int (Int32.ofNat i)), z] [.int (cv A (o + i))])) := c3.trans (by
        refine Xl.aget hexec hAl rfl (hA.get (i := o + i) (by omega)) rfl rfl (hb hbytes d12) ?_
        exact Steps.refl _)
      have c5 : Steps p.tables e below (s₁.setTop (entryFrame m #[.ref b, .int (Int32.ofNat o), .ref d, .int (Int32.ofNat q), .int (Int32.ofNat len)] 7)) (Tl.setTop (mkF m 15 #[.val (.ref b), .val (.int (Int32.ofNat (o + i))), .val (.ref d), .val (.int (Int32.ofNat (q + i))), .val (.int (Int32.ofNat len)), .val (.int (Int32.ofNat i)), .val (.int (cv A (o + i)))] [])) := c4.trans (by
        refine XS.istoreS Xl.here hexec rfl (hb hbytes d13) rfl rfl hz ?_
        exact Steps.refl _)
      have c6 : Steps p.tables e below (s₁.setTop (entryFrame m #[.ref b, .int (Int32.ofNat o), .ref d, .int (Int32.ofNat q), .int (Int32.ofNat len)] 7)) (Tl.setTop (mkF m 31 #[.val (.ref b), .val (.int (Int32.ofNat (o + i))), .val (.ref d), .val (.int (Int32.ofNat (q + i))), .val (.int (Int32.ofNat len)), .val (.int (Int32.ofNat i)), .val (.int (cv A (o + i)))] [.int (lo8 (cv A (o + i))), .int (Int32.ofNat (q + i)), .ref d])) := c5.trans (by
        refine XS.iload Xl.here hexec rfl (hb hbytes d15) rfl ?_
        refine sipushV Xl.here hexec rfl 255 (hb hbytes d17) (by decide) ?_
        refine XS.icmpYes Xl.here hexec rfl (pc0 := 20) rfl (hb hbytes d20) rfl (ii_le_t (hp i (by omega))) (by decide) rfl ?_
        refine XS.aloadN Xl.here hexec rfl (hb hbytes d26) rfl rfl ?_
        refine XS.iloadN Xl.here hexec rfl (hb hbytes d27) rfl ?_
        refine XS.iload Xl.here hexec rfl (hb hbytes d28) rfl ?_
        refine i2b Xl.here hexec rfl (hb hbytes d30) rfl ?_
        exact Steps.refl _)
      obtain ⟨T7, X7, p7, st7⟩ := Xl.aput hexec hBk rfl hlt rfl (fits_lo8 (cv A (o + i))) (g := (mkF m 31 #[.val (.ref b), .val (.int (Int32.ofNat (o + i))), .val (.ref d), .val (.int (Int32.ofNat (q + i))), .val (.int (Int32.ofNat len)), .val (.int (Int32.ofNat i)), .val (.int (cv A (o + i)))] [.int (lo8 (cv A (o + i))), .int (Int32.ofNat (q + i)), .ref d])) rfl (rest := []) rfl (hb hbytes d31)
      have c8 : Steps p.tables e below (s₁.setTop (entryFrame m #[.ref b, .int (Int32.ofNat o), .ref d, .int (Int32.ofNat q), .int (Int32.ofNat len)] 7)) (T7.setTop (mkF m 32 #[.val (.ref b), .val (.int (Int32.ofNat (o + i))), .val (.ref d), .val (.int (Int32.ofNat (q + i))), .val (.int (Int32.ofNat len)), .val (.int (Int32.ofNat i)), .val (.int (cv A (o + i)))] [])) := c6.trans (st7 _ (Steps.refl _))
      have c9 : Steps p.tables e below (s₁.setTop (entryFrame m #[.ref b, .int (Int32.ofNat o), .ref d, .int (Int32.ofNat q), .int (Int32.ofNat len)] 7)) (T7.setTop (mkF m 3 #[.val (.ref b), .val (.int (Int32.ofNat (o + i) + 1)), .val (.ref d), .val (.int (Int32.ofNat (q + i) + 1)), .val (.int (Int32.ofNat len)), .val (.int (Int32.ofNat i + 1)), .val (.int (cv A (o + i)))] [])) := c8.trans (by
        refine iincV X7.here hexec rfl 1 (hb hbytes d32) (by decide) rfl rfl ?_
        refine iincV X7.here hexec rfl 1 (hb hbytes d35) (by decide) rfl rfl ?_
        refine iincV X7.here hexec rfl 1 (hb hbytes d38) (by decide) rfl rfl ?_
        refine XS.goto X7.here hexec rfl (pc0 := 41) rfl (hb hbytes d41) (by decide) rfl ?_
        exact Steps.refl _)
      have c10 : Steps p.tables e below (s₁.setTop (entryFrame m #[.ref b, .int (Int32.ofNat o), .ref d, .int (Int32.ofNat q), .int (Int32.ofNat len)] 7)) (T7.setTop (mkF m 3 #[.val (.ref b), .val (.int (Int32.ofNat (o + (i + 1)))), .val (.ref d), .val (.int (Int32.ofNat (q + (i + 1)))), .val (.int (Int32.ofNat len)), .val (.int (Int32.ofNat (i + 1))), .val (.int (cv A (o + i)))] [])) := by
        have := c9
        rw [succ32, succ32, succ32] at this
        exact this
      exact ih (i + 1) (by omega) _ (Or.inr ⟨_, rfl, rfl⟩) T7 _ (by rw [copyLocs_step, ← List.append_assoc]; exact X7) (pl.trans p7) (fl.step (by omega) hlt (by simp)) c10
  obtain ⟨T9, B9, z9, X9, p9, f9, g9⟩ := loop len 0 (by omega) .unset (Or.inl rfl) s₁ B (by simpa [copyLocs] using X0) ⟨hB0.1, fun _ _ => rfl, rfl⟩ (Laid.zero _ _ _) c2
  have c11 : Steps p.tables e below (s₁.setTop (entryFrame m #[.ref b, .int (Int32.ofNat o), .ref d, .int (Int32.ofNat q), .int (Int32.ofNat len)] 7)) (T9.setTop (mkF m 46 #[.val (.ref b), .val (.int (Int32.ofNat (o + len))), .val (.ref d), .val (.int (Int32.ofNat (q + len))), .val (.int (Int32.ofNat len)), .val (.int (Int32.ofNat len)), z9] [.int (Int32.ofNat len)])) := g9.trans (by
    refine XS.iload X9.here hexec rfl (hb hbytes d3) rfl ?_
    refine XS.iload X9.here hexec rfl (hb hbytes d5) rfl ?_
    refine XS.icmpYes X9.here hexec rfl (pc0 := 7) rfl (hb hbytes d7) rfl (ii_ge_t (nlt32 (by omega) (Nat.le_refl _))) (by decide) rfl ?_
    refine XS.iload X9.here hexec rfl (hb hbytes d44) rfl ?_
    exact Steps.refl _)
  exact ⟨T9, some (.int (Int32.ofNat len)), _, _, _, X9, by simp, rfl, rfl, (fun h => by cases h), ⟨rfl, B9, p9.from hh0, f9⟩, fun fs hl => c11.trans (X9.ireturnOut hexec hret rfl (Or.inl rfl) (hb hbytes d46) hl)⟩
end Cmp5
namespace Cmp3
def yN : MethodName := ⟨"java/lang/StringUTF16", "compress", "([CII)[B"⟩
abbrev yB : ByteArray := jdk_52_method_16_code
theorem d0 : decode yB 0 = .ok (.iload_n 2, 1) := by decide +kernel
theorem d1 : decode yB 1 = .ok (.newarray .byte, 2) := by decide +kernel
theorem d3 : decode yB 3 = .ok (.astore_n 3, 1) := by decide +kernel
theorem d4 : decode yB 4 = .ok (.aload_n 0, 1) := by decide +kernel
theorem d5 : decode yB 5 = .ok (.iload_n 1, 1) := by decide +kernel
theorem d6 : decode yB 6 = .ok (.aload_n 3, 1) := by decide +kernel
theorem d7 : decode yB 7 = .ok (.iconst 0, 1) := by decide +kernel
theorem d8 : decode yB 8 = .ok (.iload_n 2, 1) := by decide +kernel
theorem d9 : decode yB 9 = .ok (.invokestatic 115, 3) := by decide +kernel
theorem d12 : decode yB 12 = .ok (.istore 4, 2) := by decide +kernel
theorem d14 : decode yB 14 = .ok (.iload 4, 2) := by decide +kernel
theorem d16 : decode yB 16 = .ok (.iload_n 2, 1) := by decide +kernel
theorem d17 : decode yB 17 = .ok (.if_icmp (.eq) 40, 3) := by decide +kernel
theorem d57 : decode yB 57 = .ok (.aload_n 3, 1) := by decide +kernel
theorem d58 : decode yB 58 = .ok (.areturn, 1) := by decide +kernel
def site : List Cond := [.arrayClass .byte, Cmp5.tab] ++ staticW U16 115 Cmp5.yN
def tab : Cond := tabOf yN yB 6 (some (.array .byte)) site
def P (b : Addr) (A : Cell) (o len : Nat) (args : Array Value) (s : State) : Prop := args = #[.ref b, .int (Int32.ofNat o), .int (Int32.ofNat len)] ∧ Ch b A s ∧ o + len ≤ A.slots.size ∧ len ≤ 536870912 ∧ ∀ i, i < len → ¬ 255 < cv A (o + i)
def E (b : Addr) (A : Cell) (o len : Nat) (r : Option Value) (s u : State) : Prop := NewArr .byte "[B" len (fun j => .int (lo8 (cv A (o + j)))) r s u ∧ u.heap.size = s.heap.size + 1
/-- no char of the range above 255: a new byte[] of their low bytes -/
theorem law (l : Launch) (b : Addr) (A : Cell) (o len : Nat) : Law l yN 3 3 1 18 yB 6 (some (.array .byte)) site (P b A o len) (E b A o len) [] 1 len := by
  refine Law.of_walk (plainFor_of_name (by decide +kernel)) (by decide +kernel) (by decide +kernel) (by decide) (fun _ _ h => by rw [h.1]; rfl) (fun _ U U' hal hh h => ⟨h.1, h.2.1.mv hal hh, h.2.2⟩) (fun r U U' V V' h1 hal h2 h => ⟨NewArr.mv r U U' V V' h1 hal h2 h.1, by rw [h1, h2]; exact h.2⟩) ?_
  intro p e s m args below meth c s₁ X0 hexec hbytes hml hret hlk hnm hown hh0 W hP
  obtain ⟨rfl, hA, l1, l2, hp⟩ := hP
  have a31 := hA.1.2.2.2
  have c1 : Steps p.tables e below (s₁.setTop (entryFrame m #[.ref b, .int (Int32.ofNat o), .int (Int32.ofNat len)] 6)) (s₁.setTop (mkF m 0 #[.val (.ref b), .val (.int (Int32.ofNat o)), .val (.int (Int32.ofNat len)), .unset, .unset, .unset] [])) := entry rfl
  have c2 : Steps p.tables e below (s₁.setTop (entryFrame m #[.ref b, .int (Int32.ofNat o), .int (Int32.ofNat len)] 6)) (s₁.setTop (mkF m 1 #[.val (.ref b), .val (.int (Int32.ofNat o)), .val (.int (Int32.ofNat len)), .unset, .unset, .unset] [.int (Int32.ofNat len)])) := c1.trans (by
    refine XS.iloadN X0.here hexec rfl (hb hbytes d0) rfl ?_
    exact Steps.refl _)
  obtain ⟨T3, B3, X3, ba3, bs3, bv3, bh3, bf3, st3⟩ := X0.anew hexec (atype := .byte) (wk W (.arrayClass .byte)) rfl (by show len * 1 ≤ _; omega) (by omega) (g := (mkF m 1 #[.val (.ref b), .val (.int (Int32.ofNat o)), .val (.int (Int32.ofNat len)), .unset, .unset, .unset] [.int (Int32.ofNat len)])) rfl (hb hbytes d1) (rest := []) rfl (Nat.le_refl _) (by show 0 + len ≤ len; omega)
  rw [hh0] at ba3 st3
  have kp3 : XT.Kept s T3 := (XT.Kept.of_eq hh0).push bh3
  have hA3 := hA.keep X3.warmed.alike (kp3 _ _ hA.1.1)
  have hne : b ≠ s.heap.size := hA.1.ne
  have c4 : Steps p.tables e below (s₁.setTop (entryFrame m #[.ref b, .int (Int32.ofNat o), .int (Int32.ofNat len)] 6)) (T3.setTop (mkF m 3 #[.val (.ref b), .val (.int (Int32.ofNat o)), .val (.int (Int32.ofNat len)), .unset, .unset, .unset] [.ref s.heap.size])) := c2.trans (st3 _ (Steps.refl _))
  have c5 : Steps p.tables e below (s₁.setTop (entryFrame m #[.ref b, .int (Int32.ofNat o), .int (Int32.ofNat len)] 6)) (T3.setTop (mkF m 9 #[.val (.ref b), .val (.int (Int32.ofNat o)), .val (.int (Int32.ofNat len)), .val (.ref s.heap.size), .unset, .unset] [.int (Int32.ofNat len), .int 0, .ref s.heap.size, .int (Int32.ofNat o), .ref b])) := c4.trans (by
    refine XS.astoreN X3.here hexec rfl (hb hbytes d3) rfl rfl rfl ?_
    refine XS.aloadN X3.here hexec rfl (hb hbytes d4) rfl rfl ?_
    refine XS.iloadN X3.here hexec rfl (hb hbytes d5) rfl ?_
    refine XS.aloadN X3.here hexec rfl (hb hbytes d6) rfl rfl ?_
    refine iconstV X3.here hexec rfl 0 (hb hbytes d7) (by decide) ?_
    refine XS.iloadN X3.here hexec rfl (hb hbytes d8) rfl ?_
    exact Steps.refl _)
  obtain ⟨v6, T6, X6, E6, g6⟩ := X3.callS hexec (Cmp5.law l b A s.heap.size B3 o 0 len) hown (wks W (staticW U16 115 Cmp5.yN)) (wk W Cmp5.tab) (W := 0) (Nat.le_of_ble_eq_true rfl) (Nat.le_of_ble_eq_true rfl) (Nat.le_refl _) (by show 0 + len + 0 ≤ len; omega) (g := (mkF m 9 #[.val (.ref b), .val (.int (Int32.ofNat o)), .val (.int (Int32.ofNat len)), .val (.ref s.heap.size), .unset, .unset] [.int (Int32.ofNat len), .int (Int32.ofNat 0), .ref s.heap.size, .int (Int32.ofNat o), .ref b])) rfl (by rw [hml]; rfl) c5 (argsL := [.ref b, .int (Int32.ofNat o), .ref s.heap.size, .int (Int32.ofNat 0), .int (Int32.ofNat len)]) (rest := []) rfl rfl (by show 2 * 0 + 0 ≤ _; decide) (hb hbytes d9) (⟨rfl, hA3, ba3, hne, l1, by rw [bs3]; simp, hp⟩)
  obtain ⟨rfl, B6, p6, f6⟩ := E6
  have c7 : Steps p.tables e below (s₁.setTop (entryFrame m #[.ref b, .int (Int32.ofNat o), .int (Int32.ofNat len)] 6)) (T6.setTop (mkF m 12 #[.val (.ref b), .val (.int (Int32.ofNat o)), .val (.int (Int32.ofNat len)), .val (.ref s.heap.size), .unset, .unset] [.int (Int32.ofNat len)])) := g6
  have c8 : Steps p.tables e below (s₁.setTop (entryFrame m #[.ref b, .int (Int32.ofNat o), .int (Int32.ofNat len)] 6)) (T6.setTop (mkF m 58 #[.val (.ref b), .val (.int (Int32.ofNat o)), .val (.int (Int32.ofNat len)), .val (.ref s.heap.size), .val (.int (Int32.ofNat len)), .unset] [.ref s.heap.size])) := c7.trans (by
    refine XS.istore X6.here hexec rfl (hb hbytes d12) rfl rfl ?_
    refine XS.iload X6.here hexec rfl (hb hbytes d14) rfl ?_
    refine XS.iloadN X6.here hexec rfl (hb hbytes d16) rfl ?_
    refine XS.icmpYes X6.here hexec rfl (pc0 := 17) rfl (hb hbytes d17) rfl (ii_eq_t rfl) (by decide) rfl ?_
    refine XS.aloadN X6.here hexec rfl (hb hbytes d57) rfl rfl ?_
    exact Steps.refl _)
  have X8 := X6.wide (L' := []) (cells' := 1) (slots' := len) (fun x hx hlt => by
    simp only [List.nil_append, copyLocs, List.mem_map, List.mem_range] at hx
    obtain ⟨i, -, rfl⟩ := hx
    exact absurd hlt (Nat.lt_irrefl _)) (Nat.le_refl _) (by omega)
  exact ⟨T6, some (.ref s.heap.size), _, _, _, X8, rfl, rfl, rfl, (fun h => by cases h), ⟨⟨rfl, B6, ba3.like (X3.warmed.alike.symm.trans X6.warmed.alike) p6.1 f6.1 f6.2.1 f6.2.2.1, f6.2.1.trans bv3, by rw [X6.warmed.alike.findClass, f6.1]; exact bf3, by rw [f6.2.2.1, bs3]; simp, fun j hj => by rw [f6.2.2.2 j, if_pos (by omega)]; rfl, kp3.put p6 (Nat.le_refl _)⟩, by rw [p6.2.2, bh3, hh0]; simp⟩, fun fs hl => c8.trans (X8.areturnOut hexec rfl hret rfl (hb hbytes d58) hl)⟩
end Cmp3
namespace CodL
def yN : MethodName := ⟨"java/lang/StringUTF16", "coderFromArrayLen", "([BI)B"⟩
abbrev yB : ByteArray := jdk_52_method_15_code
theorem d0 : decode yB 0 = .ok (.iload_n 1, 1) := by decide +kernel
theorem d1 : decode yB 1 = .ok (.aload_n 0, 1) := by decide +kernel
theorem d2 : decode yB 2 = .ok (.arraylength, 1) := by decide +kernel
theorem d3 : decode yB 3 = .ok (.isub, 1) := by decide +kernel
theorem d4 : decode yB 4 = .ok (.bipush 31, 2) := by decide +kernel
theorem d6 : decode yB 6 = .ok (.iushr, 1) := by decide +kernel
theorem d7 : decode yB 7 = .ok (.i2b, 1) := by decide +kernel
theorem d8 : decode yB 8 = .ok (.ireturn, 1) := by decide +kernel
def site : List Cond := []
def tab : Cond := tabOf yN yB 2 (some .byte) site
def P (d : Addr) (B : Cell) (args : Array Value) (s : State) : Prop := args = #[.ref d, .int (Int32.ofNat B.slots.size)] ∧ Arr .byte d B s
def E (r : Option Value) (s u : State) : Prop := XT.PureE (some (.int 0)) r s u
/-- an array as long as the number of chars: LATIN1 -/
theorem law (l : Launch) (d : Addr) (B : Cell) : Law l yN 2 2 0 0 yB 2 (some .byte) site (P d B) E [] 0 0 := by
  refine Law.of_walk (plainFor_of_name (by decide +kernel)) (by decide +kernel) (by decide +kernel) (by decide) (fun _ _ h => by rw [h.1]; rfl) (fun _ U U' hal hh h => ⟨h.1, h.2.mv hal hh⟩) (fun r U U' V V' h1 hal h2 h => XT.PureE.mv r U U' V V' h1 hal h2 h) ?_
  intro p e s m args below meth c s₁ X0 hexec hbytes hml hret hlk hnm hown hh0 W hP
  obtain ⟨rfl, hB⟩ := hP
  have hB0 := hB.mv X0.warmed.alike hh0
  have c1 : Steps p.tables e below (s₁.setTop (entryFrame m #[.ref d, .int (Int32.ofNat B.slots.size)] 2)) (s₁.setTop (mkF m 0 #[.val (.ref d), .val (.int (Int32.ofNat B.slots.size))] [])) := entry rfl
  have c2 : Steps p.tables e below (s₁.setTop (entryFrame m #[.ref d, .int (Int32.ofNat B.slots.size)] 2)) (s₁.setTop (mkF m 2 #[.val (.ref d), .val (.int (Int32.ofNat B.slots.size))] [.ref d, .int (Int32.ofNat B.slots.size)])) := c1.trans (by
    refine XS.iloadN X0.here hexec rfl (hb hbytes d0) rfl ?_
    refine XS.aloadN X0.here hexec rfl (hb hbytes d1) rfl rfl ?_
    exact Steps.refl _)
  have c3 : Steps p.tables e below (s₁.setTop (entryFrame m #[.ref d, .int (Int32.ofNat B.slots.size)] 2)) (s₁.setTop (mkF m 8 #[.val (.ref d), .val (.int (Int32.ofNat B.slots.size))] [.int (lo8 (ushr (Int32.ofNat B.slots.size - Int32.ofNat B.slots.size) 31))])) := c2.trans (by
    refine X0.alen hexec hB0 rfl rfl (hb hbytes d2) ?_
    refine XS.isub X0.here hexec rfl (hb hbytes d3) rfl ?_
    refine bipushV X0.here hexec rfl 31 (hb hbytes d4) (by decide) ?_
    refine iushr X0.here hexec rfl (hb hbytes d6) rfl ?_
    refine i2b X0.here hexec rfl (hb hbytes d7) rfl ?_
    exact Steps.refl _)
  have e0 : lo8 (ushr (Int32.ofNat B.slots.size - Int32.ofNat B.slots.size) 31) = 0 := by rw [Int32.sub_self]; decide
  rw [e0] at c3
  exact ⟨s₁, some (.int 0), _, _, _, X0, rfl, rfl, rfl, (fun h => by cases h), ⟨rfl, hh0⟩, fun fs hl => c3.trans (X0.ireturnOut hexec hret rfl (Or.inr (Or.inr (Or.inl rfl))) (hb hbytes d8) hl)⟩
end CodL
/-- the String at a is Latin-1 over a new byte[] (the heap's one new cell): the low bytes of the len chars of A from o on; every cell but a is kept -/
def Got (a : Addr) (D : Cell) (fV fC : Field) (A : Cell) (o len : Nat) (r : Option Value) (s u : State) : Prop := r = none ∧ ∃ D' V : Cell, Blank "java/lang/String" a D' u ∧ Same D D' [fV.slot, fC.slot] ∧ D'.slots[fV.slot]? = some (.ref s.heap.size) ∧ D'.slots[fC.slot]? = some (.int 0) ∧ Arr .byte s.heap.size V u ∧ V.vm = .none ∧ u.vm.findClass "[B" = some V.cls ∧ V.slots.size = len ∧ (∀ j, j < len → V.slots[j]? = some (.int (lo8 (cv A (o + j))))) ∧ (∀ (y : Addr) (c : Cell), y ≠ a → s.heap[y]? = some c → u.heap[y]? = some c) ∧ u.heap.size = s.heap.size + 1
theorem Got.mv {a : Addr} {D A : Cell} {fV fC : Field} {o len : Nat} : ∀ r (U U' V V' : State), U'.heap = U.heap → V.vm.Alike V'.vm → V'.heap = V.heap → Got a D fV fC A o len r U V → Got a D fV fC A o len r U' V' :=
  fun r U U' V V' h1 hal h2 ⟨e0, D', X, a1, a2, a3, a4, a5, a6, a7, a8, a9, a10, a11⟩ => ⟨e0, D', X, a1.mv hal h2, a2, by rw [h1]; exact a3, a4, by rw [h1]; exact a5.mv hal h2, a6, by rw [hal.findClass]; exact a7, a8, a9, by rw [h1, h2]; exact a10, by rw [h1, h2]; exact a11⟩
namespace New4
def yN : MethodName := ⟨"java/lang/String", "<init>", "([CIILjava/lang/Void;)V"⟩
abbrev yB : ByteArray := jdk_42_method_149_code
theorem d0 : decode yB 0 = .ok (.aload_n 0, 1) := by decide +kernel
theorem d1 : decode yB 1 = .ok (.invokespecial 1, 3) := by decide +kernel
theorem d4 : decode yB 4 = .ok (.iload_n 3, 1) := by decide +kernel
theorem d5 : decode yB 5 = .ok (.ifCond (.ne) 22, 3) := by decide +kernel
theorem d27 : decode yB 27 = .ok (.getstatic 38, 3) := by decide +kernel
theorem d30 : decode yB 30 = .ok (.ifCond (.eq) 28, 3) := by decide +kernel
theorem d33 : decode yB 33 = .ok (.aload_n 1, 1) := by decide +kernel
theorem d34 : decode yB 34 = .ok (.iload_n 2, 1) := by decide +kernel
theorem d35 : decode yB 35 = .ok (.iload_n 3, 1) := by decide +kernel
theorem d36 : decode yB 36 = .ok (.invokestatic 177, 3) := by decide +kernel
theorem d39 : decode yB 39 = .ok (.astore 5, 2) := by decide +kernel
theorem d41 : decode yB 41 = .ok (.aload_n 0, 1) := by decide +kernel
theorem d42 : decode yB 42 = .ok (.aload 5, 2) := by decide +kernel
theorem d44 : decode yB 44 = .ok (.iload_n 3, 1) := by decide +kernel
theorem d45 : decode yB 45 = .ok (.invokestatic 47, 3) := by decide +kernel
theorem d48 : decode yB 48 = .ok (.putfield 15, 3) := by decide +kernel
theorem d51 : decode yB 51 = .ok (.aload_n 0, 1) := by decide +kernel
theorem d52 : decode yB 52 = .ok (.aload 5, 2) := by decide +kernel
theorem d54 : decode yB 54 = .ok (.putfield 9, 3) := by decide +kernel
theorem d57 : decode yB 57 = .ok (.return_, 1) := by decide +kernel
def site : List Cond := [.fieldLink "java/lang/String" 38 "java/lang/String" "COMPACT_STRINGS" "Z", Cmp3.tab, CodL.tab, .laysFinal "java/lang/String" "java/lang/String" "value" "[B", .fieldLink "java/lang/String" 9 "java/lang/String" "value" "[B", .laysFinal "java/lang/String" "java/lang/String" "coder" "B", .fieldLink "java/lang/String" 15 "java/lang/String" "coder" "B"] ++ objW "java/lang/String" 1 ++ staticW "java/lang/String" 177 Cmp3.yN ++ staticW "java/lang/String" 47 CodL.yN
def tab : Cond := tabOf yN yB 6 none site
def P (a : Addr) (D : Cell) (fV fC : Field) (b : Addr) (A : Cell) (z : Int32) (o len : Nat) (args : Array Value) (s : State) : Prop := args = #[.ref a, .ref b, .int (Int32.ofNat o), .int (Int32.ofNat len), .null] ∧ Blank "java/lang/String" a D s ∧ Found "java/lang/String" "value" "[B" fV s ∧ Found "java/lang/String" "coder" "B" fC s ∧ Ch b A s ∧ StaticIs s "java/lang/String" "COMPACT_STRINGS" "Z" (.int z) ∧ ¬ z = 0 ∧ 0 < len ∧ o + len ≤ A.slots.size ∧ len ≤ 536870912 ∧ ∀ i, i < len → ¬ 255 < cv A (o + i)
def E (a : Addr) (D : Cell) (fV fC : Field) (A : Cell) (o len : Nat) (r : Option Value) (s u : State) : Prop := Got a D fV fC A o len r s u
/-- len > 0, no char of the range above 255: a Latin-1 String of their low bytes -/
theorem law (l : Launch) (a : Addr) (D : Cell) (fV fC : Field) (b : Addr) (A : Cell) (z : Int32) (o len : Nat) : Law l yN 5 4 2 35 yB 6 none site (P a D fV fC b A z o len) (E a D fV fC A o len) [⟨a, fC.slot⟩, ⟨a, fV.slot⟩] 1 len := by
  refine Law.of_walk (plainFor_of_name (by decide +kernel)) (by decide +kernel) (by decide +kernel) (by decide) (fun _ _ h => by rw [h.1]; rfl) (fun _ U U' hal hh h => ⟨h.1, h.2.1.mv hal hh, h.2.2.1.al hal, h.2.2.2.1.al hal, h.2.2.2.2.1.mv hal hh, h.2.2.2.2.2.1.there hal hh, h.2.2.2.2.2.2⟩) (fun r U U' V V' h1 hal h2 h => Got.mv r U U' V V' h1 hal h2 h) ?_
  intro p e s m args below meth c s₁ X0 hexec hbytes hml hret hlk hnm hown hh0 W hP
  obtain ⟨rfl, hB, f1, f2, hA, s1, hz, l0, l1, l2, hp⟩ := hP
  have a31 := hA.1.2.2.2
  have c1 : Steps p.tables e below (s₁.setTop (entryFrame m #[.ref a, .ref b, .int (Int32.ofNat o), .int (Int32.ofNat len), .null] 6)) (s₁.setTop (mkF m 0 #[.val (.ref a), .val (.ref b), .val (.int (Int32.ofNat o)), .val (.int (Int32.ofNat len)), .val .null, .unset] [])) := entry rfl
  have c2 : Steps p.tables e below (s₁.setTop (entryFrame m #[.ref a, .ref b, .int (Int32.ofNat o), .int (Int32.ofNat len), .null] 6)) (s₁.setTop (mkF m 1 #[.val (.ref a), .val (.ref b), .val (.int (Int32.ofNat o)), .val (.int (Int32.ofNat len)), .val .null, .unset] [.ref a])) := c1.trans (by
    refine XS.aloadN X0.here hexec rfl (hb hbytes d0) rfl rfl ?_
    exact Steps.refl _)
  obtain ⟨T3, X3, q3, st3⟩ := X0.oinit hexec hown (wks W (objW "java/lang/String" 1)) (g := (mkF m 1 #[.val (.ref a), .val (.ref b), .val (.int (Int32.ofNat o)), .val (.int (Int32.ofNat len)), .val .null, .unset] [.ref a])) rfl (by rw [hml]; rfl) (rest := []) rfl (hb hbytes d1) (W := 0) (by show 2 * 0 + 0 ≤ _; decide) (Nat.le_of_ble_eq_true rfl) (Nat.le_of_ble_eq_true rfl)
  have hh3 := q3.trans hh0
  have c4 : Steps p.tables e below (s₁.setTop (entryFrame m #[.ref a, .ref b, .int (Int32.ofNat o), .int (Int32.ofNat len), .null] 6)) (T3.setTop (mkF m 27 #[.val (.ref a), .val (.ref b), .val (.int (Int32.ofNat o)), .val (.int (Int32.ofNat len)), .val .null, .unset] [])) := (c2.trans (st3 _ (Steps.refl _))).trans (by
    refine XS.iloadN X3.here hexec rfl (hb hbytes d4) rfl ?_
    refine XS.ifYes X3.here hexec rfl (pc0 := 5) rfl (hb hbytes d5) rfl (i0_ne_t (nz32 (by omega) l0)) (by decide) rfl ?_
    exact Steps.refl _)
  obtain ⟨T5, X5, q5, st5⟩ := X3.sget hexec hown (wk W (.fieldLink "java/lang/String" 38 "java/lang/String" "COMPACT_STRINGS" "Z")) s1 (fun _ _ h => by rw [hh3]; exact h) (g := (mkF m 27 #[.val (.ref a), .val (.ref b), .val (.int (Int32.ofNat o)), .val (.int (Int32.ofNat len)), .val .null, .unset] [])) rfl (hb hbytes d27)
  have hh5 := q5.trans hh3
  have c6 : Steps p.tables e below (s₁.setTop (entryFrame m #[.ref a, .ref b, .int (Int32.ofNat o), .int (Int32.ofNat len), .null] 6)) (T5.setTop (mkF m 30 #[.val (.ref a), .val (.ref b), .val (.int (Int32.ofNat o)), .val (.int (Int32.ofNat len)), .val .null, .unset] [.int z])) := c4.trans (st5 _ (Steps.refl _))
  have c7 : Steps p.tables e below (s₁.setTop (entryFrame m #[.ref a, .ref b, .int (Int32.ofNat o), .int (Int32.ofNat len), .null] 6)) (T5.setTop (mkF m 36 #[.val (.ref a), .val (.ref b), .val (.int (Int32.ofNat o)), .val (.int (Int32.ofNat len)), .val .null, .unset] [.int (Int32.ofNat len), .int (Int32.ofNat o), .ref b])) := c6.trans (by
    refine XS.ifNo X5.here hexec rfl (hb hbytes d30) rfl (i0_eq_f hz) ?_
    refine XS.aloadN X5.here hexec rfl (hb hbytes d33) rfl rfl ?_
    refine XS.iloadN X5.here hexec rfl (hb hbytes d34) rfl ?_
    refine XS.iloadN X5.here hexec rfl (hb hbytes d35) rfl ?_
    exact Steps.refl _)
  obtain ⟨v8, T8, X8, E8, g8⟩ := X5.callS hexec (Cmp3.law l b A o len) hown (wks W (staticW "java/lang/String" 177 Cmp3.yN)) (wk W Cmp3.tab) (W := 0) (Nat.le_of_ble_eq_true rfl) (Nat.le_of_ble_eq_true rfl) (Nat.le_refl _) (by show 0 + len ≤ len; omega) (g := (mkF m 36 #[.val (.ref a), .val (.ref b), .val (.int (Int32.ofNat o)), .val (.int (Int32.ofNat len)), .val .null, .unset] [.int (Int32.ofNat len), .int (Int32.ofNat o), .ref b])) rfl (by rw [hml]; rfl) c7 (argsL := [.ref b, .int (Int32.ofNat o), .int (Int32.ofNat len)]) (rest := []) rfl rfl (by show 2 * 0 + 0 ≤ _; decide) (hb hbytes d36) (⟨rfl, hA.mv X5.warmed.alike hh5, l1, l2, hp⟩)
  obtain ⟨e8, z8⟩ := E8
  obtain ⟨rfl, N, n1, n2, n3, n4, n5, n6⟩ := NewArr.mv _ T5 s _ _ hh5.symm (Vm.Alike.refl _) rfl e8
  rw [hh5] at z8
  have hB1 := hB.keep X8.warmed.alike (n6 _ _ hB.1)
  have hne : s.heap.size ≠ a := (Nat.ne_of_lt (Array.getElem?_eq_some_iff.mp hB.1).1).symm
  have c9 : Steps p.tables e below (s₁.setTop (entryFrame m #[.ref a, .ref b, .int (Int32.ofNat o), .int (Int32.ofNat len), .null] 6)) (T8.setTop (mkF m 39 #[.val (.ref a), .val (.ref b), .val (.int (Int32.ofNat o)), .val (.int (Int32.ofNat len)), .val .null, .unset] [.ref s.heap.size])) := g8
  have c10 : Steps p.tables e below (s₁.setTop (entryFrame m #[.ref a, .ref b, .int (Int32.ofNat o), .int (Int32.ofNat len), .null] 6)) (T8.setTop (mkF m 45 #[.val (.ref a), .val (.ref b), .val (.int (Int32.ofNat o)), .val (.int (Int32.ofNat len)), .val .null, .val (.ref s.heap.size)] [.int (Int32.ofNat N.slots.size), .ref s.heap.size, .ref a])) := by
    have hc : Steps p.tables e below (s₁.setTop (entryFrame m #[.ref a, .ref b, .int (Int32.ofNat o), .int (Int32.ofNat len), .null] 6)) (T8.setTop (mkF m 45 #[.val (.ref a), .val (.ref b), .val (.int (Int32.ofNat o)), .val (.int (Int32.ofNat len)), .val .null, .val (.ref s.heap.size)] [.int (Int32.ofNat len), .ref s.heap.size, .ref a])) := c9.trans (by
      refine XS.astore X8.here hexec rfl (hb hbytes d39) rfl rfl rfl ?_
      refine XS.aloadN X8.here hexec rfl (hb hbytes d41) rfl rfl ?_
      refine XS.aload X8.here hexec rfl (hb hbytes d42) rfl rfl ?_
      refine XS.iloadN X8.here hexec rfl (hb hbytes d44) rfl ?_
      exact Steps.refl _)
    rw [n4]; exact hc
  obtain ⟨v11, T11, X11, E11, g11⟩ := X8.callS hexec (CodL.law l s.heap.size N) hown (wks W (staticW "java/lang/String" 47 CodL.yN)) (wk W CodL.tab) (W := 1) (Nat.le_of_ble_eq_true rfl) (Nat.le_of_ble_eq_true rfl) (Nat.le_refl _) (by show 0 + len + 0 ≤ len; omega) (g := (mkF m 45 #[.val (.ref a), .val (.ref b), .val (.int (Int32.ofNat o)), .val (.int (Int32.ofNat len)), .val .null, .val (.ref s.heap.size)] [.int (Int32.ofNat N.slots.size), .ref s.heap.size, .ref a])) rfl (by rw [hml]; rfl) c10 (argsL := [.ref s.heap.size, .int (Int32.ofNat N.slots.size)]) (rest := [.ref a]) rfl rfl (by show 2 * 0 + (1 + 0) ≤ _; decide) (hb hbytes d45) (⟨rfl, n1⟩)
  obtain ⟨rfl, q11⟩ := E11
  have hB11 := hB1.mv (X8.warmed.alike.symm.trans X11.warmed.alike) q11
  have c12 : Steps p.tables e below (s₁.setTop (entryFrame m #[.ref a, .ref b, .int (Int32.ofNat o), .int (Int32.ofNat len), .null] 6)) (T11.setTop (mkF m 48 #[.val (.ref a), .val (.ref b), .val (.int (Int32.ofNat o)), .val (.int (Int32.ofNat len)), .val .null, .val (.ref s.heap.size)] [.int 0, .ref a])) := g11
  obtain ⟨T13, X13, p13, bl13, sl13, st13⟩ := X11.finit hexec hown (wk W (.fieldLink "java/lang/String" 15 "java/lang/String" "coder" "B")) (Or.inr ⟨_, (wk W (.laysFinal "java/lang/String" "java/lang/String" "coder" "B"))⟩) (Or.inl ⟨rfl, hnm⟩) f2 (Or.inl rfl) hB11 (t := .byte) (by decide +kernel) rfl (g := (mkF m 48 #[.val (.ref a), .val (.ref b), .val (.int (Int32.ofNat o)), .val (.int (Int32.ofNat len)), .val .null, .val (.ref s.heap.size)] [.int 0, .ref a])) rfl (rest := []) rfl (hb hbytes d48)
  have c14 : Steps p.tables e below (s₁.setTop (entryFrame m #[.ref a, .ref b, .int (Int32.ofNat o), .int (Int32.ofNat len), .null] 6)) (T13.setTop (mkF m 54 #[.val (.ref a), .val (.ref b), .val (.int (Int32.ofNat o)), .val (.int (Int32.ofNat len)), .val .null, .val (.ref s.heap.size)] [.ref s.heap.size, .ref a])) := (c12.trans (st13 _ (Steps.refl _))).trans (by
    refine XS.aloadN X13.here hexec rfl (hb hbytes d51) rfl rfl ?_
    refine XS.aload X13.here hexec rfl (hb hbytes d52) rfl rfl ?_
    exact Steps.refl _)
  obtain ⟨T15, X15, p15, bl15, sl15, st15⟩ := X13.finit hexec hown (wk W (.fieldLink "java/lang/String" 9 "java/lang/String" "value" "[B")) (Or.inr ⟨_, (wk W (.laysFinal "java/lang/String" "java/lang/String" "value" "[B"))⟩) (Or.inl ⟨rfl, hnm⟩) f1 (Or.inl rfl) bl13 (t := (.array .byte)) (by decide +kernel) rfl (g := (mkF m 54 #[.val (.ref a), .val (.ref b), .val (.int (Int32.ofNat o)), .val (.int (Int32.ofNat len)), .val .null, .val (.ref s.heap.size)] [.ref s.heap.size, .ref a])) rfl (rest := []) rfl (hb hbytes d54)
  have c16 : Steps p.tables e below (s₁.setTop (entryFrame m #[.ref a, .ref b, .int (Int32.ofNat o), .int (Int32.ofNat len), .null] 6)) (T15.setTop (mkF m 57 #[.val (.ref a), .val (.ref b), .val (.int (Int32.ofNat o)), .val (.int (Int32.ofNat len)), .val .null, .val (.ref s.heap.size)] [])) := c14.trans (st15 _ (Steps.refl _))
  have ap := apart (Or.inr ⟨_, (wk W (.laysFinal "java/lang/String" "java/lang/String" "value" "[B"))⟩) (Or.inr ⟨_, (wk W (.laysFinal "java/lang/String" "java/lang/String" "coder" "B"))⟩) f1 f2 (t₁ := .array .byte) (t₂ := .byte) (by decide +kernel) (by decide +kernel) (by decide)
  have al := X8.warmed.alike.symm.trans X15.warmed.alike
  have n7 : T11.heap[s.heap.size]? = some N := by rw [q11]; exact n1.1
  exact ⟨T15, none, _, _, _, X15, by simp, rfl, by omega, (fun _ => rfl), ⟨rfl, _, N, bl15, ((Same.refl D _).set _ (by simp)).set _ (by simp), sl15, (Cell.slots_setSlot_ne _ ap).trans sl13, n1.keep al (p15.other hne (p13.other hne n7)), n2, by rw [al.findClass]; exact n3, n4, n5, fun y c h1 h2 => p15.other h1 (p13.other h1 (by rw [q11]; exact n6 y c h2)), by rw [p15.2.2, p13.2.2, q11]; exact z8⟩, fun fs hl => c16.trans (X15.returnOut hexec hret (hb hbytes d57) hl)⟩
end New4
namespace New1
def yN : MethodName := ⟨"java/lang/String", "<init>", "([C)V"⟩
abbrev yB : ByteArray := jdk_42_method_3_code
theorem d0 : decode yB 0 = .ok (.aload_n 0, 1) := by decide +kernel
theorem d1 : decode yB 1 = .ok (.aload_n 1, 1) := by decide +kernel
theorem d2 : decode yB 2 = .ok (.iconst 0, 1) := by decide +kernel
theorem d3 : decode yB 3 = .ok (.aload_n 1, 1) := by decide +kernel
theorem d4 : decode yB 4 = .ok (.arraylength, 1) := by decide +kernel
theorem d5 : decode yB 5 = .ok (.aconst_null, 1) := by decide +kernel
theorem d6 : decode yB 6 = .ok (.invokespecial 27, 3) := by decide +kernel
theorem d9 : decode yB 9 = .ok (.return_, 1) := by decide +kernel
def site : List Cond := [New4.tab] ++ initW "java/lang/String" 27 New4.yN
def tab : Cond := tabOf yN yB 2 none site
def P (a : Addr) (D : Cell) (fV fC : Field) (b : Addr) (A : Cell) (z : Int32) (args : Array Value) (s : State) : Prop := args = #[.ref a, .ref b] ∧ Blank "java/lang/String" a D s ∧ Found "java/lang/String" "value" "[B" fV s ∧ Found "java/lang/String" "coder" "B" fC s ∧ Ch b A s ∧ StaticIs s "java/lang/String" "COMPACT_STRINGS" "Z" (.int z) ∧ ¬ z = 0 ∧ 0 < A.slots.size ∧ A.slots.size ≤ 536870912 ∧ ∀ i, i < A.slots.size → ¬ 255 < cv A i
def E (a : Addr) (D : Cell) (fV fC : Field) (A : Cell) (r : Option Value) (s u : State) : Prop := Got a D fV fC A 0 A.slots.size r s u
/-- new String(chars), not empty, no char above 255: a Latin-1 String of their low bytes -/
theorem law (l : Launch) (a : Addr) (D : Cell) (fV fC : Field) (b : Addr) (A : Cell) (z : Int32) : Law l yN 2 1 3 52 yB 2 none site (P a D fV fC b A z) (E a D fV fC A) [⟨a, fC.slot⟩, ⟨a, fV.slot⟩] 1 A.slots.size := by
  refine Law.of_walk (plainFor_of_name (by decide +kernel)) (by decide +kernel) (by decide +kernel) (by decide) (fun _ _ h => by rw [h.1]; rfl) (fun _ U U' hal hh h => ⟨h.1, h.2.1.mv hal hh, h.2.2.1.al hal, h.2.2.2.1.al hal, h.2.2.2.2.1.mv hal hh, h.2.2.2.2.2.1.there hal hh, h.2.2.2.2.2.2⟩) (fun r U U' V V' h1 hal h2 h => Got.mv r U U' V V' h1 hal h2 h) ?_
  intro p e s m args below meth c s₁ X0 hexec hbytes hml hret hlk hnm hown hh0 W hP
  obtain ⟨rfl, hB, f1, f2, hA, s1, hz, l0, l2, hp⟩ := hP
  have c1 : Steps p.tables e below (s₁.setTop (entryFrame m #[.ref a, .ref b] 2)) (s₁.setTop (mkF m 0 #[.val (.ref a), .val (.ref b)] [])) := entry rfl
  have c2 : Steps p.tables e below (s₁.setTop (entryFrame m #[.ref a, .ref b] 2)) (s₁.setTop (mkF m 6 #[.val (.ref a), .val (.ref b)] [.null, .int (Int32.ofNat A.slots.size), .int 0, .ref b, .ref a])) := c1.trans (by
    refine XS.aloadN X0.here hexec rfl (hb hbytes d0) rfl rfl ?_
    refine XS.aloadN X0.here hexec rfl (hb hbytes d1) rfl rfl ?_
    refine iconstV X0.here hexec rfl 0 (hb hbytes d2) (by decide) ?_
    refine XS.aloadN X0.here hexec rfl (hb hbytes d3) rfl rfl ?_
    refine X0.alen hexec (hA.1.mv X0.warmed.alike hh0) rfl rfl (hb hbytes d4) ?_
    refine XS.aconstNull X0.here hexec rfl (hb hbytes d5) ?_
    exact Steps.refl _)
  obtain ⟨v3, T3, X3, E3, g3⟩ := X0.callN hexec (New4.law l a D fV fC b A z 0 A.slots.size) rfl hown (wks W (initW "java/lang/String" 27 New4.yN)) (W New4.tab (by simp only [site, List.mem_cons, List.mem_append, true_or, or_true])) (W := 0) (Nat.le_of_ble_eq_true rfl) (Nat.le_of_ble_eq_true rfl) (Nat.le_refl _) (by show 0 + A.slots.size ≤ A.slots.size; omega) (g := (mkF m 6 #[.val (.ref a), .val (.ref b)] [.null, .int (Int32.ofNat A.slots.size), .int (Int32.ofNat 0), .ref b, .ref a])) rfl (by rw [hml]; rfl) c2 (argsL := [.ref b, .int (Int32.ofNat 0), .int (Int32.ofNat A.slots.size), .null]) (rest := []) rfl rfl (by show 2 * 0 + 0 ≤ _; decide) (hb hbytes d6) (⟨rfl, hB.mv X0.warmed.alike hh0, f1.al X0.warmed.alike, f2.al X0.warmed.alike, hA.mv X0.warmed.alike hh0, s1.there X0.warmed.alike hh0, hz, l0, by omega, l2, fun i hi => by rw [Nat.zero_add]; exact hp i hi⟩)
  have e0 := Got.mv _ s₁ s _ _ hh0.symm (Vm.Alike.refl _) rfl E3
  obtain rfl := e0.1
  have c4 : Steps p.tables e below (s₁.setTop (entryFrame m #[.ref a, .ref b] 2)) (T3.setTop (mkF m 9 #[.val (.ref a), .val (.ref b)] [])) := g3
  exact ⟨T3, none, _, _, _, X3, by simp, rfl, by omega, (fun _ => rfl), e0, fun fs hl => c4.trans (X3.returnOut hexec hret (hb hbytes d9) hl)⟩
theorem pays {l : Launch} {R : Room} {p : Program} {e : Env} {below : List Frame} {s : State} {sargs : Array Value} {len W : Nat} (a : Addr) (D : Cell) (fV fC : Field) (b : Addr) (A : Cell) (z : Int32) (htab : tab.before sargs s = true) (hfr : 4 ≤ R.frames) (hlo : W + 65 ≤ R.locals) :
    Back l R p e below s sargs yN len W (fun A₁ a₁ => A₁.cells + 1 ≤ R.cells ∧ A₁.slots + A.slots.size ≤ R.slots ∧ P a D fV fC b A z a₁ A₁.U) (fun A₁ _ v₁ B₁ => E a D fV fC A v₁ A₁.U B₁.U ∧ B₁.locs = A₁.locs ++ [⟨a, fC.slot⟩, ⟨a, fV.slot⟩] ∧ B₁.cells = A₁.cells + 1 ∧ B₁.slots = A₁.slots + A.slots.size) :=
  (law l a D fV fC b A z).pays htab hfr (by omega)
end New1
/-- the byte, read back as charAt reads it, is the char -/
theorem lo8_mask {x : Int32} (h0 : ¬ x < 0) (h1 : ¬ 255 < x) : lo8 x &&& 255 = x := by
  have t : ∀ k : Fin 256, lo8 (Int32.ofNat k.val) &&& 255 = Int32.ofNat k.val := by decide +kernel
  rw [Int32.lt_iff_toInt_lt] at h0 h1
  have e0 : (0 : Int32).toInt = 0 := rfl
  have e1 : (255 : Int32).toInt = 255 := rfl
  obtain ⟨k, hk⟩ : ∃ k : Nat, x.toInt = k := ⟨x.toInt.toNat, by omega⟩
  have hx : x = Int32.ofNat k := Int32.toInt_inj.mp (by rw [hk, Int32.toInt_ofNat_small (by omega)])
  rw [hx]
  exact t ⟨k, by omega⟩
end StrChars
namespace StrChars.Road
open Jvm Sem ClassFile Op Lib Jvm.Stand Jvm.Free Jvm.Free.XT
open Jvm.Lib.Cold (StaticIs)
abbrev ST : String := "java/lang/String"
/-- every table word that New1's law asks, flat -/
abbrev words : List Jvm.Cond := [.code New1.yN New1.yB 2 none, .initialized ST, .methodLink ST 27 New4.yN, .instanceMethod New4.yN,
  .code New4.yN New4.yB 6 none, .fieldLink ST 38 ST "COMPACT_STRINGS" "Z", .laysFinal ST ST "value" "[B", .fieldLink ST 9 ST "value" "[B", .laysFinal ST ST "coder" "B", .fieldLink ST 15 ST "coder" "B",
  .methodLink ST 1 Lib.objectInit, .instanceMethod Lib.objectInit, .code Lib.objectInit ⟨#[0xb1]⟩ 1 none, .methodLink ST 177 Cmp3.yN, .static Cmp3.yN, .methodLink ST 47 CodL.yN, .static CodL.yN,
  .code Cmp3.yN Cmp3.yB 6 (some (.array .byte)), .initialized U16, .arrayClass .byte, .methodLink U16 115 Cmp5.yN, .static Cmp5.yN, .code Cmp5.yN Cmp5.yB 7 (some .int), .code CodL.yN CodL.yB 2 (some .byte)]
theorem tab_of {a : Array Value} {s : State} (h : ∀ w ∈ words, w.before a s = true) : New1.tab.before a s = true := by
  have h5 : Cmp5.tab.before a s = true := unparts (wk h (.code Cmp5.yN Cmp5.yB 7 (some .int))) (wks h (.initialized Cmp5.yN.cls :: Cmp5.site))
  have hc : CodL.tab.before a s = true := unparts (wk h (.code CodL.yN CodL.yB 2 (some .byte))) (wks h (.initialized CodL.yN.cls :: CodL.site))
  have q5 : ∀ w ∈ Cmp5.tab :: words, w.before a s = true := fun w hw => (List.mem_cons.mp hw).elim (fun e => e ▸ h5) (h w)
  have h3 : Cmp3.tab.before a s = true := unparts (wk q5 (.code Cmp3.yN Cmp3.yB 6 (some (.array .byte)))) (wks q5 (.initialized Cmp3.yN.cls :: Cmp3.site))
  have q3 : ∀ w ∈ Cmp3.tab :: CodL.tab :: words, w.before a s = true := fun w hw => (List.mem_cons.mp hw).elim (fun e => e ▸ h3) fun hw => (List.mem_cons.mp hw).elim (fun e => e ▸ hc) (h w)
  have h4 : New4.tab.before a s = true := unparts (wk q3 (.code New4.yN New4.yB 6 none)) (wks q3 (.initialized New4.yN.cls :: New4.site))
  have q4 : ∀ w ∈ New4.tab :: words, w.before a s = true := fun w hw => (List.mem_cons.mp hw).elim (fun e => e ▸ h4) (h w)
  exact unparts (wk q4 (.code New1.yN New1.yB 2 none)) (wks q4 (.initialized New1.yN.cls :: New1.site))
/-- the words ride from the start Z to the walk's own state -/
theorem moved {Z s : State} {a0 args : Array Value} (hZ : Z.Warmed39 s.vm) (hw : ∀ d ∈ words, d.before a0 Z = true) : ∀ d ∈ words, d.before args s = true := fun d hd => by
  have q := hw d hd
  have t : ∀ d ∈ words, d = .arrayClass .byte ∨ (d.onTables && d.keepsFace) = true := by decide +kernel
  rcases t d hd with rfl | t
  · exact RoadKit.mvA hZ q
  · exact RoadKit.mv hZ q t
/-- WHAT COMES BACK, over the tables of the start Z: h the heap at the call, h' behind it -/
def Q (Z : State) (x : Addr) (A : Cell) (h : Heap) (v : Option Value) (h' : Heap) (L : List Loc) : Prop := v = none ∧ (∀ y ∈ L, y.base = x) ∧ RoadKit.Keep h h' [x] ∧ h'.size = h.size + 1 ∧ RoadKit.Exa Z h' x ST ∧ RoadKit.Fld Z h' x ST "value" "[B" (.ref h.size) ∧ RoadKit.Fld Z h' x ST "coder" "B" (.int 0) ∧
  (∃ V : Cell, RoadKit.Arr Z h' h.size V .byte ∧ V.vm = .none ∧ Z.vm.findClass "[B" = some V.cls ∧ V.slots.size = A.slots.size ∧ ∀ j, j < A.slots.size → V.slots[j]? = some (.int (lo8 (cv A j)))) ∧
  ∀ (O n d : String) (w : Value), RoadKit.Fld Z h x O n d w → RoadKit.slotOf Z O n d ≠ RoadKit.slotOf Z ST "value" "[B" → RoadKit.slotOf Z O n d ≠ RoadKit.slotOf Z ST "coder" "B" → RoadKit.Fld Z h' x O n d w
/-- **new String(chars) AT A CALL, IN THE ROAD'S FORM**: for specialBack behind newO: x the fresh String, b the char[] with the cell A -/
theorem back {p : Program} {l : Launch} {e : Env} {R : Room} {s : State} {args : Array Value} {below : List Frame} {len W : Nat} {Z : State} {a0 : Array Value} {h : Heap} (hZ : Z.Warmed39 s.vm) (hw : ∀ d ∈ words, d.before a0 Z = true) {kI : Nat} (wi : (Jvm.Cond.instantiable ST kI).before a0 Z = true)
    {x b : Addr} {A : Cell} {z : Int32} {v0 c0 : Value} (E : RoadKit.Exa Z h x ST) (V : RoadKit.Fld Z h x ST "value" "[B" v0) (C : RoadKit.Fld Z h x ST "coder" "B" c0) (K : RoadKit.Arr Z h b A .char) (hty : Typed .char A) (S : RoadKit.Sta Z h ST "COMPACT_STRINGS" "Z" (.int z)) (hz : ¬ z = 0)
    (l0 : 0 < A.slots.size) (l2 : A.slots.size ≤ 536870912) (hp : ∀ i, i < A.slots.size → ¬ 255 < cv A i) (hfr : 4 ≤ R.frames) (hlo : W + 65 ≤ R.locals) :
    Back l R p e below s args New1.yN len W (fun P a => a = #[.ref x, .ref b] ∧ P.U.heap = h ∧ P.cells + 1 ≤ R.cells ∧ P.slots + A.slots.size ≤ R.slots)
      (fun P _ v B => ∃ L, Q Z x A h v B.U.heap L ∧ B.locs = P.locs ++ L ∧ B.cells = P.cells + 1 ∧ B.slots = P.slots + A.slots.size) := by
  intro m meth c P g ig mk a X hg hsize hdg hW hn hp'
  obtain ⟨rfl, rfl, r1, r2⟩ := hp'
  have al : Z.vm.Alike P.U.vm := hZ.alike.trans X.warmed.alike
  obtain ⟨D, cfV, kV, iV, fV, hD, gV, stV, knV, obV, asV, slV⟩ := id V
  obtain ⟨D', cfC, kC, iC, fC, hD', gC, stC, -, -, asC, slC⟩ := id C
  cases hD.symm.trans hD'
  obtain ⟨D2, kD, e1, e2, e3, e4, e5⟩ := id E
  cases hD.symm.trans e1
  obtain ⟨c2, k2, i1, i2, i3, -⟩ := Cond.instantiable_spec wi
  cases e2.symm.trans i1
  cases e3.symm.trans i2
  obtain ⟨kU, u1, u2⟩ := al.2.2 _ _ e3
  have hB : Blank ST x D P.U := ⟨hD, ⟨knV, fun q hq => by rw [hq] at obV; cases obV⟩, by rw [al.findClass]; exact e2, kU, u1, by rw [u2]; exact i3, by rw [u2]; exact e5 i3⟩
  have F1 : Found ST "value" "[B" fV P.U := ⟨SBG.found_only al ⟨cfV, kV, iV, gV⟩, stV⟩
  have F2 : Found ST "coder" "B" fC P.U := ⟨SBG.found_only al ⟨cfC, kC, iC, gC⟩, stC⟩
  have hA : Ch b A P.U := ⟨⟨K.1, State.isArrayOf_alike al K.2.1, K.2.2, by omega⟩, hty⟩
  have hS : StaticIs P.U ST "COMPACT_STRINGS" "Z" (.int z) := by
    obtain ⟨cfS, iS, kS, fS, st, cS, t1, t2, t3, t4, t5, t6, t7⟩ := S
    exact StaticIs.there (s := { Z with heap := P.U.heap }) ⟨cfS, iS, kS, fS, st, cS, t1, t2, t3, t4, t5, (fun q => by rw [q] at t6; cases t6), t7⟩ al rfl
  obtain ⟨v, B, X', ⟨⟨hv, E', V', q1, q2, q3, q4, q5, q6, q7, q8, q9, q10, q11⟩, hl, hc, hs⟩, st⟩ := New1.pays x D fV fC b A z (tab_of (moved hZ hw)) hfr hlo m meth c P g ig mk _ X hg hsize hdg hW hn ⟨r1, r2, rfl, hB, F1, F2, hA, hS, hz, l0, l2, hp⟩
  have al' : Z.vm.Alike B.U.vm := hZ.alike.trans X'.warmed.alike
  have hsz : E'.slots.size = D.slots.size := by
    obtain ⟨-, -, -, kB, w1, w2, w3⟩ := q1
    obtain ⟨kB', y1, y2⟩ := al'.2.2 _ _ e3
    rw [q2.2.1] at w1
    cases w1.symm.trans y1
    rw [w3, e5 i3, y2]
  refine ⟨v, B, X', ⟨_, ⟨hv, ?_, ⟨by omega, fun y cy hy hn' => q10 y cy (by simpa using hn') hy, fun y cy hy => ?_⟩, q11, ⟨E', _, q1.1, by rw [q2.2.1]; exact e2, by rw [q2.2.1]; exact e3, by rw [q2.1]; exact obV, fun _ => by rw [hsz]; exact e5 i3⟩,
    ⟨E', cfV, kV, iV, fV, q1.1, gV, stV, by rw [q2.1]; exact knV, by rw [q2.1]; exact obV, by rw [q2.2.1]; exact asV, q3⟩, ⟨E', cfC, kC, iC, fC, q1.1, gC, stC, by rw [q2.1]; exact knV, by rw [q2.1]; exact obV, by rw [q2.2.1]; exact asC, q4⟩,
    ⟨V', ⟨q5.1, State.isArrayOf_alike al'.symm q5.2.1, q5.2.2.1⟩, q6, by rw [← al'.findClass]; exact q7, q8, fun j hj => by have := q9 j hj; rwa [Nat.zero_add] at this⟩, fun O n d w F n1 n2 => ?_⟩, hl, hc, hs⟩, st⟩
  · intro y hy
    simp only [List.mem_cons, List.not_mem_nil, or_false] at hy
    rcases hy with rfl | rfl <;> rfl
  · by_cases q : y = x
    · subst q
      cases hD.symm.trans hy
      exact ⟨E', q1.1, q2.2.1, q2.1, hsz⟩
    · exact ⟨cy, q10 y cy q hy, rfl, rfl, rfl⟩
  · obtain ⟨D3, cf, k, i, f, g1, g2, g3, g4, g5, g6, g7⟩ := F
    cases hD.symm.trans g1
    simp only [RoadKit.slotOf, g2, gV, gC, Option.map_some, Option.getD_some] at n1 n2
    exact ⟨E', cf, k, i, f, q1.1, g2, g3, by rw [q2.1]; exact g4, by rw [q2.1]; exact g5, by rw [q2.2.1]; exact g6, by rw [q2.2.2 f.slot (by simp [n1, n2])]; exact g7⟩
end StrChars.Road
namespace StrChars.Road
open Jvm Sem ClassFile Op Lib Jvm.Stand Jvm.Free Jvm.Free.XT
/-- WHAT COMES BACK, the byte[] as a list of values -/
def QA (Z : State) (x : Addr) (zn : Int32) (cs : List Int32) (h : Heap) (v : Option Value) (h' : Heap) (L : List Loc) : Prop := v = none ∧ (∀ y ∈ L, y.base = x) ∧ RoadKit.Keep h h' [x] ∧ h'.size = h.size + 1 ∧ RoadKit.Exa Z h' x ST ∧ RoadKit.Fld Z h' x ST "value" "[B" (.ref h.size) ∧ RoadKit.Fld Z h' x ST "coder" "B" (.int 0) ∧
  (∃ kb, Z.vm.findClass "[B" = some kb ∧ RoadKit.Arv Z h' h.size kb .byte zn (cs.map fun c => .int (lo8 c)) (.int 0)) ∧
  ∀ (O n d : String) (w : Value), RoadKit.Fld Z h x O n d w → RoadKit.slotOf Z O n d ≠ RoadKit.slotOf Z ST "value" "[B" → RoadKit.slotOf Z O n d ≠ RoadKit.slotOf Z ST "coder" "B" → RoadKit.Fld Z h' x O n d w
/-- **new String(chars) AT A CALL, THE ARRAYS AS LISTS**: the char[] at b holds cs, not empty, no char above 255 -/
theorem backArv {p : Program} {l : Launch} {e : Env} {R : Room} {s : State} {args : Array Value} {below : List Frame} {len W : Nat} {Z : State} {a0 : Array Value} {h : Heap} (hZ : Z.Warmed39 s.vm) (hw : ∀ d ∈ words, d.before a0 Z = true) {kI : Nat} (wi : (Jvm.Cond.instantiable ST kI).before a0 Z = true)
    {x b : Addr} {k : ClassId} {zn z : Int32} {cs : List Int32} {dv v0 c0 : Value} (E : RoadKit.Exa Z h x ST) (V : RoadKit.Fld Z h x ST "value" "[B" v0) (C : RoadKit.Fld Z h x ST "coder" "B" c0) (K : RoadKit.Arv Z h b k .char zn (cs.map Value.int) dv) (S : RoadKit.Sta Z h ST "COMPACT_STRINGS" "Z" (.int z)) (hz : ¬ z = 0)
    (hlen : zn.toNatClampNeg = cs.length) (h0 : 0 < cs.length) (hbig : cs.length ≤ 536870912) (hall : ∀ c ∈ cs, ¬ 255 < c) (hfr : 4 ≤ R.frames) (hlo : W + 65 ≤ R.locals) :
    Back l R p e below s args New1.yN len W (fun P a => a = #[.ref x, .ref b] ∧ P.U.heap = h ∧ P.cells + 1 ≤ R.cells ∧ P.slots + cs.length ≤ R.slots)
      (fun P _ v B => ∃ L, QA Z x zn cs h v B.U.heap L ∧ B.locs = P.locs ++ L ∧ B.cells = P.cells + 1 ∧ B.slots = P.slots + cs.length) := by
  obtain ⟨A, K1, K2, K3, K4, K5, K6⟩ := K
  have e : A.slots.size = cs.length := K3.trans hlen
  have hat : ∀ (i : Nat) (hi : i < cs.length), A.slots[i]? = some (.int cs[i]) := fun i hi => by rw [K5 i (by omega)]; simp [List.getD_eq_getElem?_getD, hi]
  have hcv : ∀ (i : Nat) (hi : i < cs.length), cv A i = cs[i] := fun i hi => by unfold cv; rw [hat i hi]
  have hty : Typed .char A := fun i v hv => by
    have hi : i < A.slots.size := (Array.getElem?_eq_some_iff.mp hv).1
    have q := K5 i hi
    rw [hv] at q
    rw [Option.some.inj q]
    exact K6 i hi
  refine Back.mono (back hZ hw wi E V C K1 hty S hz (by omega) (by omega) (fun i hi => by rw [hcv i (by omega)]; exact hall _ (List.getElem_mem _)) hfr hlo) (fun P a hp => ⟨hp.1, hp.2.1, hp.2.2.1, by rw [e]; exact hp.2.2.2⟩) (fun P a v B hp hq => ?_)
  obtain ⟨L, ⟨q1, q2, q3, q4, q5, q6, q7, ⟨V', v1, v2, v3, v4, v5⟩, q9⟩, hl, hc, hs⟩ := hq
  refine ⟨L, ⟨q1, q2, q3, q4, q5, q6, q7, ⟨V'.cls, v3, V', v1, rfl, by rw [v4, e, hlen], K4, fun i hi => ?_, fun i hi => ?_⟩, q9⟩, hl, hc, by rw [hs, e]⟩
  · have hi' : i < cs.length := by omega
    rw [v5 i (by omega), hcv i hi']; simp [List.getD_eq_getElem?_getD, hi']
  · have hi' : i < cs.length := by omega
    simp only [List.getD_eq_getElem?_getD, List.getElem?_map, List.getElem?_eq_getElem hi', Option.map_some, Option.getD_some]
    exact fits_lo8 _
end StrChars.Road
namespace StrChars.Road
open Jvm Sem ClassFile Op Lib Jvm.Stand Jvm.Free Jvm.Free.XT
/-- WHAT COMES BACK, in the writer's own shape -/
def QV (Z : State) (x : Addr) (N : Int32) (bs : List Int32) (h : Heap) (n0 : Nat) (v : Option Value) (h' : Heap) (L : List Loc) : Prop := v = none ∧ RoadKit.Fr n0 L ∧ RoadKit.Keep h h' [x] ∧ RoadKit.Exa Z h' x ST ∧ RoadKit.Fld Z h' x ST "coder" "B" (.int 0) ∧
  ∃ (t : Addr) (kb : ClassId), n0 ≤ t ∧ h.size ≤ t ∧ ¬ t = x ∧ RoadKit.Fld Z h' x ST "value" "[B" (.ref t) ∧ RoadKit.Arv Z h' t kb .byte N (bs.map Value.int) (.int 0)
/-- **new String(chars) AT A CALL, FOR THE WRITER**: a char[] of n known ints, each 0 to 255 -/
theorem backV {p : Program} {l : Launch} {e : Env} {R : Room} {s : State} {args : Array Value} {below : List Frame} {len W : Nat} {Z : State} {a0 : Array Value} {h : Heap} (hZ : Z.Warmed39 s.vm) (hw : ∀ d ∈ words, d.before a0 Z = true) {kI : Nat} (wi : (Jvm.Cond.instantiable ST kI).before a0 Z = true)
    {x b : Addr} {kC : ClassId} {cs bs : List Int32} {d v0 c0 : Value} {z N : Int32} {n n0 : Nat} (hx0 : n0 ≤ x) (hh0 : n0 ≤ h.size) (E : RoadKit.Exa Z h x ST) (V : RoadKit.Fld Z h x ST "value" "[B" v0) (C : RoadKit.Fld Z h x ST "coder" "B" c0) (K : RoadKit.Arv Z h b kC .char N (cs.map Value.int) d) (S : RoadKit.Sta Z h ST "COMPACT_STRINGS" "Z" (.int z)) (hz : ¬ z = 0)
    (hn : cs.length = n) (hN : N = Int32.ofNat n) (l0 : 0 < n) (l2 : n ≤ 4000) (hp : ∀ c ∈ cs, ¬ c < 0 ∧ ¬ (255 : Int32) < c) (hb : bs = cs.map (fun c => c.toInt8.toInt32)) (hfr : 4 ≤ R.frames) (hlo : W + 65 ≤ R.locals) :
    Back l R p e below s args (⟨"java/lang/String", "<init>", "([C)V"⟩ : MethodName) len W (fun P a => a = #[.ref x, .ref b] ∧ P.U.heap = h ∧ P.cells + 1 ≤ R.cells ∧ P.slots + n ≤ R.slots)
      (fun P _ v B => ∃ L, QV Z x N bs h n0 v B.U.heap L ∧ B.locs = P.locs ++ L ∧ B.cells = P.cells + 1 ∧ B.slots = P.slots + n) := by
  subst hn hN hb
  refine Back.mono (backArv hZ hw wi E V C K S hz (n32 (by omega)) l0 (by omega) (fun c hc => (hp c hc).2) hfr hlo) (fun P a hp => hp) (fun P a v B hp hq => ?_)
  obtain ⟨L, ⟨q1, q2, q3, q4, q5, q6, q7, ⟨kb, v1, v2⟩, q9⟩, hl, hc, hs⟩ := hq
  exact ⟨L, ⟨q1, fun y hy => by rw [q2 y hy]; exact hx0, q3, q5, q7, h.size, kb, hh0, Nat.le_refl _, Nat.ne_of_gt E.lt, q6, by rw [List.map_map]; exact v2⟩, hl, hc, hs⟩
end StrChars.Road
namespace StrChars
open Jvm Sem ClassFile Op Lib Jvm.Stand Jvm.Free.XT Jvm.Free.ALB Jvm.Free.JM Jvm.Free
open Jvm.Lib.Cold (StaticIs)
def hi8 (x : Int32) : Int32 := lo8 (x >>> ((8 : Int32) &&& 31))
/-- what StringUTF16.getChar makes of two bytes -/
def pairCh (u v : Int32) : Int32 := (((u &&& 255) <<< ((0 : Int32) &&& 31)) ||| ((v &&& 255) <<< ((8 : Int32) &&& 31))).toUInt32.toUInt16.toUInt32.toInt32
theorem lo8_and (x : Int32) : (lo8 x &&& 255).toBitVec.toNat = x.toBitVec.toNat % 256 := by
  have h : (lo8 x).toBitVec = (x.toBitVec.signExtend 8).signExtend 32 := by rw [lo8, Int8.toBitVec_toInt32, Int32.toBitVec_toInt8]
  rw [Int32.toBitVec_and, BitVec.toNat_and, h]
  have e : ((x.toBitVec.signExtend 8).signExtend 32).toNat % 256 = x.toBitVec.toNat % 256 := by
    rw [BitVec.toNat_signExtend]
    have hlt := x.toBitVec.isLt
    simp only [BitVec.toNat_setWidth, BitVec.toNat_signExtend]
    split <;> split <;> omega
  rw [← e]
  exact Nat.and_two_pow_sub_one_eq_mod _ 8
theorem pair_says {c : Int32} (h0 : ¬ c < 0) (h1 : ¬ 65535 < c) : pairCh (lo8 c) (hi8 c) = c := by
  rw [Int32.lt_iff_toInt_lt] at h0 h1
  have e0 : (0 : Int32).toInt = 0 := rfl
  have e1 : (65535 : Int32).toInt = 65535 := rfl
  have hc : c.toInt = c.toBitVec.toNat := by
    have := c.toBitVec.isLt
    have e : c.toInt = c.toBitVec.toInt := rfl
    rw [e] at h0 h1
    rw [e]
    rw [BitVec.toInt_eq_toNat_cond] at h0 h1 ⊢
    split at h0 <;> split <;> omega
  have hn : c.toBitVec.toNat < 65536 := by omega
  have a1 := lo8_and c
  have a2 : (hi8 c &&& 255).toBitVec.toNat = c.toBitVec.toNat / 256 := by
    rw [hi8, lo8_and]
    have e : ((8 : Int32) &&& 31) = 8 := by decide
    rw [e, Int32.toBitVec_shiftRight]
    have e2 : ((8 : Int32).toBitVec.smod 32) = 8#32 := by decide
    rw [e2, BitVec.sshiftRight_eq', BitVec.toNat_sshiftRight_of_msb_false (by rw [BitVec.msb_eq_false_iff_two_mul_lt]; omega)]
    show c.toBitVec.toNat >>> 8 % 256 = _
    rw [Nat.shiftRight_eq_div_pow]
    omega
  unfold pairCh
  apply Int32.toBitVec_inj.mp
  apply BitVec.eq_of_toNat_eq
  have f0 : ((0 : Int32) &&& 31) = 0 := by decide
  have f8 : ((8 : Int32) &&& 31) = 8 := by decide
  rw [f0, f8]
  have g : (((lo8 c &&& 255) <<< (0 : Int32)) ||| ((hi8 c &&& 255) <<< (8 : Int32))).toBitVec.toNat = c.toBitVec.toNat := by
    rw [Int32.toBitVec_or, Int32.toBitVec_shiftLeft, Int32.toBitVec_shiftLeft]
    have s0 : ((0 : Int32).toBitVec.smod 32) = 0#32 := by decide
    have s8 : ((8 : Int32).toBitVec.smod 32) = 8#32 := by decide
    rw [s0, s8, BitVec.toNat_or]
    simp only [BitVec.shiftLeft_eq', BitVec.toNat_shiftLeft, a1, a2]
    show (c.toBitVec.toNat % 256) <<< 0 % 2 ^ 32 ||| (c.toBitVec.toNat / 256) <<< 8 % 2 ^ 32 = _
    rw [Nat.shiftLeft_zero, Nat.mod_eq_of_lt (show c.toBitVec.toNat % 256 < 2 ^ 32 by omega), Nat.mod_eq_of_lt (show (c.toBitVec.toNat / 256) <<< 8 < 2 ^ 32 by rw [Nat.shiftLeft_eq]; omega), Nat.or_comm, ← Nat.shiftLeft_add_eq_or_of_lt (by omega), Nat.shiftLeft_eq]
    omega
  show BitVec.toNat (((((lo8 c &&& 255) <<< (0 : Int32)) ||| ((hi8 c &&& 255) <<< (8 : Int32))).toBitVec.setWidth 16).setWidth 32) = _
  rw [BitVec.toNat_setWidth, BitVec.toNat_setWidth, g]
  omega
end StrChars
namespace StrChars
open Jvm Sem ClassFile Op Lib Jvm.Stand Jvm.Free.XT Jvm.Free.ALB Jvm.Free.JM Jvm.Free
open Jvm.Lib.Cold (StaticIs)
/-- the array's cell V codes the n chars f 0 .. f (n - 1) by the coder cd, as the JDK does: coder 1 just where some char is above 255 -/
def Cod (cd : Int32) (n : Nat) (f : Nat → Int32) (V : Cell) : Prop := (cd = 0 ∧ V.slots.size = n ∧ ∀ j, j < n → V.slots[j]? = some (.int (lo8 (f j))) ∧ ¬ 255 < f j) ∨ (cd = 1 ∧ V.slots.size = 2 * n ∧ (∀ j, j < n → V.slots[2 * j]? = some (.int (lo8 (f j))) ∧ V.slots[2 * j + 1]? = some (.int (hi8 (f j)))) ∧ ∃ j, j < n ∧ 255 < f j)
/-- **x is a String of the n chars f 0 .. f (n - 1)**, Latin-1 or UTF-16; its array at t has the cell V -/
def Txt (x t : Addr) (V : Cell) (cd : Int32) (n : Nat) (f : Nat → Int32) (U : State) : Prop := Exact "java/lang/String" x U ∧ Has x "java/lang/String" "value" "[B" (.ref t) U ∧ Has x "java/lang/String" "coder" "B" (.int cd) U ∧ XT.Arr .byte t V U ∧ Cod cd n f V ∧ ∀ j, j < n → ¬ f j < 0 ∧ ¬ 65535 < f j
theorem Txt.mv {x t : Addr} {V : Cell} {cd : Int32} {n : Nat} {f : Nat → Int32} {U U' : State} (h : Txt x t V cd n f U) (hal : U.vm.Alike U'.vm) (hh : U'.heap = U.heap) : Txt x t V cd n f U' := ⟨h.1.mv hal hh, h.2.1.mv hal hh, h.2.2.1.mv hal hh, h.2.2.2.1.mv hal hh, h.2.2.2.2⟩
end StrChars
namespace StrChars.Road
open Jvm Sem ClassFile Op Lib Jvm.Stand Jvm.Free Jvm.Free.XT
open Jvm.Lib.Cold (StaticIs)
theorem consq {a : Array Value} {s : State} {c : Jvm.Cond} {L : List Jvm.Cond} (h0 : c.before a s = true) (h : ∀ w ∈ L, w.before a s = true) : ∀ w ∈ c :: L, w.before a s = true := fun w hw => (List.mem_cons.mp hw).elim (fun e => e ▸ h0) (h w)
/-- the bytes of the chars cs, low before high -/
def wideBytes : List Int32 → List Value
  | [] => []
  | c :: cs => .int (lo8 c) :: .int (hi8 c) :: wideBytes cs
theorem wide_lo (d : Value) : ∀ (cs : List Int32) (j : Nat), j < cs.length → (wideBytes cs).getD (2 * j) d = .int (lo8 (cs.getD j 0))
  | [], j, h => absurd h (Nat.not_lt_zero j)
  | c :: cs, 0, _ => rfl
  | c :: cs, j + 1, h => by
    have q := wide_lo d cs j (by simpa using h)
    rw [show 2 * (j + 1) = 2 * j + 1 + 1 from by omega]
    simpa [wideBytes] using q
theorem wide_hi (d : Value) : ∀ (cs : List Int32) (j : Nat), j < cs.length → (wideBytes cs).getD (2 * j + 1) d = .int (hi8 (cs.getD j 0))
  | [], j, h => absurd h (Nat.not_lt_zero j)
  | c :: cs, 0, _ => rfl
  | c :: cs, j + 1, h => by
    have q := wide_hi d cs j (by simpa using h)
    rw [show 2 * (j + 1) + 1 = 2 * j + 1 + 1 + 1 from by omega]
    simpa [wideBytes] using q
theorem low_at (d : Value) (cs : List Int32) (j : Nat) (h : j < cs.length) : (cs.map fun c => Value.int (lo8 c)).getD j d = .int (lo8 (cs.getD j 0)) := by
  simp [List.getD_eq_getElem?_getD, h]
/-- an array of N2 bytes vs codes the chars cs by the coder cd -/
def CodA (cs : List Int32) (cd N2 : Int32) (vs : List Value) : Prop := (cd = 0 ∧ N2 = Int32.ofNat cs.length ∧ vs = (cs.map fun c => Value.int (lo8 c)) ∧ ∀ c ∈ cs, ¬ 255 < c) ∨ (cd = 1 ∧ N2 = Int32.ofNat (2 * cs.length) ∧ vs = wideBytes cs ∧ ∃ c ∈ cs, 255 < c)
theorem CodA.cod {cs : List Int32} {cd N2 : Int32} {vs : List Value} {V : Cell} (h : CodA cs cd N2 vs) (hn : 2 * cs.length < 2 ^ 31) (hs : V.slots.size = N2.toNatClampNeg) (hv : RoadKit.Has V vs (.int 0)) : Cod cd cs.length (fun j => cs.getD j 0) V := by
  rcases h with ⟨rfl, rfl, rfl, h⟩ | ⟨rfl, rfl, rfl, c, hc, hw⟩
  · rw [n32 (by omega)] at hs
    exact Or.inl ⟨rfl, hs, fun j hj => ⟨by rw [hv j (by omega), low_at _ _ _ hj], by
      have e : cs.getD j 0 = cs[j] := by simp [List.getD_eq_getElem?_getD, hj]
      show ¬ 255 < cs.getD j 0
      rw [e]; exact h _ (List.getElem_mem _)⟩⟩
  · rw [n32 (by omega)] at hs
    obtain ⟨j, hj, rfl⟩ := List.getElem_of_mem hc
    exact Or.inr ⟨rfl, hs, fun j hj => ⟨by rw [hv _ (by omega), wide_lo _ _ _ hj], by rw [hv _ (by omega), wide_hi _ _ _ hj]⟩, j, hj, by
      have e : cs.getD j 0 = cs[j] := by simp [List.getD_eq_getElem?_getD, hj]
      show 255 < cs.getD j 0
      rw [e]; exact hw⟩
/-- an object of exactly java/lang/String, its two fields found: as the laws ask it -/
theorem strObj {Z U : State} {a0 : Array Value} {kI : Nat} (wi : (Jvm.Cond.instantiable ST kI).before a0 Z = true) (al : Z.vm.Alike U.vm) {x : Addr} {v0 c0 : Value} (E : RoadKit.Exa Z U.heap x ST) (V : RoadKit.Fld Z U.heap x ST "value" "[B" v0) (C : RoadKit.Fld Z U.heap x ST "coder" "B" c0) :
    ∃ (D : Cell) (fV fC : Field), Blank ST x D U ∧ Found ST "value" "[B" fV U ∧ Found ST "coder" "B" fC U ∧ D.slots[fV.slot]? = some v0 ∧ D.slots[fC.slot]? = some c0 ∧ RoadKit.slotOf Z ST "value" "[B" = fV.slot ∧ RoadKit.slotOf Z ST "coder" "B" = fC.slot := by
  obtain ⟨D, cfV, kV, iV, fV, hD, gV, stV, knV, obV, asV, slV⟩ := V
  obtain ⟨D', cfC, kC, iC, fC, hD', gC, stC, -, -, asC, slC⟩ := C
  cases hD.symm.trans hD'
  obtain ⟨D2, kD, e1, e2, e3, e4, e5⟩ := E
  cases hD.symm.trans e1
  obtain ⟨c2, k2, i1, i2, i3, -⟩ := Cond.instantiable_spec wi
  cases e2.symm.trans i1
  cases e3.symm.trans i2
  obtain ⟨kU, u1, u2⟩ := al.2.2 _ _ e3
  exact ⟨D, fV, fC, ⟨hD, ⟨knV, fun q hq => by rw [hq] at obV; cases obV⟩, by rw [al.findClass]; exact e2, kU, u1, by rw [u2]; exact i3, by rw [u2]; exact e5 i3⟩, ⟨SBG.found_only al ⟨cfV, kV, iV, gV⟩, stV⟩, ⟨SBG.found_only al ⟨cfC, kC, iC, gC⟩, stC⟩, slV, slC, by simp [RoadKit.slotOf, gV], by simp [RoadKit.slotOf, gC]⟩
theorem sta_is {Z U : State} (al : Z.vm.Alike U.vm) {C n d : String} {v : Value} (S : RoadKit.Sta Z U.heap C n d v) : StaticIs U C n d v := by
  obtain ⟨cfS, iS, kS, fS, st, cS, t1, t2, t3, t4, t5, t6, t7⟩ := S
  exact StaticIs.there (s := { Z with heap := U.heap }) ⟨cfS, iS, kS, fS, st, cS, t1, t2, t3, t4, t5, (fun q => by rw [q] at t6; cases t6), t7⟩ al rfl
end StrChars.Road
namespace StrChars
open Jvm Sem ClassFile Op Lib Jvm.Stand Jvm.Free.XT Jvm.Free.ALB Jvm.Free.JM Jvm.Free
open Jvm.Lib.Cold (StaticIs)
/-- what place i of a byte[]'s cell holds -/
def yv (A : Cell) (i : Nat) : Int32 := match A.slots[i]? with | some (.int x) => x | _ => 0
theorem yv_get {a : Addr} {A : Cell} {U : State} (h : XT.Arr .byte a A U) (ht : Typed .byte A) {i : Nat} (hi : i < A.slots.size) : A.slots[i]? = some (.int (yv A i)) := by
  have e := Array.getElem?_eq_getElem hi
  have f := ht i _ e
  unfold yv; rw [e]
  generalize A.slots[i] = v at f
  cases v <;> simp [fits] at f ⊢
/-- the two arrays are equal, place for place -/
def EqC (A B : Cell) : Prop := A.slots.size = B.slots.size ∧ ∀ i, i < A.slots.size → yv A i = yv B i
/-- a boolean that says whether p -/
def Says01 (q : Prop) (r : Option Value) (s u : State) : Prop := ∃ v : Int32, r = some (.int v) ∧ u.heap = s.heap ∧ ((v = 1 ∧ q) ∨ (v = 0 ∧ ¬ q))
theorem Says01.mv {q : Prop} : ∀ r (U U' V V' : State), U'.heap = U.heap → V.vm.Alike V'.vm → V'.heap = V.heap → Says01 q r U V → Says01 q r U' V' :=
  fun r U U' V V' h1 _ h2 ⟨v, a, b, c⟩ => ⟨v, a, by rw [h1, h2]; exact b, c⟩
namespace LEq
def yN : MethodName := ⟨"java/lang/StringLatin1", "equals", "([B[B)Z"⟩
abbrev yB : ByteArray := jdk_43_method_13_code
theorem d0 : decode yB 0 = .ok (.aload_n 0, 1) := by decide +kernel
theorem d1 : decode yB 1 = .ok (.arraylength, 1) := by decide +kernel
theorem d2 : decode yB 2 = .ok (.aload_n 1, 1) := by decide +kernel
theorem d3 : decode yB 3 = .ok (.arraylength, 1) := by decide +kernel
theorem d4 : decode yB 4 = .ok (.if_icmp (.ne) 30, 3) := by decide +kernel
theorem d7 : decode yB 7 = .ok (.iconst 0, 1) := by decide +kernel
theorem d8 : decode yB 8 = .ok (.istore_n 2, 1) := by decide +kernel
theorem d9 : decode yB 9 = .ok (.iload_n 2, 1) := by decide +kernel
theorem d10 : decode yB 10 = .ok (.aload_n 0, 1) := by decide +kernel
theorem d11 : decode yB 11 = .ok (.arraylength, 1) := by decide +kernel
theorem d12 : decode yB 12 = .ok (.if_icmp (.ge) 20, 3) := by decide +kernel
theorem d15 : decode yB 15 = .ok (.aload_n 0, 1) := by decide +kernel
theorem d16 : decode yB 16 = .ok (.iload_n 2, 1) := by decide +kernel
theorem d17 : decode yB 17 = .ok (.baload, 1) := by decide +kernel
theorem d18 : decode yB 18 = .ok (.aload_n 1, 1) := by decide +kernel
theorem d19 : decode yB 19 = .ok (.iload_n 2, 1) := by decide +kernel
theorem d20 : decode yB 20 = .ok (.baload, 1) := by decide +kernel
theorem d21 : decode yB 21 = .ok (.if_icmp (.eq) 5, 3) := by decide +kernel
theorem d24 : decode yB 24 = .ok (.iconst 0, 1) := by decide +kernel
theorem d25 : decode yB 25 = .ok (.ireturn, 1) := by decide +kernel
theorem d26 : decode yB 26 = .ok (.iinc 2 1, 3) := by decide +kernel
theorem d29 : decode yB 29 = .ok (.goto (-20), 3) := by decide +kernel
theorem d32 : decode yB 32 = .ok (.iconst 1, 1) := by decide +kernel
theorem d33 : decode yB 33 = .ok (.ireturn, 1) := by decide +kernel
theorem d34 : decode yB 34 = .ok (.iconst 0, 1) := by decide +kernel
theorem d35 : decode yB 35 = .ok (.ireturn, 1) := by decide +kernel
def site : List Cond := []
def tab : Cond := tabOf yN yB 3 (some .boolean) site
def P (a : Addr) (A : Cell) (b : Addr) (B : Cell) (args : Array Value) (s : State) : Prop := args = #[.ref a, .ref b] ∧ XT.Arr .byte a A s ∧ Typed .byte A ∧ XT.Arr .byte b B s ∧ Typed .byte B
/-- whether two byte[] are equal, place for place -/
theorem law (l : Launch) (a : Addr) (A : Cell) (b : Addr) (B : Cell) : Law l yN 2 2 0 0 yB 3 (some .boolean) site (P a A b B) (Says01 (EqC A B)) [] 0 0 := by
  refine Law.of_walk (plainFor_of_name (by decide +kernel)) (by decide +kernel) (by decide +kernel) (by decide) (fun _ _ h => by rw [h.1]; rfl) (fun _ U U' hal hh h => ⟨h.1, h.2.1.mv hal hh, h.2.2.1, h.2.2.2.1.mv hal hh, h.2.2.2.2⟩) (fun r U U' V V' h1 hal h2 h => Says01.mv r U U' V V' h1 hal h2 h) ?_
  intro p e s m args below meth c s₁ X0 hexec hbytes hml hret hlk hnm hown hh0 W hP
  obtain ⟨rfl, hA, tA, hB, tB⟩ := hP
  have a31 := hA.2.2.2
  have b31 := hB.2.2.2
  have hA0 := hA.mv X0.warmed.alike hh0
  have hB0 := hB.mv X0.warmed.alike hh0
  have c1 : Steps p.tables e below (s₁.setTop (entryFrame m #[.ref a, .ref b] 3)) (s₁.setTop (mkF m 0 #[.val (.ref a), .val (.ref b), .unset] [])) := entry rfl
  have c2 : Steps p.tables e below (s₁.setTop (entryFrame m #[.ref a, .ref b] 3)) (s₁.setTop (mkF m 4 #[.val (.ref a), .val (.ref b), .unset] [.int (Int32.ofNat B.slots.size), .int (Int32.ofNat A.slots.size)])) := c1.trans (by
    refine XS.aloadN X0.here hexec rfl (hb hbytes d0) rfl rfl ?_
    refine X0.alen hexec hA0 rfl rfl (hb hbytes d1) ?_
    refine XS.aloadN X0.here hexec rfl (hb hbytes d2) rfl rfl ?_
    refine X0.alen hexec hB0 rfl rfl (hb hbytes d3) ?_
    exact Steps.refl _)
  by_cases hs : A.slots.size = B.slots.size
  · have c3 : Steps p.tables e below (s₁.setTop (entryFrame m #[.ref a, .ref b] 3)) (s₁.setTop (mkF m 9 #[.val (.ref a), .val (.ref b), .val (.int 0)] [])) := c2.trans (by
      refine XS.icmpNo X0.here hexec rfl (hb hbytes d4) rfl (ii_ne_f (by rw [hs])) ?_
      refine iconstV X0.here hexec rfl 0 (hb hbytes d7) (by decide) ?_
      refine XS.istoreN X0.here hexec rfl (hb hbytes d8) rfl rfl ?_
      exact Steps.refl _)
    have loop : ∀ (r i : Nat), i + r = A.slots.size → (∀ j, j < i → yv A j = yv B j) → Steps p.tables e below (s₁.setTop (entryFrame m #[.ref a, .ref b] 3)) (s₁.setTop (mkF m 9 #[.val (.ref a), .val (.ref b), .val (.int (Int32.ofNat i))] [])) → ∃ (pc : Nat) (Ls : Array Slot) (v : Int32), (pc = 25 ∨ pc = 33) ∧ ((v = 1 ∧ EqC A B) ∨ (v = 0 ∧ ¬ EqC A B)) ∧ Steps p.tables e below (s₁.setTop (entryFrame m #[.ref a, .ref b] 3)) (s₁.setTop (mkF m pc Ls [.int v])) := by
      intro r
      induction r with
      | zero =>
        intro i hi he cl
        exact ⟨33, _, 1, Or.inr rfl, Or.inl ⟨rfl, hs, fun j hj => he j (by omega)⟩, cl.trans (by
          refine XS.iloadN X0.here hexec rfl (hb hbytes d9) rfl ?_
          refine XS.aloadN X0.here hexec rfl (hb hbytes d10) rfl rfl ?_
          refine X0.alen hexec hA0 rfl rfl (hb hbytes d11) ?_
          refine XS.icmpYes X0.here hexec rfl (pc0 := 12) rfl (hb hbytes d12) rfl (ii_ge_t (nlt32 (by omega) (by omega))) (by decide) rfl ?_
          refine iconstV X0.here hexec rfl 1 (hb hbytes d32) (by decide) ?_
          exact Steps.refl _)⟩
      | succ r ih =>
        intro i hi he cl
        have c4 : Steps p.tables e below (s₁.setTop (entryFrame m #[.ref a, .ref b] 3)) (s₁.setTop (mkF m 21 #[.val (.ref a), .val (.ref b), .val (.int (Int32.ofNat i))] [.int (yv B i), .int (yv A i)])) := cl.trans (by
          refine XS.iloadN X0.here hexec rfl (hb hbytes d9) rfl ?_
          refine XS.aloadN X0.here hexec rfl (hb hbytes d10) rfl rfl ?_
          refine X0.alen hexec hA0 rfl rfl (hb hbytes d11) ?_
          refine XS.icmpNo X0.here hexec rfl (hb hbytes d12) rfl (ii_ge_f (lt32 (by omega) (by omega))) ?_
          refine XS.aloadN X0.here hexec rfl (hb hbytes d15) rfl rfl ?_
          refine XS.iloadN X0.here hexec rfl (hb hbytes d16) rfl ?_
          refine X0.aget hexec hA0 rfl (yv_get hA tA (i := i) (by omega)) rfl rfl (hb hbytes d17) ?_
          refine XS.aloadN X0.here hexec rfl (hb hbytes d18) rfl rfl ?_
          refine XS.iloadN X0.here hexec rfl (hb hbytes d19) rfl ?_
          refine X0.aget hexec hB0 rfl (yv_get hB tB (i := i) (by omega)) rfl rfl (hb hbytes d20) ?_
          exact Steps.refl _)
        by_cases hv : yv A i = yv B i
        · have c5 : Steps p.tables e below (s₁.setTop (entryFrame m #[.ref a, .ref b] 3)) (s₁.setTop (mkF m 9 #[.val (.ref a), .val (.ref b), .val (.int (Int32.ofNat i + 1))] [])) := c4.trans (by
            refine XS.icmpYes X0.here hexec rfl (pc0 := 21) rfl (hb hbytes d21) rfl (ii_eq_t hv) (by decide) rfl ?_
            refine iincV X0.here hexec rfl 1 (hb hbytes d26) (by decide) rfl rfl ?_
            refine XS.goto X0.here hexec rfl (pc0 := 29) rfl (hb hbytes d29) (by decide) rfl ?_
            exact Steps.refl _)
          rw [succ32] at c5
          exact ih (i + 1) (by omega) (fun j hj => by
            by_cases e : j = i
            · rw [e]; exact hv
            · exact he j (by omega)) c5
        · exact ⟨25, _, 0, Or.inl rfl, Or.inr ⟨rfl, fun q => hv (q.2 i (by omega))⟩, c4.trans (by
            refine XS.icmpNo X0.here hexec rfl (hb hbytes d21) rfl (ii_eq_f hv) ?_
            refine iconstV X0.here hexec rfl 0 (hb hbytes d24) (by decide) ?_
            exact Steps.refl _)⟩
    obtain ⟨pc, Ls, v, hpc, hv, cz⟩ := loop A.slots.size 0 (by omega) (fun j hj => absurd hj (Nat.not_lt_zero j)) c3
    have nv : narrow .boolean (.int v) = .int v := by rcases hv with ⟨rfl, -⟩ | ⟨rfl, -⟩ <;> rfl
    rcases hpc with rfl | rfl
    · exact ⟨s₁, some (.int v), _, _, _, X0, rfl, rfl, rfl, (fun h => by cases h), ⟨v, rfl, hh0, hv⟩, fun fs hl => cz.trans (X0.ireturnOut hexec hret nv (Or.inr (Or.inl rfl)) (hb hbytes d25) hl)⟩
    · exact ⟨s₁, some (.int v), _, _, _, X0, rfl, rfl, rfl, (fun h => by cases h), ⟨v, rfl, hh0, hv⟩, fun fs hl => cz.trans (X0.ireturnOut hexec hret nv (Or.inr (Or.inl rfl)) (hb hbytes d33) hl)⟩
  · have c3 : Steps p.tables e below (s₁.setTop (entryFrame m #[.ref a, .ref b] 3)) (s₁.setTop (mkF m 35 #[.val (.ref a), .val (.ref b), .unset] [.int 0])) := c2.trans (by
      refine XS.icmpYes X0.here hexec rfl (pc0 := 4) rfl (hb hbytes d4) rfl (ii_ne_t (ne32 a31 b31 hs)) (by decide) rfl ?_
      refine iconstV X0.here hexec rfl 0 (hb hbytes d34) (by decide) ?_
      exact Steps.refl _)
    exact ⟨s₁, some (.int 0), _, _, _, X0, rfl, rfl, rfl, (fun h => by cases h), ⟨0, rfl, hh0, Or.inr ⟨rfl, fun q => hs q.1⟩⟩, fun fs hl => c3.trans (X0.ireturnOut hexec hret rfl (Or.inr (Or.inl rfl)) (hb hbytes d35) hl)⟩
end LEq
theorem Cod.ty {cd : Int32} {n : Nat} {f : Nat → Int32} {V : Cell} (h : Cod cd n f V) : Typed .byte V := fun i v hv => by
  have hi : i < V.slots.size := (Array.getElem?_eq_some_iff.mp hv).1
  rcases h with ⟨-, k1, k2⟩ | ⟨-, k1, k2, -⟩
  · rw [(k2 i (by omega)).1] at hv; cases hv; exact fits_lo8 _
  · rcases Nat.mod_two_eq_zero_or_one i with e | e
    · obtain ⟨j, rfl⟩ : ∃ j, i = 2 * j := ⟨i / 2, by omega⟩
      rw [(k2 j (by omega)).1] at hv; cases hv; exact fits_lo8 _
    · obtain ⟨j, rfl⟩ : ∃ j, i = 2 * j + 1 := ⟨i / 2, by omega⟩
      rw [(k2 j (by omega)).2] at hv; cases hv; exact fits_lo8 _
/-- the same text -/
def SameT (n : Nat) (f : Nat → Int32) (k : Nat) (g : Nat → Int32) : Prop := n = k ∧ ∀ j, j < n → f j = g j
theorem lo8_inj {x y : Int32} (h0 : ¬ x < 0) (h1 : ¬ 255 < x) (k0 : ¬ y < 0) (k1 : ¬ 255 < y) (h : lo8 x = lo8 y) : x = y := by
  rw [← lo8_mask h0 h1, ← lo8_mask k0 k1, h]
/-- arrays coded by one coder are equal just where the texts are -/
theorem Cod.eqv {cd : Int32} {n k : Nat} {f g : Nat → Int32} {V V' : Cell} (h : Cod cd n f V) (h' : Cod cd k g V') (hf : ∀ j, j < n → ¬ f j < 0 ∧ ¬ 65535 < f j) (hg : ∀ j, j < k → ¬ g j < 0 ∧ ¬ 65535 < g j) : EqC V V' ↔ SameT n f k g := by
  have yvv : ∀ {W : Cell} {i : Nat} {x : Int32}, W.slots[i]? = some (.int x) → yv W i = x := fun q => by unfold yv; rw [q]
  rcases h with ⟨rfl, k1, k2⟩ | ⟨rfl, k1, k2, -⟩
  · rcases h' with ⟨-, m1, m2⟩ | ⟨e, -⟩
    · constructor
      · rintro ⟨e1, e2⟩
        refine ⟨by omega, fun j hj => ?_⟩
        have q := e2 j (by omega)
        rw [yvv (k2 j hj).1, yvv (m2 j (by omega)).1] at q
        exact lo8_inj (hf j hj).1 (k2 j hj).2 (hg j (by omega)).1 (m2 j (by omega)).2 q
      · rintro ⟨rfl, e2⟩
        refine ⟨by omega, fun j hj => ?_⟩
        rw [yvv (k2 j (by omega)).1, yvv (m2 j (by omega)).1, e2 j (by omega)]
    · exact absurd e (by decide)
  · rcases h' with ⟨e, -⟩ | ⟨-, m1, m2, -⟩
    · exact absurd e (by decide)
    · constructor
      · rintro ⟨e1, e2⟩
        refine ⟨by omega, fun j hj => ?_⟩
        have q1 := e2 (2 * j) (by omega)
        have q2 := e2 (2 * j + 1) (by omega)
        rw [yvv (k2 j hj).1, yvv (m2 j (by omega)).1] at q1
        rw [yvv (k2 j hj).2, yvv (m2 j (by omega)).2] at q2
        rw [← pair_says (hf j hj).1 (hf j hj).2, ← pair_says (hg j (by omega)).1 (hg j (by omega)).2, q1, q2]
      · rintro ⟨rfl, e2⟩
        refine ⟨by omega, fun i hi => ?_⟩
        rcases Nat.mod_two_eq_zero_or_one i with e | e
        · obtain ⟨j, rfl⟩ : ∃ j, i = 2 * j := ⟨i / 2, by omega⟩
          rw [yvv (k2 j (by omega)).1, yvv (m2 j (by omega)).1, e2 j (by omega)]
        · obtain ⟨j, rfl⟩ : ∃ j, i = 2 * j + 1 := ⟨i / 2, by omega⟩
          rw [yvv (k2 j (by omega)).2, yvv (m2 j (by omega)).2, e2 j (by omega)]
/-- two codings differ: so do the texts -/
theorem Cod.dif {cd cd' : Int32} {n k : Nat} {f g : Nat → Int32} {V V' : Cell} (h : Cod cd n f V) (h' : Cod cd' k g V') (hne : ¬ cd = cd') : ¬ SameT n f k g := by
  rintro ⟨rfl, e⟩
  rcases h with ⟨rfl, -, k2⟩ | ⟨rfl, -, -, j, hj, hw⟩
  · rcases h' with ⟨rfl, -⟩ | ⟨-, -, -, j, hj, hw⟩
    · exact hne rfl
    · exact (k2 j hj).2 (by rw [e j hj]; exact hw)
  · rcases h' with ⟨-, -, m2⟩ | ⟨rfl, -⟩
    · exact (m2 j hj).2 (by rw [← e j hj]; exact hw)
    · exact hne rfl
/-- an object of exactly C is an instance of C -/
theorem cinst {p : Program} {l : Launch} {e : Env} {R : Room} {s : State} {m : MethodId} {args : Array Value} {below : List Frame} {meth : Method} {c : Code} {T : State} {locs : List Loc} {cells slots : Nat} (X : Stand p l e R s m args below meth c T locs cells slots) (hexec : p.tables.exec = Jvm.exec) {own C : String} {index : Nat} (hown : s.vm.findClass own = some m.cls) (hlink : (Cond.classLink own index C).before args s = true) {a : Addr} (hE : Exact C a T)
    {g : JFrame} (hg : g.method = m) {rest : List Value} (hstack : g.stack = .ref a :: rest) (hdg : decode c.code g.pc = .ok (.instanceof index, 3)) :
    ∃ T', Stand p l e R s m args below meth c T' locs cells slots ∧ T'.heap = T.heap ∧ ∀ target, Steps p.tables e below (T'.setTop { g with pc := g.pc + 3, stack := .int 1 :: rest }) target → Steps p.tables e below (T.setTop g) target := by
  obtain ⟨cB, h1, D, h2, h3, h4⟩ := hE
  have h1' : s.vm.findClass C = some cB := by rw [← X.warmed.alike.findClass]; exact h1
  obtain ⟨vm', X', st⟩ := X.instanceofYes hexec hown hlink h2 h4 h1' (by rw [h3]; exact Jvm.Free.SB.assignable_self _ _) hg hstack hdg
  exact ⟨_, X', rfl, st⟩
theorem cself {p : Program} {l : Launch} {e : Env} {R : Room} {s : State} {m : MethodId} {args : Array Value} {below : List Frame} {meth : Method} {c : Code} {T : State} {locs : List Loc} {cells slots : Nat} (X : Stand p l e R s m args below meth c T locs cells slots) (hexec : p.tables.exec = Jvm.exec) {own C : String} {index : Nat} (hown : s.vm.findClass own = some m.cls) (hlink : (Cond.classLink own index C).before args s = true) {a : Addr} (hE : Exact C a T)
    {g : JFrame} (hg : g.method = m) {rest : List Value} (hstack : g.stack = .ref a :: rest) (hdg : decode c.code g.pc = .ok (.checkcast index, 3)) :
    ∃ T', Stand p l e R s m args below meth c T' locs cells slots ∧ T'.heap = T.heap ∧ ∀ target, Steps p.tables e below (T'.setTop { g with pc := g.pc + 3, stack := .ref a :: rest }) target → Steps p.tables e below (T.setTop g) target := by
  obtain ⟨cB, h1, D, h2, h3, h4⟩ := hE
  have h1' : s.vm.findClass C = some cB := by rw [← X.warmed.alike.findClass]; exact h1
  obtain ⟨vm', X', st⟩ := X.checkcastYes hexec hown hlink h2 h4 h1' (by rw [h3]; exact Jvm.Free.SB.assignable_self _ _) hg hstack hdg
  exact ⟨_, X', rfl, fun t h => st t (by rw [← hstack] at h; exact h)⟩
namespace SEq
def yN : MethodName := ⟨"java/lang/String", "equals", "(Ljava/lang/Object;)Z"⟩
abbrev yB : ByteArray := jdk_42_method_66_code
theorem d0 : decode yB 0 = .ok (.aload_n 0, 1) := by decide +kernel
theorem d1 : decode yB 1 = .ok (.aload_n 1, 1) := by decide +kernel
theorem d2 : decode yB 2 = .ok (.if_acmp (.ne) 5, 3) := by decide +kernel
theorem d5 : decode yB 5 = .ok (.iconst 1, 1) := by decide +kernel
theorem d6 : decode yB 6 = .ok (.ireturn, 1) := by decide +kernel
theorem d7 : decode yB 7 = .ok (.aload_n 1, 1) := by decide +kernel
theorem d8 : decode yB 8 = .ok (.instanceof 10, 3) := by decide +kernel
theorem d11 : decode yB 11 = .ok (.ifCond (.eq) 43, 3) := by decide +kernel
theorem d14 : decode yB 14 = .ok (.aload_n 1, 1) := by decide +kernel
theorem d15 : decode yB 15 = .ok (.checkcast 10, 3) := by decide +kernel
theorem d18 : decode yB 18 = .ok (.astore_n 2, 1) := by decide +kernel
theorem d19 : decode yB 19 = .ok (.getstatic 38, 3) := by decide +kernel
theorem d22 : decode yB 22 = .ok (.ifCond (.eq) 14, 3) := by decide +kernel
theorem d25 : decode yB 25 = .ok (.aload_n 0, 1) := by decide +kernel
theorem d26 : decode yB 26 = .ok (.getfield 15, 3) := by decide +kernel
theorem d29 : decode yB 29 = .ok (.aload_n 2, 1) := by decide +kernel
theorem d30 : decode yB 30 = .ok (.getfield 15, 3) := by decide +kernel
theorem d33 : decode yB 33 = .ok (.if_icmp (.ne) 21, 3) := by decide +kernel
theorem d36 : decode yB 36 = .ok (.aload_n 0, 1) := by decide +kernel
theorem d37 : decode yB 37 = .ok (.getfield 9, 3) := by decide +kernel
theorem d40 : decode yB 40 = .ok (.aload_n 2, 1) := by decide +kernel
theorem d41 : decode yB 41 = .ok (.getfield 9, 3) := by decide +kernel
theorem d44 : decode yB 44 = .ok (.invokestatic 541, 3) := by decide +kernel
theorem d47 : decode yB 47 = .ok (.ifCond (.eq) 7, 3) := by decide +kernel
theorem d50 : decode yB 50 = .ok (.iconst 1, 1) := by decide +kernel
theorem d51 : decode yB 51 = .ok (.goto 4, 3) := by decide +kernel
theorem d54 : decode yB 54 = .ok (.iconst 0, 1) := by decide +kernel
theorem d55 : decode yB 55 = .ok (.ireturn, 1) := by decide +kernel
def site : List Cond := [.classLink "java/lang/String" 10 "java/lang/String", .fieldLink "java/lang/String" 38 "java/lang/String" "COMPACT_STRINGS" "Z", .fieldLink "java/lang/String" 15 "java/lang/String" "coder" "B", .fieldLink "java/lang/String" 9 "java/lang/String" "value" "[B", LEq.tab] ++ staticW "java/lang/String" 541 LEq.yN
def tab : Cond := tabOf yN yB 3 (some .boolean) site
def P (x t : Addr) (V : Cell) (cd : Int32) (n : Nat) (f : Nat → Int32) (y t' : Addr) (V' : Cell) (cd' : Int32) (k : Nat) (g : Nat → Int32) (z : Int32) (args : Array Value) (s : State) : Prop := args = #[.ref x, .ref y] ∧ Txt x t V cd n f s ∧ Txt y t' V' cd' k g s ∧ StaticIs s "java/lang/String" "COMPACT_STRINGS" "Z" (.int z) ∧ ¬ z = 0
/-- equals(Object) of two Strings: whether the texts are the same -/
theorem law (l : Launch) (x t : Addr) (V : Cell) (cd : Int32) (n : Nat) (f : Nat → Int32) (y t' : Addr) (V' : Cell) (cd' : Int32) (k : Nat) (g : Nat → Int32) (z : Int32) : Law l yN 2 1 1 14 yB 3 (some .boolean) site (P x t V cd n f y t' V' cd' k g z) (Says01 (SameT n f k g)) [] 0 0 := by
  refine Law.of_walk (plainFor_of_name (by decide +kernel)) (by decide +kernel) (by decide +kernel) (by decide) (fun _ _ h => by rw [h.1]; rfl) (fun _ U U' hal hh h => ⟨h.1, h.2.1.mv hal hh, h.2.2.1.mv hal hh, h.2.2.2.1.there hal hh, h.2.2.2.2⟩) (fun r U U' V V' h1 hal h2 h => Says01.mv r U U' V V' h1 hal h2 h) ?_
  intro p e s m args below meth c s₁ X0 hexec hbytes hml hret hlk hnm hown hh0 W hP
  obtain ⟨rfl, hx, hy, s1, hz⟩ := hP
  have c1 : Steps p.tables e below (s₁.setTop (entryFrame m #[.ref x, .ref y] 3)) (s₁.setTop (mkF m 2 #[.val (.ref x), .val (.ref y), .unset] [.ref y, .ref x])) := Steps.trans (entry rfl) (by
    show Steps p.tables e below (s₁.setTop (mkF m 0 #[.val (.ref x), .val (.ref y), .unset] [])) _
    refine XS.aloadN X0.here hexec rfl (hb hbytes d0) rfl rfl ?_
    refine XS.aloadN X0.here hexec rfl (hb hbytes d1) rfl rfl ?_
    exact Steps.refl _)
  by_cases hxy : x = y
  · have c2 : Steps p.tables e below (s₁.setTop (entryFrame m #[.ref x, .ref y] 3)) (s₁.setTop (mkF m 6 #[.val (.ref x), .val (.ref y), .unset] [.int 1])) := c1.trans (by
      refine acmpNo X0.here hexec rfl (hb hbytes d2) rfl rfl rfl (by simp [acmp, hxy]) ?_
      refine iconstV X0.here hexec rfl 1 (hb hbytes d5) (by decide) ?_
      exact Steps.refl _)
    subst hxy
    have ec : cd = cd' := by
      obtain ⟨D, fd, a1, a2, a3⟩ := hx.2.2.1
      obtain ⟨D', fd', b1, b2, b3⟩ := hy.2.2.1
      cases a1.symm.trans b1
      obtain ⟨q1, q2, q3, q4⟩ := a2.1
      obtain ⟨r1, r2, r3, r4⟩ := b2.1
      cases q4.symm.trans r4
      cases a3.symm.trans b3; rfl
    have et : t = t' := by
      obtain ⟨D, fd, a1, a2, a3⟩ := hx.2.1
      obtain ⟨D', fd', b1, b2, b3⟩ := hy.2.1
      cases a1.symm.trans b1
      obtain ⟨q1, q2, q3, q4⟩ := a2.1
      obtain ⟨r1, r2, r3, r4⟩ := b2.1
      cases q4.symm.trans r4
      cases a3.symm.trans b3; rfl
    subst ec et
    have ev : V = V' := by cases hx.2.2.2.1.1.symm.trans hy.2.2.2.1.1; rfl
    subst ev
    have hs : SameT n f k g := (Cod.eqv hx.2.2.2.2.1 hy.2.2.2.2.1 hx.2.2.2.2.2 hy.2.2.2.2.2).mp ⟨rfl, fun _ _ => rfl⟩
    exact ⟨s₁, some (.int 1), _, _, _, X0, rfl, rfl, rfl, (fun h => by cases h), ⟨1, rfl, hh0, Or.inl ⟨rfl, hs⟩⟩, fun fs hl => c2.trans (X0.ireturnOut hexec hret rfl (Or.inr (Or.inl rfl)) (hb hbytes d6) hl)⟩
  · have c2 : Steps p.tables e below (s₁.setTop (entryFrame m #[.ref x, .ref y] 3)) (s₁.setTop (mkF m 8 #[.val (.ref x), .val (.ref y), .unset] [.ref y])) := c1.trans (by
      refine acmpYes X0.here hexec rfl (pc0 := 2) rfl (hb hbytes d2) rfl rfl rfl (by simp [acmp, hxy]) (by decide) rfl ?_
      refine XS.aloadN X0.here hexec rfl (hb hbytes d7) rfl rfl ?_
      exact Steps.refl _)
    obtain ⟨T3, X3, q3, st3⟩ := cinst X0 hexec hown (wk W (.classLink "java/lang/String" 10 "java/lang/String")) (hy.mv X0.warmed.alike hh0).1 (g := (mkF m 8 #[.val (.ref x), .val (.ref y), .unset] [.ref y])) rfl (rest := []) rfl (hb hbytes d8)
    have hh3 := q3.trans hh0
    have c4 : Steps p.tables e below (s₁.setTop (entryFrame m #[.ref x, .ref y] 3)) (T3.setTop (mkF m 15 #[.val (.ref x), .val (.ref y), .unset] [.ref y])) := (c2.trans (st3 _ (Steps.refl _))).trans (by
      refine XS.ifNo X3.here hexec rfl (hb hbytes d11) rfl (i0_eq_f (by decide)) ?_
      refine XS.aloadN X3.here hexec rfl (hb hbytes d14) rfl rfl ?_
      exact Steps.refl _)
    obtain ⟨T5, X5, q5, st5⟩ := cself X3 hexec hown (wk W (.classLink "java/lang/String" 10 "java/lang/String")) (hy.mv X3.warmed.alike hh3).1 (g := (mkF m 15 #[.val (.ref x), .val (.ref y), .unset] [.ref y])) rfl (rest := []) rfl (hb hbytes d15)
    have hh5 := q5.trans hh3
    have c6 : Steps p.tables e below (s₁.setTop (entryFrame m #[.ref x, .ref y] 3)) (T5.setTop (mkF m 19 #[.val (.ref x), .val (.ref y), .val (.ref y)] [])) := (c4.trans (st5 _ (Steps.refl _))).trans (by
      refine XS.astoreN X5.here hexec rfl (hb hbytes d18) rfl rfl rfl ?_
      exact Steps.refl _)
    obtain ⟨T7, X7, q7, st7⟩ := X5.sget hexec hown (wk W (.fieldLink "java/lang/String" 38 "java/lang/String" "COMPACT_STRINGS" "Z")) s1 (fun _ _ h => by rw [hh5]; exact h) (g := (mkF m 19 #[.val (.ref x), .val (.ref y), .val (.ref y)] [])) rfl (hb hbytes d19)
    have hh7 := q7.trans hh5
    have c8 : Steps p.tables e below (s₁.setTop (entryFrame m #[.ref x, .ref y] 3)) (T7.setTop (mkF m 26 #[.val (.ref x), .val (.ref y), .val (.ref y)] [.ref x])) := (c6.trans (st7 _ (Steps.refl _))).trans (by
      refine XS.ifNo X7.here hexec rfl (hb hbytes d22) rfl (i0_eq_f hz) ?_
      refine XS.aloadN X7.here hexec rfl (hb hbytes d25) rfl rfl ?_
      exact Steps.refl _)
    obtain ⟨T9, X9, q9, st9⟩ := X7.hget hexec hown (wk W (.fieldLink "java/lang/String" 15 "java/lang/String" "coder" "B")) (hx.mv X7.warmed.alike hh7).2.2.1 (g := (mkF m 26 #[.val (.ref x), .val (.ref y), .val (.ref y)] [.ref x])) rfl (rest := []) rfl (hb hbytes d26)
    have hh9 := q9.trans hh7
    have c10 : Steps p.tables e below (s₁.setTop (entryFrame m #[.ref x, .ref y] 3)) (T9.setTop (mkF m 30 #[.val (.ref x), .val (.ref y), .val (.ref y)] [.ref y, .int cd])) := (c8.trans (st9 _ (Steps.refl _))).trans (by
      refine XS.aloadN X9.here hexec rfl (hb hbytes d29) rfl rfl ?_
      exact Steps.refl _)
    obtain ⟨T11, X11, q11, st11⟩ := X9.hget hexec hown (wk W (.fieldLink "java/lang/String" 15 "java/lang/String" "coder" "B")) (hy.mv X9.warmed.alike hh9).2.2.1 (g := (mkF m 30 #[.val (.ref x), .val (.ref y), .val (.ref y)] [.ref y, .int cd])) rfl (rest := [.int cd]) rfl (hb hbytes d30)
    have hh11 := q11.trans hh9
    have c12 : Steps p.tables e below (s₁.setTop (entryFrame m #[.ref x, .ref y] 3)) (T11.setTop (mkF m 33 #[.val (.ref x), .val (.ref y), .val (.ref y)] [.int cd', .int cd])) := c10.trans (st11 _ (Steps.refl _))
    by_cases hcd : cd = cd'
    · subst hcd
      have c13 : Steps p.tables e below (s₁.setTop (entryFrame m #[.ref x, .ref y] 3)) (T11.setTop (mkF m 37 #[.val (.ref x), .val (.ref y), .val (.ref y)] [.ref x])) := c12.trans (by
        refine XS.icmpNo X11.here hexec rfl (hb hbytes d33) rfl (ii_ne_f rfl) ?_
        refine XS.aloadN X11.here hexec rfl (hb hbytes d36) rfl rfl ?_
        exact Steps.refl _)
      obtain ⟨T14, X14, q14, st14⟩ := X11.hget hexec hown (wk W (.fieldLink "java/lang/String" 9 "java/lang/String" "value" "[B")) (hx.mv X11.warmed.alike hh11).2.1 (g := (mkF m 37 #[.val (.ref x), .val (.ref y), .val (.ref y)] [.ref x])) rfl (rest := []) rfl (hb hbytes d37)
      have hh14 := q14.trans hh11
      have c15 : Steps p.tables e below (s₁.setTop (entryFrame m #[.ref x, .ref y] 3)) (T14.setTop (mkF m 41 #[.val (.ref x), .val (.ref y), .val (.ref y)] [.ref y, .ref t])) := (c13.trans (st14 _ (Steps.refl _))).trans (by
        refine XS.aloadN X14.here hexec rfl (hb hbytes d40) rfl rfl ?_
        exact Steps.refl _)
      obtain ⟨T16, X16, q16, st16⟩ := X14.hget hexec hown (wk W (.fieldLink "java/lang/String" 9 "java/lang/String" "value" "[B")) (hy.mv X14.warmed.alike hh14).2.1 (g := (mkF m 41 #[.val (.ref x), .val (.ref y), .val (.ref y)] [.ref y, .ref t])) rfl (rest := [.ref t]) rfl (hb hbytes d41)
      have hh16 := q16.trans hh14
      have c17 : Steps p.tables e below (s₁.setTop (entryFrame m #[.ref x, .ref y] 3)) (T16.setTop (mkF m 44 #[.val (.ref x), .val (.ref y), .val (.ref y)] [.ref t', .ref t])) := c15.trans (st16 _ (Steps.refl _))
      obtain ⟨v18, T18, X18, E18, g18⟩ := X16.callS hexec (LEq.law l t V t' V') hown (wks W (staticW "java/lang/String" 541 LEq.yN)) (wk W LEq.tab) (W := 0) (Nat.le_of_ble_eq_true rfl) (Nat.le_of_ble_eq_true rfl) (Nat.le_refl _) (Nat.le_refl _) (g := (mkF m 44 #[.val (.ref x), .val (.ref y), .val (.ref y)] [.ref t', .ref t])) rfl (by rw [hml]; rfl) c17 (argsL := [.ref t, .ref t']) (rest := []) rfl rfl (by show 2 * 0 + 0 ≤ _; decide) (hb hbytes d44) (⟨rfl, hx.2.2.2.1.mv X16.warmed.alike hh16, hx.2.2.2.2.1.ty, hy.2.2.2.1.mv X16.warmed.alike hh16, hy.2.2.2.2.1.ty⟩)
      obtain ⟨v, rfl, q18, hv⟩ := E18
      have iff := Cod.eqv hx.2.2.2.2.1 hy.2.2.2.2.1 hx.2.2.2.2.2 hy.2.2.2.2.2
      rcases hv with ⟨rfl, he⟩ | ⟨rfl, he⟩
      · have c19 : Steps p.tables e below (s₁.setTop (entryFrame m #[.ref x, .ref y] 3)) (T18.setTop (mkF m 55 #[.val (.ref x), .val (.ref y), .val (.ref y)] [.int 1])) := Steps.trans g18 (by
          refine XS.ifNo X18.here hexec rfl (hb hbytes d47) rfl (i0_eq_f (by decide)) ?_
          refine iconstV X18.here hexec rfl 1 (hb hbytes d50) (by decide) ?_
          refine XS.goto X18.here hexec rfl (pc0 := 51) rfl (hb hbytes d51) (by decide) rfl ?_
          exact Steps.refl _)
        exact ⟨T18, some (.int 1), _, _, _, X18, rfl, rfl, rfl, (fun h => by cases h), ⟨1, rfl, q18.trans hh16, Or.inl ⟨rfl, iff.mp he⟩⟩, fun fs hl => c19.trans (X18.ireturnOut hexec hret rfl (Or.inr (Or.inl rfl)) (hb hbytes d55) hl)⟩
      · have c19 : Steps p.tables e below (s₁.setTop (entryFrame m #[.ref x, .ref y] 3)) (T18.setTop (mkF m 55 #[.val (.ref x), .val (.ref y), .val (.ref y)] [.int 0])) := Steps.trans g18 (by
          refine XS.ifYes X18.here hexec rfl (pc0 := 47) rfl (hb hbytes d47) rfl (i0_eq_t rfl) (by decide) rfl ?_
          refine iconstV X18.here hexec rfl 0 (hb hbytes d54) (by decide) ?_
          exact Steps.refl _)
        exact ⟨T18, some (.int 0), _, _, _, X18, rfl, rfl, rfl, (fun h => by cases h), ⟨0, rfl, q18.trans hh16, Or.inr ⟨rfl, fun q => he (iff.mpr q)⟩⟩, fun fs hl => c19.trans (X18.ireturnOut hexec hret rfl (Or.inr (Or.inl rfl)) (hb hbytes d55) hl)⟩
    · have c13 : Steps p.tables e below (s₁.setTop (entryFrame m #[.ref x, .ref y] 3)) (T11.setTop (mkF m 55 #[.val (.ref x), .val (.ref y), .val (.ref y)] [.int 0])) := c12.trans (by
        refine XS.icmpYes X11.here hexec rfl (pc0 := 33) rfl (hb hbytes d33) rfl (ii_ne_t hcd) (by decide) rfl ?_
        refine iconstV X11.here hexec rfl 0 (hb hbytes d54) (by decide) ?_
        exact Steps.refl _)
      exact ⟨T11, some (.int 0), _, _, _, X11, rfl, rfl, rfl, (fun h => by cases h), ⟨0, rfl, hh11, Or.inr ⟨rfl, Cod.dif hx.2.2.2.2.1 hy.2.2.2.2.1 hcd⟩⟩, fun fs hl => c13.trans (X11.ireturnOut hexec hret rfl (Or.inr (Or.inl rfl)) (hb hbytes d55) hl)⟩
theorem pays {l : Launch} {R : Room} {p : Program} {e : Env} {below : List Frame} {s : State} {sargs : Array Value} {len W : Nat} (x t : Addr) (V : Cell) (cd : Int32) (n : Nat) (f : Nat → Int32) (y t' : Addr) (V' : Cell) (cd' : Int32) (k : Nat) (g : Nat → Int32) (z : Int32) (htab : tab.before sargs s = true) (hfr : 2 ≤ R.frames) (hlo : W + 28 ≤ R.locals) :
    Back l R p e below s sargs yN len W (fun A₁ a₁ => A₁.cells + 0 ≤ R.cells ∧ A₁.slots + 0 ≤ R.slots ∧ P x t V cd n f y t' V' cd' k g z a₁ A₁.U) (fun A₁ _ v₁ B₁ => Says01 (SameT n f k g) v₁ A₁.U B₁.U ∧ B₁.locs = A₁.locs ++ [] ∧ B₁.cells = A₁.cells + 0 ∧ B₁.slots = A₁.slots + 0) :=
  (law l x t V cd n f y t' V' cd' k g z).pays htab hfr (by omega)
end SEq
end StrChars
namespace StrChars.Road
open Jvm Sem ClassFile Op Lib Jvm.Stand Jvm.Free Jvm.Free.XT
open Jvm.Lib.Cold (StaticIs)
/-- the words of String.equals(Object) -/
abbrev wordsEq : List Jvm.Cond := [.code SEq.yN SEq.yB 3 (some .boolean), .initialized ST, .classLink ST 10 ST, .fieldLink ST 38 ST "COMPACT_STRINGS" "Z", .fieldLink ST 15 ST "coder" "B", .fieldLink ST 9 ST "value" "[B", .methodLink ST 541 LEq.yN, .static LEq.yN, .code LEq.yN LEq.yB 3 (some .boolean), .initialized "java/lang/StringLatin1"]
theorem tabEq_of {a : Array Value} {s : State} (h : ∀ w ∈ wordsEq, w.before a s = true) : SEq.tab.before a s = true := by
  have hl : LEq.tab.before a s = true := unparts (wk h (.code LEq.yN LEq.yB 3 (some .boolean))) (wks h (.initialized LEq.yN.cls :: LEq.site))
  have q := consq hl h
  exact unparts (wk q (.code SEq.yN SEq.yB 3 (some .boolean))) (wks q (.initialized SEq.yN.cls :: SEq.site))
theorem movedEq {Z s : State} {a0 args : Array Value} (hZ : Z.Warmed39 s.vm) (hw : ∀ d ∈ wordsEq, d.before a0 Z = true) : ∀ d ∈ wordsEq, d.before args s = true := fun d hd => by
  have t : ∀ d ∈ wordsEq, (d.onTables && d.keepsFace) = true := by decide +kernel
  exact RoadKit.mv hZ (hw d hd) (t d hd)
/-- the road's facts of a String, as the laws ask it -/
theorem txt_of {Z U : State} {a0 : Array Value} {kI : Nat} (wi : (Jvm.Cond.instantiable ST kI).before a0 Z = true) (al : Z.vm.Alike U.vm) {x t : Addr} {kb : ClassId} {cs : List Int32} {cd N2 : Int32} {vs : List Value} (E : RoadKit.Exa Z U.heap x ST) (V : RoadKit.Fld Z U.heap x ST "value" "[B" (.ref t)) (C : RoadKit.Fld Z U.heap x ST "coder" "B" (.int cd)) (K : RoadKit.Arv Z U.heap t kb .byte N2 vs (.int 0)) (hc : CodA cs cd N2 vs) (hb : ∀ c ∈ cs, ¬ c < 0 ∧ ¬ (65535 : Int32) < c) (l2 : cs.length ≤ 4000) :
    ∃ A, Txt x t A cd cs.length (fun j => cs.getD j 0) U := by
  obtain ⟨A, K1, K2, K3, K4, K5, K6⟩ := K
  have hcod := hc.cod (by omega) K3 K5
  obtain ⟨D, fV, fC, hB, F1, F2, g1, g2, -, -⟩ := strObj wi al E V C
  exact ⟨A, ⟨_, hB.2.2.1, D, hB.1, rfl, by cases q : D.vm <;> first | rfl | exact absurd q (hB.2.1.2 _)⟩, Has.of hB F1 g1, Has.of hB F2 g2, ⟨K1.1, State.isArrayOf_alike al K1.2.1, K1.2.2, by rcases hcod with ⟨-, q, -⟩ | ⟨-, q, -⟩ <;> omega⟩, hcod, fun j hj => by
    have e : cs.getD j 0 = cs[j] := by simp [List.getD_eq_getElem?_getD, hj]
    show ¬ cs.getD j 0 < 0 ∧ ¬ 65535 < cs.getD j 0
    rw [e]; exact hb _ (List.getElem_mem _)⟩
theorem same_list (cs ds : List Int32) : SameT cs.length (fun j => cs.getD j 0) ds.length (fun j => ds.getD j 0) ↔ cs = ds := by
  constructor
  · rintro ⟨e, q⟩
    refine List.ext_getElem e fun j h1 h2 => ?_
    have := q j h1
    simpa [List.getD_eq_getElem?_getD, h1, h2] using this
  · rintro rfl
    exact ⟨rfl, fun _ _ => rfl⟩
/-- **equals(Object) OF TWO SUCH STRINGS**: 1 just where the chars are the same -/
theorem eqW {p : Program} {l : Launch} {e : Env} {R : Room} {s : State} {args : Array Value} {below : List Frame} {len W : Nat} {Z : State} {a0 : Array Value} {h : Heap} (hZ : Z.Warmed39 s.vm) (hw : ∀ d ∈ wordsEq, d.before a0 Z = true) {kI : Nat} (wi : (Jvm.Cond.instantiable ST kI).before a0 Z = true)
    {x t : Addr} {kb : ClassId} {cs : List Int32} {cd N2 : Int32} {vs : List Value} (E : RoadKit.Exa Z h x ST) (V : RoadKit.Fld Z h x ST "value" "[B" (.ref t)) (C : RoadKit.Fld Z h x ST "coder" "B" (.int cd)) (K : RoadKit.Arv Z h t kb .byte N2 vs (.int 0)) (hc : CodA cs cd N2 vs) (hb : ∀ c ∈ cs, ¬ c < 0 ∧ ¬ (65535 : Int32) < c) (l2 : cs.length ≤ 4000)
    {y t' : Addr} {kb' : ClassId} {ds : List Int32} {cd' N2' : Int32} {vs' : List Value} (E' : RoadKit.Exa Z h y ST) (V' : RoadKit.Fld Z h y ST "value" "[B" (.ref t')) (C' : RoadKit.Fld Z h y ST "coder" "B" (.int cd')) (K' : RoadKit.Arv Z h t' kb' .byte N2' vs' (.int 0)) (hc' : CodA ds cd' N2' vs') (hb' : ∀ c ∈ ds, ¬ c < 0 ∧ ¬ (65535 : Int32) < c) (l2' : ds.length ≤ 4000)
    {z : Int32} (S : RoadKit.Sta Z h ST "COMPACT_STRINGS" "Z" (.int z)) (hz : ¬ z = 0) (hfr : 2 ≤ R.frames) (hlo : W + 28 ≤ R.locals) :
    Back l R p e below s args (⟨"java/lang/String", "equals", "(Ljava/lang/Object;)Z"⟩ : MethodName) len W (fun P a => a = #[.ref x, .ref y] ∧ P.U.heap = h ∧ P.cells + 0 ≤ R.cells ∧ P.slots + 0 ≤ R.slots)
      (fun P _ v B => ∃ L, (((v = some (.int 1) ∧ cs = ds) ∨ (v = some (.int 0) ∧ ¬ cs = ds)) ∧ L = [] ∧ B.U.heap = h) ∧ B.locs = P.locs ++ L ∧ B.cells = P.cells + 0 ∧ B.slots = P.slots + 0) := by
  intro m meth c P g ig mk a X hg hsize hdg hW hn hp'
  obtain ⟨rfl, rfl, r1, r2⟩ := hp'
  have al : Z.vm.Alike P.U.vm := hZ.alike.trans X.warmed.alike
  obtain ⟨A, hx⟩ := txt_of wi al E V C K hc hb l2
  obtain ⟨A', hy⟩ := txt_of wi al E' V' C' K' hc' hb' l2'
  obtain ⟨v, B, X', ⟨⟨w, hv, hh, hq⟩, hl, hk, hs⟩, st⟩ := SEq.pays x t A cd cs.length (fun j => cs.getD j 0) y t' A' cd' ds.length (fun j => ds.getD j 0) z (tabEq_of (movedEq hZ hw)) hfr hlo m meth c P g ig mk _ X hg hsize hdg hW hn ⟨r1, r2, rfl, hx, hy, sta_is al S, hz⟩
  refine ⟨v, B, X', ⟨[], ⟨?_, rfl, hh⟩, hl, hk, hs⟩, st⟩
  rcases hq with ⟨rfl, q⟩ | ⟨rfl, q⟩
  · exact Or.inl ⟨hv, (same_list cs ds).mp q⟩
  · exact Or.inr ⟨hv, fun e => q ((same_list cs ds).mpr e)⟩
end StrChars.Road
end Jvm.Pilot.@@N@@

namespace Jvm.Pilot.@@N@@
open Jvm Jvm.ClassFile Sem Op Lib Jvm.Free Jvm.Stand Jvm.LawKit Jvm.RoadKit Bundle Jvm.OwnKit
section StrKit
variable {p : Program} {l : Launch} {e : Env} {R : Room} {s : State} {m : MethodId} {args : Array Value} {below : List Frame} {meth : Method} {c : Code} {Z : State} {a0 : Array Value} {EL : List (String × Nat)} {cw : Prop} {own : String} {n0 : Nat} {bytes : ByteArray} {maxL : Nat} {ret : Option FieldType} {nm : String} {T : State} {h : Heap} {C S : Nat} {sf : List Addr} {P : State → Outcome → Prop}
theorem G.newStr (H : Hs p l e R s m args below meth c Z a0 EL cw own n0 bytes maxL ret nm T h C S sf) (hws : ∀ d ∈ StrChars.Road.words, d.before a0 Z = true) {kI : Nat} (wi : (Jvm.Cond.instantiable "java/lang/String" kI).before a0 Z = true) {index : Nat} (w1 : (Jvm.Cond.methodLink own index (⟨"java/lang/String", "<init>", "([C)V"⟩ : MethodName)).before a0 Z = true) (w2 : (Jvm.Cond.instanceMethod (⟨"java/lang/String", "<init>", "([C)V"⟩ : MethodName)).before a0 Z = true)
    {x b : Addr} {kC : ClassId} {cs : List Int32} {d v0 c0 : Value} {z N : Int32} {n : Nat} (g : n0 ≤ x) (E : Exa Z h x "java/lang/String") (V : Fld Z h x "java/lang/String" "value" "[B" v0) (Cd : Fld Z h x "java/lang/String" "coder" "B" c0) (K : Arv Z h b kC .char N (cs.map Value.int) d) (Sc : Sta Z Z.heap "java/lang/String" "COMPACT_STRINGS" "Z" (.int z)) (hz : ¬ z = 0)
    (hn : cs.length = n) (hN : N = Int32.ofNat n) (l0 : 0 < n) (l2 : n ≤ 4000) (hp : ∀ c ∈ cs, ¬ c < 0 ∧ ¬ (255 : Int32) < c) (hsf : Sf Z EL h sf x) {rest : List Value} {W : Nat} {pc pc' : Nat} {L : Array Slot} (hL : L.size = maxL) (hW : (rest.map fun v => v.category).sum = W) (hd : decode bytes pc = .ok (.invokespecial index, 3)) (hp' : pc + 3 = pc') (hfr : 4 ≤ R.frames) (hlo : W + 65 ≤ R.locals) (hc : C + 1 ≤ R.cells) (hsl : S + n ≤ R.slots)
    (k : ∀ T' h' t kb, h.size ≤ t → Hs p l e R s m args below meth c Z a0 EL cw own n0 bytes maxL ret nm T' h' (C + 1) (S + n) (t :: sf) → Keep h h' [x] → Str Z h' x t kb cs → Go p e below P (T'.setTop (mkF m pc' L rest))) : Go p e below P (T.setTop (mkF m pc L (.ref b :: .ref x :: rest))) := by
  subst hp'
  obtain ⟨hM, vm0, k0, locs, X, h1, h2, h3, h4, h5, h6, h7, h8, h9, hO⟩ := id H
  have wc : (Jvm.Cond.code StrChars.New1.yN StrChars.New1.yB 2 none).before a0 Z = true := hws _ (List.mem_of_getElem? (i := 0) rfl)
  obtain ⟨v, vm₁, B, hw, X', ⟨L', ⟨q1, q2, q3, q4, q5, t, kb, q6, q7, q8, q9, q10⟩, r2, r3, r4⟩, st'⟩ := X.specialBack H.exec (y := (⟨"java/lang/String", "<init>", "([C)V"⟩ : MethodName)) rfl h5 (mvT (s := s.setVm vm0) h4 w1) (mvT (s := s.setVm vm0) h4 w2) (mvT (s := s.setVm vm0) h4 wc) (by decide)
    (StrChars.Road.backV (W := W) (s := s.setVm vm0) h4 hws wi g H.le E V Cd K (Sta.ext hO.2 Sc) hz hn hN l0 l2 hp rfl hfr hlo) (g := mkF m pc L (.ref b :: .ref x :: rest)) rfl (by rw [hM.2.2.2.1]; exact hL) (Steps.refl _) (a := x) (argsL := [.ref b]) (rest := rest) (lenOf (show parseMethodDescriptor "([C)V" = some ⟨[.array .char], none⟩ by decide +kernel) rfl) rfl (by show 2 * 0 + _ ≤ _; omega) (H.dec hd) (fun _ _ => ⟨rfl, h1, hc, hsl⟩)
  subst q1
  have sx : ∀ y ∈ [x], Safe Z EL vm0 h y := fun y hy => by rw [List.mem_singleton.mp hy]; exact hsf.safe h4 h8
  have hC := CHr.keep q3 sx h7.1
  refine Go.tr st' (k B.U B.U.heap t kb q7 ⟨hM, vm0, k0, B.locs, by rw [← r3, ← r4]; exact X', rfl, h2, Nat.le_trans h3 q3.1, h4, h5, by rw [r2]; exact Fr.app h6 q2, h7.trans hC, fun y hy => ?_, h9, hO.keep q3 (fun y hy => by rw [List.mem_singleton.mp hy]; exact g)⟩ q3 ⟨q4, q5, q9, ?_, hp, by rw [hn]; exact l2⟩)
  · rcases List.mem_cons.mp hy with rfl | hy
    · exact ⟨q10.lt, Safe.keep q3 sx h7.1 (Safe.new q7)⟩
    · exact ⟨Nat.lt_of_lt_of_le (h8 y hy).1 q3.1, Safe.keep q3 sx h7.1 (h8 y hy).2⟩
  · rw [hn, ← hN]; rw [List.map_map] at q10; exact q10
end StrKit
end Jvm.Pilot.@@N@@
namespace Jvm.Pilot.@@N@@
open Jvm Jvm.ClassFile Sem Op Lib Jvm.Free Jvm.Stand Jvm.LawKit Jvm.RoadKit Bundle Jvm.OwnKit
section StrKit2
variable {p : Program} {l : Launch} {e : Env} {R : Room} {s : State} {m : MethodId} {args : Array Value} {below : List Frame} {meth : Method} {c : Code} {Z : State} {a0 : Array Value} {EL : List (String × Nat)} {cw : Prop} {own : String} {n0 : Nat} {bytes : ByteArray} {maxL : Nat} {ret : Option FieldType} {nm : String} {T : State} {h : Heap} {C S : Nat} {sf : List Addr} {P : State → Outcome → Prop}
theorem str_cod {a t : Addr} {kb : ClassId} {cs : List Int32} (F : Str Z h a t kb cs) : StrChars.Road.CodA cs 0 (Int32.ofNat cs.length) (cs.map fun c => Value.int c.toInt8.toInt32) := Or.inl ⟨rfl, rfl, rfl, fun c hc => (F.2.2.2.2.1 c hc).2⟩
theorem str_u16 {a t : Addr} {kb : ClassId} {cs : List Int32} (F : Str Z h a t kb cs) : ∀ c ∈ cs, ¬ c < 0 ∧ ¬ (65535 : Int32) < c := fun c hc => own_u16 (F.2.2.2.2.1 c hc)
theorem G.strEq (H : Hs p l e R s m args below meth c Z a0 EL cw own n0 bytes maxL ret nm T h C S sf) (hws : ∀ d ∈ StrChars.Road.wordsEq, d.before a0 Z = true) {kI : Nat} (wi : (Jvm.Cond.instantiable "java/lang/String" kI).before a0 Z = true) {index : Nat} (w1 : (Jvm.Cond.methodLink own index (⟨"java/lang/String", "equals", "(Ljava/lang/Object;)Z"⟩ : MethodName)).before a0 Z = true) (w2 : (Jvm.Cond.declares (⟨"java/lang/String", "equals", "(Ljava/lang/Object;)Z"⟩ : MethodName)).before a0 Z = true) (w3 : (Jvm.Cond.selects "java/lang/String" (⟨"java/lang/String", "equals", "(Ljava/lang/Object;)Z"⟩ : MethodName) (⟨"java/lang/String", "equals", "(Ljava/lang/Object;)Z"⟩ : MethodName)).before a0 Z = true) (w4 : (Jvm.Cond.instanceMethod (⟨"java/lang/String", "equals", "(Ljava/lang/Object;)Z"⟩ : MethodName)).before a0 Z = true)
    {x t y t' : Addr} {kb kb' : ClassId} {cs ds : List Int32} (F : Str Z h x t kb cs) (F' : Str Z h y t' kb' ds) {z : Int32} (Sc : Sta Z Z.heap "java/lang/String" "COMPACT_STRINGS" "Z" (.int z)) (hz : ¬ z = 0) {rest : List Value} {W : Nat} {pc pc' : Nat} {L : Array Slot} (hL : L.size = maxL) (hW : (rest.map fun v => v.category).sum = W) (hd : decode bytes pc = .ok (.invokevirtual index, 3)) (hp : pc + 3 = pc') (hfr : 2 ≤ R.frames) (hlo : W + 28 ≤ R.locals) (hc : C ≤ R.cells) (hsl : S ≤ R.slots)
    (k1 : ∀ T', Hs p l e R s m args below meth c Z a0 EL cw own n0 bytes maxL ret nm T' h C S sf → cs = ds → Go p e below P (T'.setTop (mkF m pc' L (.int 1 :: rest)))) (k0 : ∀ T', Hs p l e R s m args below meth c Z a0 EL cw own n0 bytes maxL ret nm T' h C S sf → ¬ cs = ds → Go p e below P (T'.setTop (mkF m pc' L (.int 0 :: rest)))) : Go p e below P (T.setTop (mkF m pc L (.ref y :: .ref x :: rest))) := by
  refine G.pureV H (Qv := fun v => (v = some (.int 1) ∧ cs = ds) ∨ (v = some (.int 0) ∧ ¬ cs = ds)) (W := W) (fun s' hZ' => StrChars.Road.eqW (s := s') hZ' hws wi F.1 F.2.2.1 F.2.1 F.2.2.2.1 (str_cod F) (str_u16 F) F.2.2.2.2.2 F'.1 F'.2.2.1 F'.2.1 F'.2.2.2.1 (str_cod F') (str_u16 F') F'.2.2.2.2.2 (Sta.ext H.old.2 Sc) hz hfr hlo) w1 w2 w3 w4 (by decide) F.1 (argsL := [.ref y]) (rest := rest) hL rfl (lenOf (show parseMethodDescriptor "(Ljava/lang/Object;)Z" = some ⟨[.object "java/lang/Object"], some .boolean⟩ by decide +kernel) rfl) rfl hW hd hp hc hsl ?_
  intro T' v H' hq
  rcases hq with ⟨rfl, q⟩ | ⟨rfl, q⟩
  · exact k1 T' H' q
  · exact k0 T' H' q
end StrKit2
end Jvm.Pilot.@@N@@
namespace Jvm.Pilot.@@N@@
open Jvm Jvm.ClassFile Sem Op Lib Jvm.Free Jvm.Stand Jvm.LawKit Jvm.RoadKit Bundle Jvm.OwnKit Jvm.Pilot.@@N@@.Jvm.D
abbrev ELs : List (String × Nat) := [("bindery/bindings/BindingTypeNamedPinLaw", 35), ("bindery/bindings/BindingTypeNamedPinLaw", 36), ("bindery/bindings/BindingTypeNamedPinLaw", 37), ("bindery/bindings/BindingTypeNamedPinLaw", 39), ("java/lang/String", 7)]
def Env1 (Z : State) (a0 : Array Value) (n0 : Nat) (uu0 : Addr) (uu1 : Addr) (uu2 : Addr) (uu3 : Addr) (uu4 : Addr) (uu5 : Addr) (uu6 : Addr) (uu7 : ClassId) (uu8 : ClassId) (uu9 : ClassId) (uu10 : Int32) (uu11 : Value) : Prop := (∀ d ∈ tables_1, d.before a0 Z = true) ∧ EW Z a0 ELs ∧ Sta Z Z.heap "bindery/bindings/BindingType" "$VALUES" "[Lbindery/bindings/BindingType;" (.ref uu0) ∧ Exa Z Z.heap uu0 "[Lbindery/bindings/BindingType;" ∧ Sta Z Z.heap "bindery/bindings/BindingType" "DIRECTORY_IN" "Lbindery/bindings/BindingType;" (.ref uu1) ∧ Exa Z Z.heap uu1 "bindery/bindings/BindingType" ∧ Sta Z Z.heap "bindery/bindings/BindingType" "DIRECTORY_OUT" "Lbindery/bindings/BindingType;" (.ref uu2) ∧ Exa Z Z.heap uu2 "bindery/bindings/BindingType" ∧ Fld Z Z.heap uu2 "bindery/bindings/BindingType" "typeName" "Ljava/lang/String;" (.ref uu3) ∧ Exa Z Z.heap uu3 "java/lang/String" ∧ Fld Z Z.heap uu1 "bindery/bindings/BindingType" "typeName" "Ljava/lang/String;" (.ref uu4) ∧ Exa Z Z.heap uu4 "java/lang/String" ∧ Fld Z Z.heap uu3 "java/lang/String" "value" "[B" (.ref uu5) ∧ Fld Z Z.heap uu4 "java/lang/String" "value" "[B" (.ref uu6) ∧ Arv Z Z.heap uu0 uu7 (.object "bindery/bindings/BindingType") (2 : Int32) [(.ref uu1), (.ref uu2)] .null ∧ Arv Z Z.heap uu5 uu8 .byte (13 : Int32) [(.int (100 : Int32)), (.int (105 : Int32)), (.int (114 : Int32)), (.int (101 : Int32)), (.int (99 : Int32)), (.int (116 : Int32)), (.int (111 : Int32)), (.int (114 : Int32)), (.int (121 : Int32)), (.int (45 : Int32)), (.int (111 : Int32)), (.int (117 : Int32)), (.int (116 : Int32))] (.int 0) ∧ Arv Z Z.heap uu6 uu9 .byte (12 : Int32) [(.int (100 : Int32)), (.int (105 : Int32)), (.int (114 : Int32)), (.int (101 : Int32)), (.int (99 : Int32)), (.int (116 : Int32)), (.int (111 : Int32)), (.int (114 : Int32)), (.int (121 : Int32)), (.int (45 : Int32)), (.int (105 : Int32)), (.int (110 : Int32))] (.int 0) ∧ Fld Z Z.heap uu4 "java/lang/String" "coder" "B" (.int (0 : Int32)) ∧ Fld Z Z.heap uu3 "java/lang/String" "coder" "B" (.int (0 : Int32)) ∧ Sta Z Z.heap "java/lang/String" "COMPACT_STRINGS" "Z" (.int uu10) ∧ ¬ uu10 = 0 ∧ Sta Z Z.heap "jdk/internal/util/Preconditions" "SIOOBE_FORMATTER" "Ljava/util/function/BiFunction;" uu11 ∧ uu11.isRef = true ∧ Str Z Z.heap uu3 uu5 uu8 [(100 : Int32), (105 : Int32), (114 : Int32), (101 : Int32), (99 : Int32), (116 : Int32), (111 : Int32), (114 : Int32), (121 : Int32), (45 : Int32), (111 : Int32), (117 : Int32), (116 : Int32)] ∧ Str Z Z.heap uu4 uu6 uu9 [(100 : Int32), (105 : Int32), (114 : Int32), (101 : Int32), (99 : Int32), (116 : Int32), (111 : Int32), (114 : Int32), (121 : Int32), (45 : Int32), (105 : Int32), (110 : Int32)] ∧ True
theorem EWl (V : Env1 Z a0 n0 uu0 uu1 uu2 uu3 uu4 uu5 uu6 uu7 uu8 uu9 uu10 uu11) : EW Z a0 ELs := V.2.1
theorem hv0 (V : Env1 Z a0 n0 uu0 uu1 uu2 uu3 uu4 uu5 uu6 uu7 uu8 uu9 uu10 uu11) : Sta Z Z.heap "bindery/bindings/BindingType" "$VALUES" "[Lbindery/bindings/BindingType;" (.ref uu0) := V.2.2.1
theorem hv1 (V : Env1 Z a0 n0 uu0 uu1 uu2 uu3 uu4 uu5 uu6 uu7 uu8 uu9 uu10 uu11) : Exa Z Z.heap uu0 "[Lbindery/bindings/BindingType;" := V.2.2.2.1
theorem hv2 (V : Env1 Z a0 n0 uu0 uu1 uu2 uu3 uu4 uu5 uu6 uu7 uu8 uu9 uu10 uu11) : Sta Z Z.heap "bindery/bindings/BindingType" "DIRECTORY_IN" "Lbindery/bindings/BindingType;" (.ref uu1) := V.2.2.2.2.1
theorem hv3 (V : Env1 Z a0 n0 uu0 uu1 uu2 uu3 uu4 uu5 uu6 uu7 uu8 uu9 uu10 uu11) : Exa Z Z.heap uu1 "bindery/bindings/BindingType" := V.2.2.2.2.2.1
theorem hv4 (V : Env1 Z a0 n0 uu0 uu1 uu2 uu3 uu4 uu5 uu6 uu7 uu8 uu9 uu10 uu11) : Sta Z Z.heap "bindery/bindings/BindingType" "DIRECTORY_OUT" "Lbindery/bindings/BindingType;" (.ref uu2) := V.2.2.2.2.2.2.1
theorem hv5 (V : Env1 Z a0 n0 uu0 uu1 uu2 uu3 uu4 uu5 uu6 uu7 uu8 uu9 uu10 uu11) : Exa Z Z.heap uu2 "bindery/bindings/BindingType" := V.2.2.2.2.2.2.2.1
theorem hv6 (V : Env1 Z a0 n0 uu0 uu1 uu2 uu3 uu4 uu5 uu6 uu7 uu8 uu9 uu10 uu11) : Fld Z Z.heap uu2 "bindery/bindings/BindingType" "typeName" "Ljava/lang/String;" (.ref uu3) := V.2.2.2.2.2.2.2.2.1
theorem hv7 (V : Env1 Z a0 n0 uu0 uu1 uu2 uu3 uu4 uu5 uu6 uu7 uu8 uu9 uu10 uu11) : Exa Z Z.heap uu3 "java/lang/String" := V.2.2.2.2.2.2.2.2.2.1
theorem hv8 (V : Env1 Z a0 n0 uu0 uu1 uu2 uu3 uu4 uu5 uu6 uu7 uu8 uu9 uu10 uu11) : Fld Z Z.heap uu1 "bindery/bindings/BindingType" "typeName" "Ljava/lang/String;" (.ref uu4) := V.2.2.2.2.2.2.2.2.2.2.1
theorem hv9 (V : Env1 Z a0 n0 uu0 uu1 uu2 uu3 uu4 uu5 uu6 uu7 uu8 uu9 uu10 uu11) : Exa Z Z.heap uu4 "java/lang/String" := V.2.2.2.2.2.2.2.2.2.2.2.1
theorem hv10 (V : Env1 Z a0 n0 uu0 uu1 uu2 uu3 uu4 uu5 uu6 uu7 uu8 uu9 uu10 uu11) : Fld Z Z.heap uu3 "java/lang/String" "value" "[B" (.ref uu5) := V.2.2.2.2.2.2.2.2.2.2.2.2.1
theorem hv11 (V : Env1 Z a0 n0 uu0 uu1 uu2 uu3 uu4 uu5 uu6 uu7 uu8 uu9 uu10 uu11) : Fld Z Z.heap uu4 "java/lang/String" "value" "[B" (.ref uu6) := V.2.2.2.2.2.2.2.2.2.2.2.2.2.1
theorem hv12 (V : Env1 Z a0 n0 uu0 uu1 uu2 uu3 uu4 uu5 uu6 uu7 uu8 uu9 uu10 uu11) : Arv Z Z.heap uu0 uu7 (.object "bindery/bindings/BindingType") (2 : Int32) [(.ref uu1), (.ref uu2)] .null := V.2.2.2.2.2.2.2.2.2.2.2.2.2.2.1
theorem hv13 (V : Env1 Z a0 n0 uu0 uu1 uu2 uu3 uu4 uu5 uu6 uu7 uu8 uu9 uu10 uu11) : Arv Z Z.heap uu5 uu8 .byte (13 : Int32) [(.int (100 : Int32)), (.int (105 : Int32)), (.int (114 : Int32)), (.int (101 : Int32)), (.int (99 : Int32)), (.int (116 : Int32)), (.int (111 : Int32)), (.int (114 : Int32)), (.int (121 : Int32)), (.int (45 : Int32)), (.int (111 : Int32)), (.int (117 : Int32)), (.int (116 : Int32))] (.int 0) := V.2.2.2.2.2.2.2.2.2.2.2.2.2.2.2.1
theorem hv14 (V : Env1 Z a0 n0 uu0 uu1 uu2 uu3 uu4 uu5 uu6 uu7 uu8 uu9 uu10 uu11) : Arv Z Z.heap uu6 uu9 .byte (12 : Int32) [(.int (100 : Int32)), (.int (105 : Int32)), (.int (114 : Int32)), (.int (101 : Int32)), (.int (99 : Int32)), (.int (116 : Int32)), (.int (111 : Int32)), (.int (114 : Int32)), (.int (121 : Int32)), (.int (45 : Int32)), (.int (105 : Int32)), (.int (110 : Int32))] (.int 0) := V.2.2.2.2.2.2.2.2.2.2.2.2.2.2.2.2.1
theorem hv15 (V : Env1 Z a0 n0 uu0 uu1 uu2 uu3 uu4 uu5 uu6 uu7 uu8 uu9 uu10 uu11) : Fld Z Z.heap uu4 "java/lang/String" "coder" "B" (.int (0 : Int32)) := V.2.2.2.2.2.2.2.2.2.2.2.2.2.2.2.2.2.1
theorem hv16 (V : Env1 Z a0 n0 uu0 uu1 uu2 uu3 uu4 uu5 uu6 uu7 uu8 uu9 uu10 uu11) : Fld Z Z.heap uu3 "java/lang/String" "coder" "B" (.int (0 : Int32)) := V.2.2.2.2.2.2.2.2.2.2.2.2.2.2.2.2.2.2.1
theorem hv17 (V : Env1 Z a0 n0 uu0 uu1 uu2 uu3 uu4 uu5 uu6 uu7 uu8 uu9 uu10 uu11) : Sta Z Z.heap "java/lang/String" "COMPACT_STRINGS" "Z" (.int uu10) := V.2.2.2.2.2.2.2.2.2.2.2.2.2.2.2.2.2.2.2.1
theorem hv18 (V : Env1 Z a0 n0 uu0 uu1 uu2 uu3 uu4 uu5 uu6 uu7 uu8 uu9 uu10 uu11) : ¬ uu10 = 0 := V.2.2.2.2.2.2.2.2.2.2.2.2.2.2.2.2.2.2.2.2.1
theorem hv19 (V : Env1 Z a0 n0 uu0 uu1 uu2 uu3 uu4 uu5 uu6 uu7 uu8 uu9 uu10 uu11) : Sta Z Z.heap "jdk/internal/util/Preconditions" "SIOOBE_FORMATTER" "Ljava/util/function/BiFunction;" uu11 := V.2.2.2.2.2.2.2.2.2.2.2.2.2.2.2.2.2.2.2.2.2.1
theorem hv20 (V : Env1 Z a0 n0 uu0 uu1 uu2 uu3 uu4 uu5 uu6 uu7 uu8 uu9 uu10 uu11) : uu11.isRef = true := V.2.2.2.2.2.2.2.2.2.2.2.2.2.2.2.2.2.2.2.2.2.2.1
theorem hv21 (V : Env1 Z a0 n0 uu0 uu1 uu2 uu3 uu4 uu5 uu6 uu7 uu8 uu9 uu10 uu11) : Str Z Z.heap uu3 uu5 uu8 [(100 : Int32), (105 : Int32), (114 : Int32), (101 : Int32), (99 : Int32), (116 : Int32), (111 : Int32), (114 : Int32), (121 : Int32), (45 : Int32), (111 : Int32), (117 : Int32), (116 : Int32)] := V.2.2.2.2.2.2.2.2.2.2.2.2.2.2.2.2.2.2.2.2.2.2.2.1
theorem hv22 (V : Env1 Z a0 n0 uu0 uu1 uu2 uu3 uu4 uu5 uu6 uu7 uu8 uu9 uu10 uu11) : Str Z Z.heap uu4 uu6 uu9 [(100 : Int32), (105 : Int32), (114 : Int32), (101 : Int32), (99 : Int32), (116 : Int32), (111 : Int32), (114 : Int32), (121 : Int32), (45 : Int32), (105 : Int32), (110 : Int32)] := V.2.2.2.2.2.2.2.2.2.2.2.2.2.2.2.2.2.2.2.2.2.2.2.2.1
theorem wd0 (V : Env1 Z a0 n0 uu0 uu1 uu2 uu3 uu4 uu5 uu6 uu7 uu8 uu9 uu10 uu11) : (Jvm.Cond.constant "bindery/bindings/BindingTypeNamedPinLaw" (7 : Nat) (2147483647 : Int32)).before a0 Z = true := V.1 _ (List.mem_of_getElem? (i := 0) rfl)
theorem wd1 (V : Env1 Z a0 n0 uu0 uu1 uu2 uu3 uu4 uu5 uu6 uu7 uu8 uu9 uu10 uu11) : (Jvm.Cond.classLink "bindery/bindings/BindingTypeNamedPinLaw" (8 : Nat) "java/lang/String").before a0 Z = true := V.1 _ (List.mem_of_getElem? (i := 1) rfl)
theorem wd2 (V : Env1 Z a0 n0 uu0 uu1 uu2 uu3 uu4 uu5 uu6 uu7 uu8 uu9 uu10 uu11) : (Jvm.Cond.instantiable "java/lang/String" (4 : Nat)).before a0 Z = true := V.1 _ (List.mem_of_getElem? (i := 2) rfl)
theorem wd3 (V : Env1 Z a0 n0 uu0 uu1 uu2 uu3 uu4 uu5 uu6 uu7 uu8 uu9 uu10 uu11) : (Jvm.Cond.initialized "java/lang/String").before a0 Z = true := V.1 _ (List.mem_of_getElem? (i := 3) rfl)
theorem wd4 (V : Env1 Z a0 n0 uu0 uu1 uu2 uu3 uu4 uu5 uu6 uu7 uu8 uu9 uu10 uu11) : (Jvm.Cond.methodLink "bindery/bindings/BindingTypeNamedPinLaw" (10 : Nat) ({ cls := "bindery/bindings/BindingTypeNamedPinLaw", name := "inChars", desc := "()[C" } : Jvm.MethodName)).before a0 Z = true := V.1 _ (List.mem_of_getElem? (i := 4) rfl)
theorem wd5 (V : Env1 Z a0 n0 uu0 uu1 uu2 uu3 uu4 uu5 uu6 uu7 uu8 uu9 uu10 uu11) : (Jvm.Cond.static ({ cls := "bindery/bindings/BindingTypeNamedPinLaw", name := "inChars", desc := "()[C" } : Jvm.MethodName)).before a0 Z = true := V.1 _ (List.mem_of_getElem? (i := 5) rfl)
theorem wd6 (V : Env1 Z a0 n0 uu0 uu1 uu2 uu3 uu4 uu5 uu6 uu7 uu8 uu9 uu10 uu11) : (Jvm.Cond.initialized "bindery/bindings/BindingTypeNamedPinLaw").before a0 Z = true := V.1 _ (List.mem_of_getElem? (i := 6) rfl)
theorem wd7 (V : Env1 Z a0 n0 uu0 uu1 uu2 uu3 uu4 uu5 uu6 uu7 uu8 uu9 uu10 uu11) : (Jvm.Cond.code ({ cls := "bindery/bindings/BindingTypeNamedPinLaw", name := "inChars", desc := "()[C" } : Jvm.MethodName) method_2_code (0 : Nat) (Option.some (Jvm.ClassFile.FieldType.array Jvm.ClassFile.FieldType.char))).before a0 Z = true := V.1 _ (List.mem_of_getElem? (i := 7) rfl)
theorem wd8 (V : Env1 Z a0 n0 uu0 uu1 uu2 uu3 uu4 uu5 uu6 uu7 uu8 uu9 uu10 uu11) : (Jvm.Cond.arrayClass Jvm.ClassFile.FieldType.char).before a0 Z = true := V.1 _ (List.mem_of_getElem? (i := 8) rfl)
theorem wd9 (V : Env1 Z a0 n0 uu0 uu1 uu2 uu3 uu4 uu5 uu6 uu7 uu8 uu9 uu10 uu11) : (Jvm.Cond.methodLink "bindery/bindings/BindingTypeNamedPinLaw" (16 : Nat) ({ cls := "java/lang/String", name := "<init>", desc := "([C)V" } : Jvm.MethodName)).before a0 Z = true := V.1 _ (List.mem_of_getElem? (i := 9) rfl)
theorem wd10 (V : Env1 Z a0 n0 uu0 uu1 uu2 uu3 uu4 uu5 uu6 uu7 uu8 uu9 uu10 uu11) : (Jvm.Cond.instanceMethod ({ cls := "java/lang/String", name := "<init>", desc := "([C)V" } : Jvm.MethodName)).before a0 Z = true := V.1 _ (List.mem_of_getElem? (i := 10) rfl)
theorem wd11 (V : Env1 Z a0 n0 uu0 uu1 uu2 uu3 uu4 uu5 uu6 uu7 uu8 uu9 uu10 uu11) : (Jvm.Cond.code ({ cls := "java/lang/String", name := "<init>", desc := "([C)V" } : Jvm.MethodName) jdk_42_method_3_code (2 : Nat) (Option.none : Option Jvm.ClassFile.FieldType)).before a0 Z = true := V.1 _ (List.mem_of_getElem? (i := 11) rfl)
theorem wd12 (V : Env1 Z a0 n0 uu0 uu1 uu2 uu3 uu4 uu5 uu6 uu7 uu8 uu9 uu10 uu11) : (Jvm.Cond.methodLink "java/lang/String" (27 : Nat) ({ cls := "java/lang/String", name := "<init>", desc := "([CIILjava/lang/Void;)V" } : Jvm.MethodName)).before a0 Z = true := V.1 _ (List.mem_of_getElem? (i := 12) rfl)
theorem wd13 (V : Env1 Z a0 n0 uu0 uu1 uu2 uu3 uu4 uu5 uu6 uu7 uu8 uu9 uu10 uu11) : (Jvm.Cond.instanceMethod ({ cls := "java/lang/String", name := "<init>", desc := "([CIILjava/lang/Void;)V" } : Jvm.MethodName)).before a0 Z = true := V.1 _ (List.mem_of_getElem? (i := 13) rfl)
theorem wd15 (V : Env1 Z a0 n0 uu0 uu1 uu2 uu3 uu4 uu5 uu6 uu7 uu8 uu9 uu10 uu11) : (Jvm.Cond.code ({ cls := "java/lang/String", name := "<init>", desc := "([CIILjava/lang/Void;)V" } : Jvm.MethodName) jdk_42_method_149_code (6 : Nat) (Option.none : Option Jvm.ClassFile.FieldType)).before a0 Z = true := V.1 _ (List.mem_of_getElem? (i := 15) rfl)
theorem wd16 (V : Env1 Z a0 n0 uu0 uu1 uu2 uu3 uu4 uu5 uu6 uu7 uu8 uu9 uu10 uu11) : (Jvm.Cond.methodLink "java/lang/String" (1 : Nat) ({ cls := "java/lang/Object", name := "<init>", desc := "()V" } : Jvm.MethodName)).before a0 Z = true := V.1 _ (List.mem_of_getElem? (i := 16) rfl)
theorem wd17 (V : Env1 Z a0 n0 uu0 uu1 uu2 uu3 uu4 uu5 uu6 uu7 uu8 uu9 uu10 uu11) : (Jvm.Cond.instanceMethod ({ cls := "java/lang/Object", name := "<init>", desc := "()V" } : Jvm.MethodName)).before a0 Z = true := V.1 _ (List.mem_of_getElem? (i := 17) rfl)
theorem wd18 (V : Env1 Z a0 n0 uu0 uu1 uu2 uu3 uu4 uu5 uu6 uu7 uu8 uu9 uu10 uu11) : (Jvm.Cond.code ({ cls := "java/lang/Object", name := "<init>", desc := "()V" } : Jvm.MethodName) object_method_1_code (1 : Nat) (Option.none : Option Jvm.ClassFile.FieldType)).before a0 Z = true := V.1 _ (List.mem_of_getElem? (i := 18) rfl)
theorem wd19 (V : Env1 Z a0 n0 uu0 uu1 uu2 uu3 uu4 uu5 uu6 uu7 uu8 uu9 uu10 uu11) : (Jvm.Cond.fieldLink "java/lang/String" (38 : Nat) "java/lang/String" "COMPACT_STRINGS" "Z").before a0 Z = true := V.1 _ (List.mem_of_getElem? (i := 19) rfl)
theorem wd24 (V : Env1 Z a0 n0 uu0 uu1 uu2 uu3 uu4 uu5 uu6 uu7 uu8 uu9 uu10 uu11) : (Jvm.Cond.arrayClass Jvm.ClassFile.FieldType.byte).before a0 Z = true := V.1 _ (List.mem_of_getElem? (i := 24) rfl)
theorem wd31 (V : Env1 Z a0 n0 uu0 uu1 uu2 uu3 uu4 uu5 uu6 uu7 uu8 uu9 uu10 uu11) : (Jvm.Cond.fieldLink "java/lang/String" (15 : Nat) "java/lang/String" "coder" "B").before a0 Z = true := V.1 _ (List.mem_of_getElem? (i := 31) rfl)
theorem wd32 (V : Env1 Z a0 n0 uu0 uu1 uu2 uu3 uu4 uu5 uu6 uu7 uu8 uu9 uu10 uu11) : (Jvm.Cond.laysFinal "java/lang/String" "java/lang/String" "coder" "B").before a0 Z = true := V.1 _ (List.mem_of_getElem? (i := 32) rfl)
theorem wd33 (V : Env1 Z a0 n0 uu0 uu1 uu2 uu3 uu4 uu5 uu6 uu7 uu8 uu9 uu10 uu11) : (Jvm.Cond.fieldLink "java/lang/String" (9 : Nat) "java/lang/String" "value" "[B").before a0 Z = true := V.1 _ (List.mem_of_getElem? (i := 33) rfl)
theorem wd34 (V : Env1 Z a0 n0 uu0 uu1 uu2 uu3 uu4 uu5 uu6 uu7 uu8 uu9 uu10 uu11) : (Jvm.Cond.laysFinal "java/lang/String" "java/lang/String" "value" "[B").before a0 Z = true := V.1 _ (List.mem_of_getElem? (i := 34) rfl)
theorem wd35 (V : Env1 Z a0 n0 uu0 uu1 uu2 uu3 uu4 uu5 uu6 uu7 uu8 uu9 uu10 uu11) : (Jvm.Cond.fieldLink "bindery/bindings/BindingTypeNamedPinLaw" (19 : Nat) "bindery/bindings/BindingType" "DIRECTORY_IN" "Lbindery/bindings/BindingType;").before a0 Z = true := V.1 _ (List.mem_of_getElem? (i := 35) rfl)
theorem wd36 (V : Env1 Z a0 n0 uu0 uu1 uu2 uu3 uu4 uu5 uu6 uu7 uu8 uu9 uu10 uu11) : (Jvm.Cond.initialized "bindery/bindings/BindingType").before a0 Z = true := V.1 _ (List.mem_of_getElem? (i := 36) rfl)
theorem wd38 (V : Env1 Z a0 n0 uu0 uu1 uu2 uu3 uu4 uu5 uu6 uu7 uu8 uu9 uu10 uu11) : (Jvm.Cond.methodLink "bindery/bindings/BindingTypeNamedPinLaw" (41 : Nat) ({ cls := "bindery/bindings/BindingType", name := "named", desc := "(Ljava/lang/String;)Lbindery/bindings/BindingType;" } : Jvm.MethodName)).before a0 Z = true := V.1 _ (List.mem_of_getElem? (i := 38) rfl)
theorem wd39 (V : Env1 Z a0 n0 uu0 uu1 uu2 uu3 uu4 uu5 uu6 uu7 uu8 uu9 uu10 uu11) : (Jvm.Cond.static ({ cls := "bindery/bindings/BindingType", name := "named", desc := "(Ljava/lang/String;)Lbindery/bindings/BindingType;" } : Jvm.MethodName)).before a0 Z = true := V.1 _ (List.mem_of_getElem? (i := 39) rfl)
theorem wd40 (V : Env1 Z a0 n0 uu0 uu1 uu2 uu3 uu4 uu5 uu6 uu7 uu8 uu9 uu10 uu11) : (Jvm.Cond.code ({ cls := "bindery/bindings/BindingType", name := "named", desc := "(Ljava/lang/String;)Lbindery/bindings/BindingType;" } : Jvm.MethodName) prog_4_method_4_code (5 : Nat) (Option.some (Jvm.ClassFile.FieldType.object "bindery/bindings/BindingType"))).before a0 Z = true := V.1 _ (List.mem_of_getElem? (i := 40) rfl)
theorem wd41 (V : Env1 Z a0 n0 uu0 uu1 uu2 uu3 uu4 uu5 uu6 uu7 uu8 uu9 uu10 uu11) : (Jvm.Cond.methodLink "bindery/bindings/BindingType" (51 : Nat) ({ cls := "bindery/bindings/BindingType", name := "values", desc := "()[Lbindery/bindings/BindingType;" } : Jvm.MethodName)).before a0 Z = true := V.1 _ (List.mem_of_getElem? (i := 41) rfl)
theorem wd42 (V : Env1 Z a0 n0 uu0 uu1 uu2 uu3 uu4 uu5 uu6 uu7 uu8 uu9 uu10 uu11) : (Jvm.Cond.static ({ cls := "bindery/bindings/BindingType", name := "values", desc := "()[Lbindery/bindings/BindingType;" } : Jvm.MethodName)).before a0 Z = true := V.1 _ (List.mem_of_getElem? (i := 42) rfl)
theorem wd43 (V : Env1 Z a0 n0 uu0 uu1 uu2 uu3 uu4 uu5 uu6 uu7 uu8 uu9 uu10 uu11) : (Jvm.Cond.code ({ cls := "bindery/bindings/BindingType", name := "values", desc := "()[Lbindery/bindings/BindingType;" } : Jvm.MethodName) prog_4_method_1_code (0 : Nat) (Option.some (Jvm.ClassFile.FieldType.array (Jvm.ClassFile.FieldType.object "bindery/bindings/BindingType")))).before a0 Z = true := V.1 _ (List.mem_of_getElem? (i := 43) rfl)
theorem wd44 (V : Env1 Z a0 n0 uu0 uu1 uu2 uu3 uu4 uu5 uu6 uu7 uu8 uu9 uu10 uu11) : (Jvm.Cond.fieldLink "bindery/bindings/BindingType" (10 : Nat) "bindery/bindings/BindingType" "$VALUES" "[Lbindery/bindings/BindingType;").before a0 Z = true := V.1 _ (List.mem_of_getElem? (i := 44) rfl)
theorem wd46 (V : Env1 Z a0 n0 uu0 uu1 uu2 uu3 uu4 uu5 uu6 uu7 uu8 uu9 uu10 uu11) : (Jvm.Cond.methodLink "bindery/bindings/BindingType" (14 : Nat) ({ cls := "[Lbindery/bindings/BindingType;", name := "clone", desc := "()Ljava/lang/Object;" } : Jvm.MethodName)).before a0 Z = true := V.1 _ (List.mem_of_getElem? (i := 46) rfl)
theorem wd47 (V : Env1 Z a0 n0 uu0 uu1 uu2 uu3 uu4 uu5 uu6 uu7 uu8 uu9 uu10 uu11) : (Jvm.Cond.sameMethod "[Lbindery/bindings/BindingType;" "java/lang/Object" "clone" "()Ljava/lang/Object;").before a0 Z = true := V.1 _ (List.mem_of_getElem? (i := 47) rfl)
theorem wd49 (V : Env1 Z a0 n0 uu0 uu1 uu2 uu3 uu4 uu5 uu6 uu7 uu8 uu9 uu10 uu11) : (Jvm.Cond.instanceMethod ({ cls := "java/lang/Object", name := "clone", desc := "()Ljava/lang/Object;" } : Jvm.MethodName)).before a0 Z = true := V.1 _ (List.mem_of_getElem? (i := 49) rfl)
theorem wd50 (V : Env1 Z a0 n0 uu0 uu1 uu2 uu3 uu4 uu5 uu6 uu7 uu8 uu9 uu10 uu11) : (Jvm.Cond.selects "[Lbindery/bindings/BindingType;" ({ cls := "[Lbindery/bindings/BindingType;", name := "clone", desc := "()Ljava/lang/Object;" } : Jvm.MethodName) ({ cls := "java/lang/Object", name := "clone", desc := "()Ljava/lang/Object;" } : Jvm.MethodName)).before a0 Z = true := V.1 _ (List.mem_of_getElem? (i := 50) rfl)
theorem wd51 (V : Env1 Z a0 n0 uu0 uu1 uu2 uu3 uu4 uu5 uu6 uu7 uu8 uu9 uu10 uu11) : (Jvm.Cond.native ({ cls := "java/lang/Object", name := "clone", desc := "()Ljava/lang/Object;" } : Jvm.MethodName)).before a0 Z = true := V.1 _ (List.mem_of_getElem? (i := 51) rfl)
theorem wd52 (V : Env1 Z a0 n0 uu0 uu1 uu2 uu3 uu4 uu5 uu6 uu7 uu8 uu9 uu10 uu11) : (Jvm.Cond.castable "[Lbindery/bindings/BindingType;" "java/lang/Cloneable").before a0 Z = true := V.1 _ (List.mem_of_getElem? (i := 52) rfl)
theorem wd55 (V : Env1 Z a0 n0 uu0 uu1 uu2 uu3 uu4 uu5 uu6 uu7 uu8 uu9 uu10 uu11) : (Jvm.Cond.classLink "bindery/bindings/BindingType" (15 : Nat) "[Lbindery/bindings/BindingType;").before a0 Z = true := V.1 _ (List.mem_of_getElem? (i := 55) rfl)
theorem wd57 (V : Env1 Z a0 n0 uu0 uu1 uu2 uu3 uu4 uu5 uu6 uu7 uu8 uu9 uu10 uu11) : (Jvm.Cond.fieldLink "bindery/bindings/BindingType" (29 : Nat) "bindery/bindings/BindingType" "typeName" "Ljava/lang/String;").before a0 Z = true := V.1 _ (List.mem_of_getElem? (i := 57) rfl)
theorem wd59 (V : Env1 Z a0 n0 uu0 uu1 uu2 uu3 uu4 uu5 uu6 uu7 uu8 uu9 uu10 uu11) : (Jvm.Cond.methodLink "bindery/bindings/BindingType" (55 : Nat) ({ cls := "java/lang/String", name := "equals", desc := "(Ljava/lang/Object;)Z" } : Jvm.MethodName)).before a0 Z = true := V.1 _ (List.mem_of_getElem? (i := 59) rfl)
theorem wd60 (V : Env1 Z a0 n0 uu0 uu1 uu2 uu3 uu4 uu5 uu6 uu7 uu8 uu9 uu10 uu11) : (Jvm.Cond.declares ({ cls := "java/lang/String", name := "equals", desc := "(Ljava/lang/Object;)Z" } : Jvm.MethodName)).before a0 Z = true := V.1 _ (List.mem_of_getElem? (i := 60) rfl)
theorem wd61 (V : Env1 Z a0 n0 uu0 uu1 uu2 uu3 uu4 uu5 uu6 uu7 uu8 uu9 uu10 uu11) : (Jvm.Cond.instanceMethod ({ cls := "java/lang/String", name := "equals", desc := "(Ljava/lang/Object;)Z" } : Jvm.MethodName)).before a0 Z = true := V.1 _ (List.mem_of_getElem? (i := 61) rfl)
theorem wd62 (V : Env1 Z a0 n0 uu0 uu1 uu2 uu3 uu4 uu5 uu6 uu7 uu8 uu9 uu10 uu11) : (Jvm.Cond.selects "java/lang/String" ({ cls := "java/lang/String", name := "equals", desc := "(Ljava/lang/Object;)Z" } : Jvm.MethodName) ({ cls := "java/lang/String", name := "equals", desc := "(Ljava/lang/Object;)Z" } : Jvm.MethodName)).before a0 Z = true := V.1 _ (List.mem_of_getElem? (i := 62) rfl)
theorem wd63 (V : Env1 Z a0 n0 uu0 uu1 uu2 uu3 uu4 uu5 uu6 uu7 uu8 uu9 uu10 uu11) : (Jvm.Cond.code ({ cls := "java/lang/String", name := "equals", desc := "(Ljava/lang/Object;)Z" } : Jvm.MethodName) jdk_42_method_66_code (3 : Nat) (Option.some Jvm.ClassFile.FieldType.boolean)).before a0 Z = true := V.1 _ (List.mem_of_getElem? (i := 63) rfl)
theorem wd64 (V : Env1 Z a0 n0 uu0 uu1 uu2 uu3 uu4 uu5 uu6 uu7 uu8 uu9 uu10 uu11) : (Jvm.Cond.classLink "java/lang/String" (10 : Nat) "java/lang/String").before a0 Z = true := V.1 _ (List.mem_of_getElem? (i := 64) rfl)
theorem wd67 (V : Env1 Z a0 n0 uu0 uu1 uu2 uu3 uu4 uu5 uu6 uu7 uu8 uu9 uu10 uu11) : (Jvm.Cond.initialized "java/lang/StringLatin1").before a0 Z = true := V.1 _ (List.mem_of_getElem? (i := 67) rfl)
theorem wd69 (V : Env1 Z a0 n0 uu0 uu1 uu2 uu3 uu4 uu5 uu6 uu7 uu8 uu9 uu10 uu11) : (Jvm.Cond.stringLink "bindery/bindings/BindingTypeNamedPinLaw" (39 : Nat) "directory_out").before a0 Z = true := V.1 _ (List.mem_of_getElem? (i := 69) rfl)
theorem wd72 (V : Env1 Z a0 n0 uu0 uu1 uu2 uu3 uu4 uu5 uu6 uu7 uu8 uu9 uu10 uu11) : (Jvm.Cond.methodLink "bindery/bindings/BindingTypeNamedPinLaw" (25 : Nat) ({ cls := "bindery/bindings/BindingTypeNamedPinLaw", name := "outChars", desc := "()[C" } : Jvm.MethodName)).before a0 Z = true := V.1 _ (List.mem_of_getElem? (i := 72) rfl)
theorem wd73 (V : Env1 Z a0 n0 uu0 uu1 uu2 uu3 uu4 uu5 uu6 uu7 uu8 uu9 uu10 uu11) : (Jvm.Cond.static ({ cls := "bindery/bindings/BindingTypeNamedPinLaw", name := "outChars", desc := "()[C" } : Jvm.MethodName)).before a0 Z = true := V.1 _ (List.mem_of_getElem? (i := 73) rfl)
theorem wd74 (V : Env1 Z a0 n0 uu0 uu1 uu2 uu3 uu4 uu5 uu6 uu7 uu8 uu9 uu10 uu11) : (Jvm.Cond.code ({ cls := "bindery/bindings/BindingTypeNamedPinLaw", name := "outChars", desc := "()[C" } : Jvm.MethodName) method_3_code (0 : Nat) (Option.some (Jvm.ClassFile.FieldType.array Jvm.ClassFile.FieldType.char))).before a0 Z = true := V.1 _ (List.mem_of_getElem? (i := 74) rfl)
theorem wd75 (V : Env1 Z a0 n0 uu0 uu1 uu2 uu3 uu4 uu5 uu6 uu7 uu8 uu9 uu10 uu11) : (Jvm.Cond.fieldLink "bindery/bindings/BindingTypeNamedPinLaw" (28 : Nat) "bindery/bindings/BindingType" "DIRECTORY_OUT" "Lbindery/bindings/BindingType;").before a0 Z = true := V.1 _ (List.mem_of_getElem? (i := 75) rfl)
theorem wd76 (V : Env1 Z a0 n0 uu0 uu1 uu2 uu3 uu4 uu5 uu6 uu7 uu8 uu9 uu10 uu11) : (Jvm.Cond.stringLink "java/lang/String" (7 : Nat) "").before a0 Z = true := V.1 _ (List.mem_of_getElem? (i := 76) rfl)
theorem wd77 (V : Env1 Z a0 n0 uu0 uu1 uu2 uu3 uu4 uu5 uu6 uu7 uu8 uu9 uu10 uu11) : (Jvm.Cond.methodLink "bindery/bindings/BindingTypeNamedPinLaw" (31 : Nat) ({ cls := "java/lang/String", name := "valueOf", desc := "(C)Ljava/lang/String;" } : Jvm.MethodName)).before a0 Z = true := V.1 _ (List.mem_of_getElem? (i := 77) rfl)
theorem wd78 (V : Env1 Z a0 n0 uu0 uu1 uu2 uu3 uu4 uu5 uu6 uu7 uu8 uu9 uu10 uu11) : (Jvm.Cond.static ({ cls := "java/lang/String", name := "valueOf", desc := "(C)Ljava/lang/String;" } : Jvm.MethodName)).before a0 Z = true := V.1 _ (List.mem_of_getElem? (i := 78) rfl)
theorem wd79 (V : Env1 Z a0 n0 uu0 uu1 uu2 uu3 uu4 uu5 uu6 uu7 uu8 uu9 uu10 uu11) : (Jvm.Cond.code ({ cls := "java/lang/String", name := "valueOf", desc := "(C)Ljava/lang/String;" } : Jvm.MethodName) jdk_42_method_139_code (1 : Nat) (Option.some (Jvm.ClassFile.FieldType.object "java/lang/String"))).before a0 Z = true := V.1 _ (List.mem_of_getElem? (i := 79) rfl)
theorem wd80 (V : Env1 Z a0 n0 uu0 uu1 uu2 uu3 uu4 uu5 uu6 uu7 uu8 uu9 uu10 uu11) : (Jvm.Cond.methodLink "java/lang/String" (1015 : Nat) ({ cls := "java/lang/StringLatin1", name := "canEncode", desc := "(C)Z" } : Jvm.MethodName)).before a0 Z = true := V.1 _ (List.mem_of_getElem? (i := 80) rfl)
theorem wd81 (V : Env1 Z a0 n0 uu0 uu1 uu2 uu3 uu4 uu5 uu6 uu7 uu8 uu9 uu10 uu11) : (Jvm.Cond.static ({ cls := "java/lang/StringLatin1", name := "canEncode", desc := "(C)Z" } : Jvm.MethodName)).before a0 Z = true := V.1 _ (List.mem_of_getElem? (i := 81) rfl)
theorem wd82 (V : Env1 Z a0 n0 uu0 uu1 uu2 uu3 uu4 uu5 uu6 uu7 uu8 uu9 uu10 uu11) : (Jvm.Cond.code ({ cls := "java/lang/StringLatin1", name := "canEncode", desc := "(C)Z" } : Jvm.MethodName) jdk_43_method_3_code (1 : Nat) (Option.some Jvm.ClassFile.FieldType.boolean)).before a0 Z = true := V.1 _ (List.mem_of_getElem? (i := 82) rfl)
theorem wd83 (V : Env1 Z a0 n0 uu0 uu1 uu2 uu3 uu4 uu5 uu6 uu7 uu8 uu9 uu10 uu11) : (Jvm.Cond.methodLink "java/lang/String" (1018 : Nat) ({ cls := "java/lang/StringLatin1", name := "toBytes", desc := "(C)[B" } : Jvm.MethodName)).before a0 Z = true := V.1 _ (List.mem_of_getElem? (i := 83) rfl)
theorem wd84 (V : Env1 Z a0 n0 uu0 uu1 uu2 uu3 uu4 uu5 uu6 uu7 uu8 uu9 uu10 uu11) : (Jvm.Cond.static ({ cls := "java/lang/StringLatin1", name := "toBytes", desc := "(C)[B" } : Jvm.MethodName)).before a0 Z = true := V.1 _ (List.mem_of_getElem? (i := 84) rfl)
theorem wd85 (V : Env1 Z a0 n0 uu0 uu1 uu2 uu3 uu4 uu5 uu6 uu7 uu8 uu9 uu10 uu11) : (Jvm.Cond.code ({ cls := "java/lang/StringLatin1", name := "toBytes", desc := "(C)[B" } : Jvm.MethodName) jdk_43_method_46_code (1 : Nat) (Option.some (Jvm.ClassFile.FieldType.array Jvm.ClassFile.FieldType.byte))).before a0 Z = true := V.1 _ (List.mem_of_getElem? (i := 85) rfl)
theorem wd86 (V : Env1 Z a0 n0 uu0 uu1 uu2 uu3 uu4 uu5 uu6 uu7 uu8 uu9 uu10 uu11) : (Jvm.Cond.methodLink "java/lang/String" (209 : Nat) ({ cls := "java/lang/String", name := "<init>", desc := "([BB)V" } : Jvm.MethodName)).before a0 Z = true := V.1 _ (List.mem_of_getElem? (i := 86) rfl)
theorem wd87 (V : Env1 Z a0 n0 uu0 uu1 uu2 uu3 uu4 uu5 uu6 uu7 uu8 uu9 uu10 uu11) : (Jvm.Cond.instanceMethod ({ cls := "java/lang/String", name := "<init>", desc := "([BB)V" } : Jvm.MethodName)).before a0 Z = true := V.1 _ (List.mem_of_getElem? (i := 87) rfl)
theorem wd88 (V : Env1 Z a0 n0 uu0 uu1 uu2 uu3 uu4 uu5 uu6 uu7 uu8 uu9 uu10 uu11) : (Jvm.Cond.code ({ cls := "java/lang/String", name := "<init>", desc := "([BB)V" } : Jvm.MethodName) jdk_42_method_151_code (3 : Nat) (Option.none : Option Jvm.ClassFile.FieldType)).before a0 Z = true := V.1 _ (List.mem_of_getElem? (i := 88) rfl)
theorem wd89 (V : Env1 Z a0 n0 uu0 uu1 uu2 uu3 uu4 uu5 uu6 uu7 uu8 uu9 uu10 uu11) : (Jvm.Cond.stringLink "bindery/bindings/BindingTypeNamedPinLaw" (35 : Nat) "DIRECTORY_IN").before a0 Z = true := V.1 _ (List.mem_of_getElem? (i := 89) rfl)
theorem wd90 (V : Env1 Z a0 n0 uu0 uu1 uu2 uu3 uu4 uu5 uu6 uu7 uu8 uu9 uu10 uu11) : (Jvm.Cond.stringLink "bindery/bindings/BindingTypeNamedPinLaw" (37 : Nat) "Directory-In").before a0 Z = true := V.1 _ (List.mem_of_getElem? (i := 90) rfl)
theorem wd91 (V : Env1 Z a0 n0 uu0 uu1 uu2 uu3 uu4 uu5 uu6 uu7 uu8 uu9 uu10 uu11) : (Jvm.Cond.stringLink "bindery/bindings/BindingTypeNamedPinLaw" (36 : Nat) "DIRECTORY_OUT").before a0 Z = true := V.1 _ (List.mem_of_getElem? (i := 91) rfl)
set_option maxRecDepth 65536 in
theorem wS (V : Env1 Z a0 n0 uu0 uu1 uu2 uu3 uu4 uu5 uu6 uu7 uu8 uu9 uu10 uu11) : ∀ a ∈ Bundle.stringAtoms, a.before a0 Z = true := fun d hd => V.1 d ((by decide +kernel : ∀ d ∈ Bundle.stringAtoms, d ∈ tables_1) d hd)
theorem pd_0 : parseMethodDescriptor "()[C" = some ⟨[], (some (.array .char))⟩ := by decide +kernel
theorem pd_1 : parseMethodDescriptor "()[Lbindery/bindings/BindingType;" = some ⟨[], (some (.array (.object "bindery/bindings/BindingType")))⟩ := by decide +kernel
theorem pd_2 : parseMethodDescriptor "(Ljava/lang/String;)Lbindery/bindings/BindingType;" = some ⟨[(.object "java/lang/String")], (some (.object "bindery/bindings/BindingType"))⟩ := by decide +kernel
theorem pd_3 : parseMethodDescriptor "(Ljava/lang/Object;)Z" = some ⟨[(.object "java/lang/Object")], (some .boolean)⟩ := by decide +kernel
theorem pd_4 : parseMethodDescriptor "([CIILjava/lang/Void;)V" = some ⟨[(.array .char), .int, .int, (.object "java/lang/Void")], none⟩ := by decide +kernel
theorem pd_5 : parseMethodDescriptor "([C)V" = some ⟨[(.array .char)], none⟩ := by decide +kernel
theorem pd_6 : parseMethodDescriptor "(C)Z" = some ⟨[.char], (some .boolean)⟩ := by decide +kernel
theorem pd_7 : parseMethodDescriptor "(C)[B" = some ⟨[.char], (some (.array .byte))⟩ := by decide +kernel
theorem pd_8 : parseMethodDescriptor "([BB)V" = some ⟨[(.array .byte), .byte], none⟩ := by decide +kernel
theorem pd_9 : parseMethodDescriptor "(C)Ljava/lang/String;" = some ⟨[.char], (some (.object "java/lang/String"))⟩ := by decide +kernel
set_option maxRecDepth 65536 in
theorem strw (V : Env1 Z a0 n0 uu0 uu1 uu2 uu3 uu4 uu5 uu6 uu7 uu8 uu9 uu10 uu11) : ∀ d ∈ StrChars.Road.words, d.before a0 Z = true := fun d hd => V.1 d ((by decide +kernel : ∀ d ∈ StrChars.Road.words, d ∈ tables_1) d hd)
set_option maxRecDepth 65536 in
theorem strwEq (V : Env1 Z a0 n0 uu0 uu1 uu2 uu3 uu4 uu5 uu6 uu7 uu8 uu9 uu10 uu11) : ∀ d ∈ StrChars.Road.wordsEq, d.before a0 Z = true := fun d hd => V.1 d ((by decide +kernel : ∀ d ∈ StrChars.Road.wordsEq, d ∈ tables_1) d hd)
theorem D7_0 : decode method_2_code 0 = .ok (.bipush 12, 2) := by decide +kernel
theorem D7_2 : decode method_2_code 2 = .ok (.newarray .char, 2) := by decide +kernel
theorem D7_4 : decode method_2_code 4 = .ok (.dup, 1) := by decide +kernel
theorem D7_5 : decode method_2_code 5 = .ok (.iconst 0, 1) := by decide +kernel
theorem D7_6 : decode method_2_code 6 = .ok (.bipush 100, 2) := by decide +kernel
theorem D7_8 : decode method_2_code 8 = .ok (.castore, 1) := by decide +kernel
theorem D7_9 : decode method_2_code 9 = .ok (.dup, 1) := by decide +kernel
theorem D7_10 : decode method_2_code 10 = .ok (.iconst 1, 1) := by decide +kernel
theorem D7_11 : decode method_2_code 11 = .ok (.bipush 105, 2) := by decide +kernel
theorem D7_13 : decode method_2_code 13 = .ok (.castore, 1) := by decide +kernel
theorem D7_14 : decode method_2_code 14 = .ok (.dup, 1) := by decide +kernel
theorem D7_15 : decode method_2_code 15 = .ok (.iconst 2, 1) := by decide +kernel
theorem D7_16 : decode method_2_code 16 = .ok (.bipush 114, 2) := by decide +kernel
theorem D7_18 : decode method_2_code 18 = .ok (.castore, 1) := by decide +kernel
theorem D7_19 : decode method_2_code 19 = .ok (.dup, 1) := by decide +kernel
theorem D7_20 : decode method_2_code 20 = .ok (.iconst 3, 1) := by decide +kernel
theorem D7_21 : decode method_2_code 21 = .ok (.bipush 101, 2) := by decide +kernel
theorem D7_23 : decode method_2_code 23 = .ok (.castore, 1) := by decide +kernel
theorem D7_24 : decode method_2_code 24 = .ok (.dup, 1) := by decide +kernel
theorem D7_25 : decode method_2_code 25 = .ok (.iconst 4, 1) := by decide +kernel
theorem D7_26 : decode method_2_code 26 = .ok (.bipush 99, 2) := by decide +kernel
theorem D7_28 : decode method_2_code 28 = .ok (.castore, 1) := by decide +kernel
theorem D7_29 : decode method_2_code 29 = .ok (.dup, 1) := by decide +kernel
theorem D7_30 : decode method_2_code 30 = .ok (.iconst 5, 1) := by decide +kernel
theorem D7_31 : decode method_2_code 31 = .ok (.bipush 116, 2) := by decide +kernel
theorem D7_33 : decode method_2_code 33 = .ok (.castore, 1) := by decide +kernel
theorem D7_34 : decode method_2_code 34 = .ok (.dup, 1) := by decide +kernel
theorem D7_35 : decode method_2_code 35 = .ok (.bipush 6, 2) := by decide +kernel
theorem D7_37 : decode method_2_code 37 = .ok (.bipush 111, 2) := by decide +kernel
theorem D7_39 : decode method_2_code 39 = .ok (.castore, 1) := by decide +kernel
theorem D7_40 : decode method_2_code 40 = .ok (.dup, 1) := by decide +kernel
theorem D7_41 : decode method_2_code 41 = .ok (.bipush 7, 2) := by decide +kernel
theorem D7_43 : decode method_2_code 43 = .ok (.bipush 114, 2) := by decide +kernel
theorem D7_45 : decode method_2_code 45 = .ok (.castore, 1) := by decide +kernel
theorem D7_46 : decode method_2_code 46 = .ok (.dup, 1) := by decide +kernel
theorem D7_47 : decode method_2_code 47 = .ok (.bipush 8, 2) := by decide +kernel
theorem D7_49 : decode method_2_code 49 = .ok (.bipush 121, 2) := by decide +kernel
theorem D7_51 : decode method_2_code 51 = .ok (.castore, 1) := by decide +kernel
theorem D7_52 : decode method_2_code 52 = .ok (.dup, 1) := by decide +kernel
theorem D7_53 : decode method_2_code 53 = .ok (.bipush 9, 2) := by decide +kernel
theorem D7_55 : decode method_2_code 55 = .ok (.bipush 45, 2) := by decide +kernel
theorem D7_57 : decode method_2_code 57 = .ok (.castore, 1) := by decide +kernel
theorem D7_58 : decode method_2_code 58 = .ok (.dup, 1) := by decide +kernel
theorem D7_59 : decode method_2_code 59 = .ok (.bipush 10, 2) := by decide +kernel
theorem D7_61 : decode method_2_code 61 = .ok (.bipush 105, 2) := by decide +kernel
theorem D7_63 : decode method_2_code 63 = .ok (.castore, 1) := by decide +kernel
theorem D7_64 : decode method_2_code 64 = .ok (.dup, 1) := by decide +kernel
theorem D7_65 : decode method_2_code 65 = .ok (.bipush 11, 2) := by decide +kernel
theorem D7_67 : decode method_2_code 67 = .ok (.bipush 110, 2) := by decide +kernel
theorem D7_69 : decode method_2_code 69 = .ok (.castore, 1) := by decide +kernel
theorem D7_70 : decode method_2_code 70 = .ok (.areturn, 1) := by decide +kernel
theorem D10_0 : decode prog_4_method_4_code 0 = .ok (.invokestatic 51, 3) := by decide +kernel
theorem D9_0 : decode prog_4_method_1_code 0 = .ok (.getstatic 10, 3) := by decide +kernel
theorem D9_3 : decode prog_4_method_1_code 3 = .ok (.invokevirtual 14, 3) := by decide +kernel
theorem D9_6 : decode prog_4_method_1_code 6 = .ok (.checkcast 15, 3) := by decide +kernel
theorem D9_9 : decode prog_4_method_1_code 9 = .ok (.areturn, 1) := by decide +kernel
theorem D10_3 : decode prog_4_method_4_code 3 = .ok (.astore_n 1, 1) := by decide +kernel
theorem D10_4 : decode prog_4_method_4_code 4 = .ok (.aload_n 1, 1) := by decide +kernel
theorem D10_5 : decode prog_4_method_4_code 5 = .ok (.arraylength, 1) := by decide +kernel
theorem D10_6 : decode prog_4_method_4_code 6 = .ok (.istore_n 2, 1) := by decide +kernel
theorem D10_7 : decode prog_4_method_4_code 7 = .ok (.iconst 0, 1) := by decide +kernel
theorem D10_8 : decode prog_4_method_4_code 8 = .ok (.istore_n 3, 1) := by decide +kernel
theorem D10_9 : decode prog_4_method_4_code 9 = .ok (.iload_n 3, 1) := by decide +kernel
theorem D10_10 : decode prog_4_method_4_code 10 = .ok (.iload_n 2, 1) := by decide +kernel
theorem D10_11 : decode prog_4_method_4_code 11 = .ok (.if_icmp .ge 29, 3) := by decide +kernel
theorem D10_14 : decode prog_4_method_4_code 14 = .ok (.aload_n 1, 1) := by decide +kernel
theorem D10_15 : decode prog_4_method_4_code 15 = .ok (.iload_n 3, 1) := by decide +kernel
theorem D10_16 : decode prog_4_method_4_code 16 = .ok (.aaload, 1) := by decide +kernel
theorem D10_17 : decode prog_4_method_4_code 17 = .ok (.astore 4, 2) := by decide +kernel
theorem D10_19 : decode prog_4_method_4_code 19 = .ok (.aload 4, 2) := by decide +kernel
theorem D10_21 : decode prog_4_method_4_code 21 = .ok (.getfield 29, 3) := by decide +kernel
theorem D10_24 : decode prog_4_method_4_code 24 = .ok (.aload_n 0, 1) := by decide +kernel
theorem D10_25 : decode prog_4_method_4_code 25 = .ok (.invokevirtual 55, 3) := by decide +kernel
theorem D10_28 : decode prog_4_method_4_code 28 = .ok (.ifCond .eq 6, 3) := by decide +kernel
theorem D10_31 : decode prog_4_method_4_code 31 = .ok (.aload 4, 2) := by decide +kernel
theorem D10_33 : decode prog_4_method_4_code 33 = .ok (.areturn, 1) := by decide +kernel
theorem D8_0 : decode method_3_code 0 = .ok (.bipush 13, 2) := by decide +kernel
theorem D8_2 : decode method_3_code 2 = .ok (.newarray .char, 2) := by decide +kernel
theorem D8_4 : decode method_3_code 4 = .ok (.dup, 1) := by decide +kernel
theorem D8_5 : decode method_3_code 5 = .ok (.iconst 0, 1) := by decide +kernel
theorem D8_6 : decode method_3_code 6 = .ok (.bipush 100, 2) := by decide +kernel
theorem D8_8 : decode method_3_code 8 = .ok (.castore, 1) := by decide +kernel
theorem D8_9 : decode method_3_code 9 = .ok (.dup, 1) := by decide +kernel
theorem D8_10 : decode method_3_code 10 = .ok (.iconst 1, 1) := by decide +kernel
theorem D8_11 : decode method_3_code 11 = .ok (.bipush 105, 2) := by decide +kernel
theorem D8_13 : decode method_3_code 13 = .ok (.castore, 1) := by decide +kernel
theorem D8_14 : decode method_3_code 14 = .ok (.dup, 1) := by decide +kernel
theorem D8_15 : decode method_3_code 15 = .ok (.iconst 2, 1) := by decide +kernel
theorem D8_16 : decode method_3_code 16 = .ok (.bipush 114, 2) := by decide +kernel
theorem D8_18 : decode method_3_code 18 = .ok (.castore, 1) := by decide +kernel
theorem D8_19 : decode method_3_code 19 = .ok (.dup, 1) := by decide +kernel
theorem D8_20 : decode method_3_code 20 = .ok (.iconst 3, 1) := by decide +kernel
theorem D8_21 : decode method_3_code 21 = .ok (.bipush 101, 2) := by decide +kernel
theorem D8_23 : decode method_3_code 23 = .ok (.castore, 1) := by decide +kernel
theorem D8_24 : decode method_3_code 24 = .ok (.dup, 1) := by decide +kernel
theorem D8_25 : decode method_3_code 25 = .ok (.iconst 4, 1) := by decide +kernel
theorem D8_26 : decode method_3_code 26 = .ok (.bipush 99, 2) := by decide +kernel
theorem D8_28 : decode method_3_code 28 = .ok (.castore, 1) := by decide +kernel
theorem D8_29 : decode method_3_code 29 = .ok (.dup, 1) := by decide +kernel
theorem D8_30 : decode method_3_code 30 = .ok (.iconst 5, 1) := by decide +kernel
theorem D8_31 : decode method_3_code 31 = .ok (.bipush 116, 2) := by decide +kernel
theorem D8_33 : decode method_3_code 33 = .ok (.castore, 1) := by decide +kernel
theorem D8_34 : decode method_3_code 34 = .ok (.dup, 1) := by decide +kernel
theorem D8_35 : decode method_3_code 35 = .ok (.bipush 6, 2) := by decide +kernel
theorem D8_37 : decode method_3_code 37 = .ok (.bipush 111, 2) := by decide +kernel
theorem D8_39 : decode method_3_code 39 = .ok (.castore, 1) := by decide +kernel
theorem D8_40 : decode method_3_code 40 = .ok (.dup, 1) := by decide +kernel
theorem D8_41 : decode method_3_code 41 = .ok (.bipush 7, 2) := by decide +kernel
theorem D8_43 : decode method_3_code 43 = .ok (.bipush 114, 2) := by decide +kernel
theorem D8_45 : decode method_3_code 45 = .ok (.castore, 1) := by decide +kernel
theorem D8_46 : decode method_3_code 46 = .ok (.dup, 1) := by decide +kernel
theorem D8_47 : decode method_3_code 47 = .ok (.bipush 8, 2) := by decide +kernel
theorem D8_49 : decode method_3_code 49 = .ok (.bipush 121, 2) := by decide +kernel
theorem D8_51 : decode method_3_code 51 = .ok (.castore, 1) := by decide +kernel
theorem D8_52 : decode method_3_code 52 = .ok (.dup, 1) := by decide +kernel
theorem D8_53 : decode method_3_code 53 = .ok (.bipush 9, 2) := by decide +kernel
theorem D8_55 : decode method_3_code 55 = .ok (.bipush 45, 2) := by decide +kernel
theorem D8_57 : decode method_3_code 57 = .ok (.castore, 1) := by decide +kernel
theorem D8_58 : decode method_3_code 58 = .ok (.dup, 1) := by decide +kernel
theorem D8_59 : decode method_3_code 59 = .ok (.bipush 10, 2) := by decide +kernel
theorem D8_61 : decode method_3_code 61 = .ok (.bipush 111, 2) := by decide +kernel
theorem D8_63 : decode method_3_code 63 = .ok (.castore, 1) := by decide +kernel
theorem D8_64 : decode method_3_code 64 = .ok (.dup, 1) := by decide +kernel
theorem D8_65 : decode method_3_code 65 = .ok (.bipush 11, 2) := by decide +kernel
theorem D8_67 : decode method_3_code 67 = .ok (.bipush 117, 2) := by decide +kernel
theorem D8_69 : decode method_3_code 69 = .ok (.castore, 1) := by decide +kernel
theorem D8_70 : decode method_3_code 70 = .ok (.dup, 1) := by decide +kernel
theorem D8_71 : decode method_3_code 71 = .ok (.bipush 12, 2) := by decide +kernel
theorem D8_73 : decode method_3_code 73 = .ok (.bipush 116, 2) := by decide +kernel
theorem D8_75 : decode method_3_code 75 = .ok (.castore, 1) := by decide +kernel
theorem D8_76 : decode method_3_code 76 = .ok (.areturn, 1) := by decide +kernel
theorem D10_34 : decode prog_4_method_4_code 34 = .ok (.iinc 3 1, 3) := by decide +kernel
theorem D10_37 : decode prog_4_method_4_code 37 = .ok (.goto (-28), 3) := by decide +kernel
theorem D10_40 : decode prog_4_method_4_code 40 = .ok (.aconst_null, 1) := by decide +kernel
theorem D10_41 : decode prog_4_method_4_code 41 = .ok (.areturn, 1) := by decide +kernel
theorem D4_0 : decode jdk_42_method_66_code 0 = .ok (.aload_n 0, 1) := by decide +kernel
theorem D4_1 : decode jdk_42_method_66_code 1 = .ok (.aload_n 1, 1) := by decide +kernel
theorem D4_2 : decode jdk_42_method_66_code 2 = .ok (.if_acmp .ne 5, 3) := by decide +kernel
theorem D4_7 : decode jdk_42_method_66_code 7 = .ok (.aload_n 1, 1) := by decide +kernel
theorem D4_8 : decode jdk_42_method_66_code 8 = .ok (.instanceof 10, 3) := by decide +kernel
theorem D4_11 : decode jdk_42_method_66_code 11 = .ok (.ifCond .eq 43, 3) := by decide +kernel
theorem D4_54 : decode jdk_42_method_66_code 54 = .ok (.iconst 0, 1) := by decide +kernel
theorem D4_55 : decode jdk_42_method_66_code 55 = .ok (.ireturn, 1) := by decide +kernel
theorem D3_0 : decode jdk_42_method_3_code 0 = .ok (.aload_n 0, 1) := by decide +kernel
theorem D3_1 : decode jdk_42_method_3_code 1 = .ok (.aload_n 1, 1) := by decide +kernel
theorem D3_2 : decode jdk_42_method_3_code 2 = .ok (.iconst 0, 1) := by decide +kernel
theorem D3_3 : decode jdk_42_method_3_code 3 = .ok (.aload_n 1, 1) := by decide +kernel
theorem D3_4 : decode jdk_42_method_3_code 4 = .ok (.arraylength, 1) := by decide +kernel
theorem D3_5 : decode jdk_42_method_3_code 5 = .ok (.aconst_null, 1) := by decide +kernel
theorem D3_6 : decode jdk_42_method_3_code 6 = .ok (.invokespecial 27, 3) := by decide +kernel
theorem D1_0 : decode jdk_42_method_149_code 0 = .ok (.aload_n 0, 1) := by decide +kernel
theorem D1_1 : decode jdk_42_method_149_code 1 = .ok (.invokespecial 1, 3) := by decide +kernel
theorem D1_4 : decode jdk_42_method_149_code 4 = .ok (.iload_n 3, 1) := by decide +kernel
theorem D1_5 : decode jdk_42_method_149_code 5 = .ok (.ifCond .ne 22, 3) := by decide +kernel
theorem D1_8 : decode jdk_42_method_149_code 8 = .ok (.aload_n 0, 1) := by decide +kernel
theorem D1_9 : decode jdk_42_method_149_code 9 = .ok (.ldc 7, 2) := by decide +kernel
theorem D1_11 : decode jdk_42_method_149_code 11 = .ok (.getfield 9, 3) := by decide +kernel
theorem D1_14 : decode jdk_42_method_149_code 14 = .ok (.putfield 9, 3) := by decide +kernel
theorem D1_17 : decode jdk_42_method_149_code 17 = .ok (.aload_n 0, 1) := by decide +kernel
theorem D1_18 : decode jdk_42_method_149_code 18 = .ok (.ldc 7, 2) := by decide +kernel
theorem D1_20 : decode jdk_42_method_149_code 20 = .ok (.getfield 15, 3) := by decide +kernel
theorem D1_23 : decode jdk_42_method_149_code 23 = .ok (.putfield 15, 3) := by decide +kernel
theorem D1_26 : decode jdk_42_method_149_code 26 = .ok (.return_, 1) := by decide +kernel
theorem D3_9 : decode jdk_42_method_3_code 9 = .ok (.return_, 1) := by decide +kernel
theorem D0_0 : decode jdk_42_method_139_code 0 = .ok (.getstatic 38, 3) := by decide +kernel
theorem D0_3 : decode jdk_42_method_139_code 3 = .ok (.ifCond .eq 23, 3) := by decide +kernel
theorem D0_6 : decode jdk_42_method_139_code 6 = .ok (.iload_n 0, 1) := by decide +kernel
theorem D0_7 : decode jdk_42_method_139_code 7 = .ok (.invokestatic 1015, 3) := by decide +kernel
theorem D5_0 : decode jdk_43_method_3_code 0 = .ok (.iload_n 0, 1) := by decide +kernel
theorem D5_1 : decode jdk_43_method_3_code 1 = .ok (.sipush 255, 3) := by decide +kernel
theorem D5_4 : decode jdk_43_method_3_code 4 = .ok (.if_icmp .gt 7, 3) := by decide +kernel
theorem D5_7 : decode jdk_43_method_3_code 7 = .ok (.iconst 1, 1) := by decide +kernel
theorem D5_8 : decode jdk_43_method_3_code 8 = .ok (.goto 4, 3) := by decide +kernel
theorem D5_12 : decode jdk_43_method_3_code 12 = .ok (.ireturn, 1) := by decide +kernel
theorem D0_10 : decode jdk_42_method_139_code 10 = .ok (.ifCond .eq 16, 3) := by decide +kernel
theorem D0_13 : decode jdk_42_method_139_code 13 = .ok (.new 10, 3) := by decide +kernel
theorem D0_16 : decode jdk_42_method_139_code 16 = .ok (.dup, 1) := by decide +kernel
theorem D0_17 : decode jdk_42_method_139_code 17 = .ok (.iload_n 0, 1) := by decide +kernel
theorem D0_18 : decode jdk_42_method_139_code 18 = .ok (.invokestatic 1018, 3) := by decide +kernel
theorem D6_0 : decode jdk_43_method_46_code 0 = .ok (.iconst 1, 1) := by decide +kernel
theorem D6_1 : decode jdk_43_method_46_code 1 = .ok (.newarray .byte, 2) := by decide +kernel
theorem D6_3 : decode jdk_43_method_46_code 3 = .ok (.dup, 1) := by decide +kernel
theorem D6_4 : decode jdk_43_method_46_code 4 = .ok (.iconst 0, 1) := by decide +kernel
theorem D6_5 : decode jdk_43_method_46_code 5 = .ok (.iload_n 0, 1) := by decide +kernel
theorem D6_6 : decode jdk_43_method_46_code 6 = .ok (.i2b, 1) := by decide +kernel
theorem D6_7 : decode jdk_43_method_46_code 7 = .ok (.bastore, 1) := by decide +kernel
theorem D6_8 : decode jdk_43_method_46_code 8 = .ok (.areturn, 1) := by decide +kernel
theorem D0_21 : decode jdk_42_method_139_code 21 = .ok (.iconst 0, 1) := by decide +kernel
theorem D0_22 : decode jdk_42_method_139_code 22 = .ok (.invokespecial 209, 3) := by decide +kernel
theorem D2_0 : decode jdk_42_method_151_code 0 = .ok (.aload_n 0, 1) := by decide +kernel
theorem D2_1 : decode jdk_42_method_151_code 1 = .ok (.invokespecial 1, 3) := by decide +kernel
theorem D2_4 : decode jdk_42_method_151_code 4 = .ok (.aload_n 0, 1) := by decide +kernel
theorem D2_5 : decode jdk_42_method_151_code 5 = .ok (.aload_n 1, 1) := by decide +kernel
theorem D2_6 : decode jdk_42_method_151_code 6 = .ok (.putfield 9, 3) := by decide +kernel
theorem D2_9 : decode jdk_42_method_151_code 9 = .ok (.aload_n 0, 1) := by decide +kernel
theorem D2_10 : decode jdk_42_method_151_code 10 = .ok (.iload_n 2, 1) := by decide +kernel
theorem D2_11 : decode jdk_42_method_151_code 11 = .ok (.putfield 15, 3) := by decide +kernel
theorem D2_14 : decode jdk_42_method_151_code 14 = .ok (.return_, 1) := by decide +kernel
theorem D0_25 : decode jdk_42_method_139_code 25 = .ok (.areturn, 1) := by decide +kernel
theorem own_r12 (x : Int32) : (x &&& 2147483647) % 12 = 0 ∨ (x &&& 2147483647) % 12 = 1 ∨ (x &&& 2147483647) % 12 = 2 ∨ (x &&& 2147483647) % 12 = 3 ∨ (x &&& 2147483647) % 12 = 4 ∨ (x &&& 2147483647) % 12 = 5 ∨ (x &&& 2147483647) % 12 = 6 ∨ (x &&& 2147483647) % 12 = 7 ∨ (x &&& 2147483647) % 12 = 8 ∨ (x &&& 2147483647) % 12 = 9 ∨ (x &&& 2147483647) % 12 = 10 ∨ (x &&& 2147483647) % 12 = 11 := by
  obtain ⟨h1, h2⟩ := own_rem (x := x) (k := 12) (by decide)
  have e : (12 : Int32).toInt = 12 := rfl
  rw [e] at h2
  generalize (x &&& 2147483647) % 12 = k at h1 h2
  have key : ∀ j : Int32, k.toInt = j.toInt → k = j := fun j h => Int32.toInt_inj.mp h
  have hs : k.toInt = 0 ∨ k.toInt = 1 ∨ k.toInt = 2 ∨ k.toInt = 3 ∨ k.toInt = 4 ∨ k.toInt = 5 ∨ k.toInt = 6 ∨ k.toInt = 7 ∨ k.toInt = 8 ∨ k.toInt = 9 ∨ k.toInt = 10 ∨ k.toInt = 11 := by omega
  rcases hs with h | h | h | h | h | h | h | h | h | h | h | h
  · exact (Or.inl (key 0 h))
  · exact (Or.inr (Or.inl (key 1 h)))
  · exact (Or.inr (Or.inr (Or.inl (key 2 h))))
  · exact (Or.inr (Or.inr (Or.inr (Or.inl (key 3 h)))))
  · exact (Or.inr (Or.inr (Or.inr (Or.inr (Or.inl (key 4 h))))))
  · exact (Or.inr (Or.inr (Or.inr (Or.inr (Or.inr (Or.inl (key 5 h)))))))
  · exact (Or.inr (Or.inr (Or.inr (Or.inr (Or.inr (Or.inr (Or.inl (key 6 h))))))))
  · exact (Or.inr (Or.inr (Or.inr (Or.inr (Or.inr (Or.inr (Or.inr (Or.inl (key 7 h)))))))))
  · exact (Or.inr (Or.inr (Or.inr (Or.inr (Or.inr (Or.inr (Or.inr (Or.inr (Or.inl (key 8 h))))))))))
  · exact (Or.inr (Or.inr (Or.inr (Or.inr (Or.inr (Or.inr (Or.inr (Or.inr (Or.inr (Or.inl (key 9 h)))))))))))
  · exact (Or.inr (Or.inr (Or.inr (Or.inr (Or.inr (Or.inr (Or.inr (Or.inr (Or.inr (Or.inr (Or.inl (key 10 h))))))))))))
  · exact (Or.inr (Or.inr (Or.inr (Or.inr (Or.inr (Or.inr (Or.inr (Or.inr (Or.inr (Or.inr (Or.inr (key 11 h))))))))))))
theorem own_r13 (x : Int32) : (x &&& 2147483647) % 13 = 0 ∨ (x &&& 2147483647) % 13 = 1 ∨ (x &&& 2147483647) % 13 = 2 ∨ (x &&& 2147483647) % 13 = 3 ∨ (x &&& 2147483647) % 13 = 4 ∨ (x &&& 2147483647) % 13 = 5 ∨ (x &&& 2147483647) % 13 = 6 ∨ (x &&& 2147483647) % 13 = 7 ∨ (x &&& 2147483647) % 13 = 8 ∨ (x &&& 2147483647) % 13 = 9 ∨ (x &&& 2147483647) % 13 = 10 ∨ (x &&& 2147483647) % 13 = 11 ∨ (x &&& 2147483647) % 13 = 12 := by
  obtain ⟨h1, h2⟩ := own_rem (x := x) (k := 13) (by decide)
  have e : (13 : Int32).toInt = 13 := rfl
  rw [e] at h2
  generalize (x &&& 2147483647) % 13 = k at h1 h2
  have key : ∀ j : Int32, k.toInt = j.toInt → k = j := fun j h => Int32.toInt_inj.mp h
  have hs : k.toInt = 0 ∨ k.toInt = 1 ∨ k.toInt = 2 ∨ k.toInt = 3 ∨ k.toInt = 4 ∨ k.toInt = 5 ∨ k.toInt = 6 ∨ k.toInt = 7 ∨ k.toInt = 8 ∨ k.toInt = 9 ∨ k.toInt = 10 ∨ k.toInt = 11 ∨ k.toInt = 12 := by omega
  rcases hs with h | h | h | h | h | h | h | h | h | h | h | h | h
  · exact (Or.inl (key 0 h))
  · exact (Or.inr (Or.inl (key 1 h)))
  · exact (Or.inr (Or.inr (Or.inl (key 2 h))))
  · exact (Or.inr (Or.inr (Or.inr (Or.inl (key 3 h)))))
  · exact (Or.inr (Or.inr (Or.inr (Or.inr (Or.inl (key 4 h))))))
  · exact (Or.inr (Or.inr (Or.inr (Or.inr (Or.inr (Or.inl (key 5 h)))))))
  · exact (Or.inr (Or.inr (Or.inr (Or.inr (Or.inr (Or.inr (Or.inl (key 6 h))))))))
  · exact (Or.inr (Or.inr (Or.inr (Or.inr (Or.inr (Or.inr (Or.inr (Or.inl (key 7 h)))))))))
  · exact (Or.inr (Or.inr (Or.inr (Or.inr (Or.inr (Or.inr (Or.inr (Or.inr (Or.inl (key 8 h))))))))))
  · exact (Or.inr (Or.inr (Or.inr (Or.inr (Or.inr (Or.inr (Or.inr (Or.inr (Or.inr (Or.inl (key 9 h)))))))))))
  · exact (Or.inr (Or.inr (Or.inr (Or.inr (Or.inr (Or.inr (Or.inr (Or.inr (Or.inr (Or.inr (Or.inl (key 10 h))))))))))))
  · exact (Or.inr (Or.inr (Or.inr (Or.inr (Or.inr (Or.inr (Or.inr (Or.inr (Or.inr (Or.inr (Or.inr (Or.inl (key 11 h)))))))))))))
  · exact (Or.inr (Or.inr (Or.inr (Or.inr (Or.inr (Or.inr (Or.inr (Or.inr (Or.inr (Or.inr (Or.inr (Or.inr (key 12 h)))))))))))))
set_option maxRecDepth 65536 in
set_option maxHeartbeats 40000000 in
theorem m1_inChars (V : Env1 Z a0 n0 uu0 uu1 uu2 uu3 uu4 uu5 uu6 uu7 uu8 uu9 uu10 uu11)  (h0 : Heap) (hO : Old Z n0 h0)  :
    Met Z a0 ELs True n0 l (⟨"bindery/bindings/BindingTypeNamedPinLaw", "inChars", "()[C"⟩ : MethodName) method_2_code 0 (Option.some (FieldType.array FieldType.char)) ({ frames := 0, cells := 1, slots := 12, locals := 0 } : Room) #[] h0 [] (fun v h so => (∃ a2 : Addr, ∃ k5 : ClassId, v = some (.ref a2) ∧ so = [] ∧ Keep h0 h [] ∧ h0.size ≤ a2 ∧ Arv Z h a2 k5 .char 12 [(.int 100), (.int 105), (.int 114), (.int 101), (.int 99), (.int 116), (.int 111), (.int 114), (.int 121), (.int 45), (.int 105), (.int 110)] (.int 0) ∧ Exa Z h a2 "[C")) := by
  refine Met.of (EWl V) (by first | decide +kernel | rfl) hO (L0 := #[]) rfl ?_
  intro p e s m below meth c T H
  show Go p e below _ (T.setTop (mkF m 0 #[] []))
  refine G.bipush H D7_0 (pc' := 2) rfl (v := 12) rfl ?_
  refine G.newP H (aty := .char) (wd8 V) D7_2 (pc' := 4) rfl (by decide) (cap := 12) (by decide) (by decide) (by decide) (by decide) (vs := [(.int 0), (.int 0), (.int 0), (.int 0), (.int 0), (.int 0), (.int 0), (.int 0), (.int 0), (.int 0), (.int 0), (.int 0)]) rfl (ad := "[C") rfl ?_
  intro T1 h1_ a2 k5 ga2 H1 E3 A4 X6
  have na2 := H.nle ga2
  replace A4 : Arv Z h1_ a2 k5 .char 12 [(.int 0), (.int 0), (.int 0), (.int 0), (.int 0), (.int 0), (.int 0), (.int 0), (.int 0), (.int 0), (.int 0), (.int 0)] (.int 0) := A4
  refine G.dup H1 D7_4 (pc' := 5) rfl rfl ?_
  refine G.iconst H1 D7_5 (pc' := 6) rfl (v := 0) rfl ?_
  refine G.bipush H1 D7_6 (pc' := 8) rfl (v := 100) rfl ?_
  refine G.stC H1 A4 (by decide) (i := 0) rfl lB na2 (y := 100) rfl D7_8 (pc' := 9) rfl ?_
  intro T7 h7_ H7 W8 A9
  replace A9 : Arv Z h7_ a2 k5 .char 12 [(.int 100), (.int 0), (.int 0), (.int 0), (.int 0), (.int 0), (.int 0), (.int 0), (.int 0), (.int 0), (.int 0), (.int 0)] (.int 0) := A9
  refine G.dup H7 D7_9 (pc' := 10) rfl rfl ?_
  refine G.iconst H7 D7_10 (pc' := 11) rfl (v := 1) rfl ?_
  refine G.bipush H7 D7_11 (pc' := 13) rfl (v := 105) rfl ?_
  refine G.stC H7 A9 (by decide) (i := 1) rfl lB na2 (y := 105) rfl D7_13 (pc' := 14) rfl ?_
  intro T10 h10_ H10 W11 A12
  replace A12 : Arv Z h10_ a2 k5 .char 12 [(.int 100), (.int 105), (.int 0), (.int 0), (.int 0), (.int 0), (.int 0), (.int 0), (.int 0), (.int 0), (.int 0), (.int 0)] (.int 0) := A12
  refine G.dup H10 D7_14 (pc' := 15) rfl rfl ?_
  refine G.iconst H10 D7_15 (pc' := 16) rfl (v := 2) rfl ?_
  refine G.bipush H10 D7_16 (pc' := 18) rfl (v := 114) rfl ?_
  refine G.stC H10 A12 (by decide) (i := 2) rfl lB na2 (y := 114) rfl D7_18 (pc' := 19) rfl ?_
  intro T13 h13_ H13 W14 A15
  replace A15 : Arv Z h13_ a2 k5 .char 12 [(.int 100), (.int 105), (.int 114), (.int 0), (.int 0), (.int 0), (.int 0), (.int 0), (.int 0), (.int 0), (.int 0), (.int 0)] (.int 0) := A15
  refine G.dup H13 D7_19 (pc' := 20) rfl rfl ?_
  refine G.iconst H13 D7_20 (pc' := 21) rfl (v := 3) rfl ?_
  refine G.bipush H13 D7_21 (pc' := 23) rfl (v := 101) rfl ?_
  refine G.stC H13 A15 (by decide) (i := 3) rfl lB na2 (y := 101) rfl D7_23 (pc' := 24) rfl ?_
  intro T16 h16_ H16 W17 A18
  replace A18 : Arv Z h16_ a2 k5 .char 12 [(.int 100), (.int 105), (.int 114), (.int 101), (.int 0), (.int 0), (.int 0), (.int 0), (.int 0), (.int 0), (.int 0), (.int 0)] (.int 0) := A18
  refine G.dup H16 D7_24 (pc' := 25) rfl rfl ?_
  refine G.iconst H16 D7_25 (pc' := 26) rfl (v := 4) rfl ?_
  refine G.bipush H16 D7_26 (pc' := 28) rfl (v := 99) rfl ?_
  refine G.stC H16 A18 (by decide) (i := 4) rfl lB na2 (y := 99) rfl D7_28 (pc' := 29) rfl ?_
  intro T19 h19_ H19 W20 A21
  replace A21 : Arv Z h19_ a2 k5 .char 12 [(.int 100), (.int 105), (.int 114), (.int 101), (.int 99), (.int 0), (.int 0), (.int 0), (.int 0), (.int 0), (.int 0), (.int 0)] (.int 0) := A21
  refine G.dup H19 D7_29 (pc' := 30) rfl rfl ?_
  refine G.iconst H19 D7_30 (pc' := 31) rfl (v := 5) rfl ?_
  refine G.bipush H19 D7_31 (pc' := 33) rfl (v := 116) rfl ?_
  refine G.stC H19 A21 (by decide) (i := 5) rfl lB na2 (y := 116) rfl D7_33 (pc' := 34) rfl ?_
  intro T22 h22_ H22 W23 A24
  replace A24 : Arv Z h22_ a2 k5 .char 12 [(.int 100), (.int 105), (.int 114), (.int 101), (.int 99), (.int 116), (.int 0), (.int 0), (.int 0), (.int 0), (.int 0), (.int 0)] (.int 0) := A24
  refine G.dup H22 D7_34 (pc' := 35) rfl rfl ?_
  refine G.bipush H22 D7_35 (pc' := 37) rfl (v := 6) rfl ?_
  refine G.bipush H22 D7_37 (pc' := 39) rfl (v := 111) rfl ?_
  refine G.stC H22 A24 (by decide) (i := 6) rfl lB na2 (y := 111) rfl D7_39 (pc' := 40) rfl ?_
  intro T25 h25_ H25 W26 A27
  replace A27 : Arv Z h25_ a2 k5 .char 12 [(.int 100), (.int 105), (.int 114), (.int 101), (.int 99), (.int 116), (.int 111), (.int 0), (.int 0), (.int 0), (.int 0), (.int 0)] (.int 0) := A27
  refine G.dup H25 D7_40 (pc' := 41) rfl rfl ?_
  refine G.bipush H25 D7_41 (pc' := 43) rfl (v := 7) rfl ?_
  refine G.bipush H25 D7_43 (pc' := 45) rfl (v := 114) rfl ?_
  refine G.stC H25 A27 (by decide) (i := 7) rfl lB na2 (y := 114) rfl D7_45 (pc' := 46) rfl ?_
  intro T28 h28_ H28 W29 A30
  replace A30 : Arv Z h28_ a2 k5 .char 12 [(.int 100), (.int 105), (.int 114), (.int 101), (.int 99), (.int 116), (.int 111), (.int 114), (.int 0), (.int 0), (.int 0), (.int 0)] (.int 0) := A30
  refine G.dup H28 D7_46 (pc' := 47) rfl rfl ?_
  refine G.bipush H28 D7_47 (pc' := 49) rfl (v := 8) rfl ?_
  refine G.bipush H28 D7_49 (pc' := 51) rfl (v := 121) rfl ?_
  refine G.stC H28 A30 (by decide) (i := 8) rfl lB na2 (y := 121) rfl D7_51 (pc' := 52) rfl ?_
  intro T31 h31_ H31 W32 A33
  replace A33 : Arv Z h31_ a2 k5 .char 12 [(.int 100), (.int 105), (.int 114), (.int 101), (.int 99), (.int 116), (.int 111), (.int 114), (.int 121), (.int 0), (.int 0), (.int 0)] (.int 0) := A33
  refine G.dup H31 D7_52 (pc' := 53) rfl rfl ?_
  refine G.bipush H31 D7_53 (pc' := 55) rfl (v := 9) rfl ?_
  refine G.bipush H31 D7_55 (pc' := 57) rfl (v := 45) rfl ?_
  refine G.stC H31 A33 (by decide) (i := 9) rfl lB na2 (y := 45) rfl D7_57 (pc' := 58) rfl ?_
  intro T34 h34_ H34 W35 A36
  replace A36 : Arv Z h34_ a2 k5 .char 12 [(.int 100), (.int 105), (.int 114), (.int 101), (.int 99), (.int 116), (.int 111), (.int 114), (.int 121), (.int 45), (.int 0), (.int 0)] (.int 0) := A36
  refine G.dup H34 D7_58 (pc' := 59) rfl rfl ?_
  refine G.bipush H34 D7_59 (pc' := 61) rfl (v := 10) rfl ?_
  refine G.bipush H34 D7_61 (pc' := 63) rfl (v := 105) rfl ?_
  refine G.stC H34 A36 (by decide) (i := 10) rfl lB na2 (y := 105) rfl D7_63 (pc' := 64) rfl ?_
  intro T37 h37_ H37 W38 A39
  replace A39 : Arv Z h37_ a2 k5 .char 12 [(.int 100), (.int 105), (.int 114), (.int 101), (.int 99), (.int 116), (.int 111), (.int 114), (.int 121), (.int 45), (.int 105), (.int 0)] (.int 0) := A39
  refine G.dup H37 D7_64 (pc' := 65) rfl rfl ?_
  refine G.bipush H37 D7_65 (pc' := 67) rfl (v := 11) rfl ?_
  refine G.bipush H37 D7_67 (pc' := 69) rfl (v := 110) rfl ?_
  refine G.stC H37 A39 (by decide) (i := 11) rfl lB na2 (y := 110) rfl D7_69 (pc' := 70) rfl ?_
  intro T40 h40_ H40 W41 A42
  replace A42 : Arv Z h40_ a2 k5 .char 12 [(.int 100), (.int 105), (.int 114), (.int 101), (.int 99), (.int 116), (.int 111), (.int 114), (.int 121), (.int 45), (.int 105), (.int 110)] (.int 0) := A42
  have K43 : Keep h1_ h40_ [a2] := (Keep.wr (Keep.wr (Keep.wr (Keep.wr (Keep.wr (Keep.wr (Keep.wr (Keep.wr (Keep.wr (Keep.wr (Keep.wr (Keep.wr (Keep.refl h1_ [a2]) W8 (Or.inl (mG (i := 0) rfl))) W11 (Or.inl (mG (i := 0) rfl))) W14 (Or.inl (mG (i := 0) rfl))) W17 (Or.inl (mG (i := 0) rfl))) W20 (Or.inl (mG (i := 0) rfl))) W23 (Or.inl (mG (i := 0) rfl))) W26 (Or.inl (mG (i := 0) rfl))) W29 (Or.inl (mG (i := 0) rfl))) W32 (Or.inl (mG (i := 0) rfl))) W35 (Or.inl (mG (i := 0) rfl))) W38 (Or.inl (mG (i := 0) rfl))) W41 (Or.inl (mG (i := 0) rfl)))
  have F44 := (Exa.keep X6 K43)
  have K45 : Keep h0 h40_ [] := (Keep.wr (Keep.wr (Keep.wr (Keep.wr (Keep.wr (Keep.wr (Keep.wr (Keep.wr (Keep.wr (Keep.wr (Keep.wr (Keep.wr (Keep.ext (Keep.refl h0 []) E3) W8 (Or.inr (Nat.le_of_eq ga2.symm))) W11 (Or.inr (Nat.le_of_eq ga2.symm))) W14 (Or.inr (Nat.le_of_eq ga2.symm))) W17 (Or.inr (Nat.le_of_eq ga2.symm))) W20 (Or.inr (Nat.le_of_eq ga2.symm))) W23 (Or.inr (Nat.le_of_eq ga2.symm))) W26 (Or.inr (Nat.le_of_eq ga2.symm))) W29 (Or.inr (Nat.le_of_eq ga2.symm))) W32 (Or.inr (Nat.le_of_eq ga2.symm))) W35 (Or.inr (Nat.le_of_eq ga2.symm))) W38 (Or.inr (Nat.le_of_eq ga2.symm))) W41 (Or.inr (Nat.le_of_eq ga2.symm)))
  exact G.retA H40 (t := (.array .char)) rfl rfl rfl D7_70 (so := []) all0 (by decide) (by decide) ⟨a2, k5, rfl, rfl, K45, (Nat.le_of_eq ga2.symm), A42, F44⟩
set_option maxRecDepth 65536 in
set_option maxHeartbeats 40000000 in
theorem m2_values (V : Env1 Z a0 n0 uu0 uu1 uu2 uu3 uu4 uu5 uu6 uu7 uu8 uu9 uu10 uu11)  (h0 : Heap) (hO : Old Z n0 h0)  :
    Met Z a0 ELs True n0 l (⟨"bindery/bindings/BindingType", "values", "()[Lbindery/bindings/BindingType;"⟩ : MethodName) prog_4_method_1_code 0 (Option.some (FieldType.array (FieldType.object "bindery/bindings/BindingType"))) ({ frames := 1, cells := 1, slots := 2, locals := 14 } : Room) #[] h0 [] (fun v h so => (∃ a6 : Addr, ∃ uu7 : ClassId, v = some (.ref a6) ∧ so = [] ∧ Keep h0 h [] ∧ h0.size ≤ a6 ∧ Arv Z h a6 uu7 (.object "bindery/bindings/BindingType") 2 [(.ref uu1), (.ref uu2)] .null ∧ Exa Z h a6 "[Lbindery/bindings/BindingType;")) := by
  refine Met.of (EWl V) (by first | decide +kernel | rfl) hO (L0 := #[]) rfl ?_
  intro p e s m below meth c T H
  show Go p e below _ (T.setTop (mkF m 0 #[] []))
  refine G.getS H (wd44 V) Via.refl (Sta.ext H.old.2 (hv0 V)) D9_0 (pc' := 3) rfl ?_
  intro T1 H2
  have B3 := Exa.ext H2.old.2 (hv1 V)
  have B4 := Arv.ext (hv12 V) H2.old.2
  refine G.clone H2 (wd46 V) (wd47 V) (wd51 V) (wd49 V) (wd50 V) (wd52 V) B4 B3 (st := []) (W := 0) (cap := 2) rfl rfl D9_3 (pc' := 6) rfl (by decide) (by decide) (by decide) (by decide) (by decide) ?_
  intro T5 h5_ a6 ga6 H5 E7 A8 X9
  have na6 := H2.nle ga6
  refine G.castY H5 (wd55 V) (Ins.self X9) D9_6 (pc' := 9) rfl ?_
  intro T10 H11
  have K12 : Keep h0 h5_ [] := (Keep.ext (Keep.refl h0 []) E7)
  exact G.retA H11 (t := (.array (.object "bindery/bindings/BindingType"))) rfl rfl rfl D9_9 (so := []) all0 (by decide) (by decide) ⟨a6, uu7, rfl, rfl, K12, (Nat.le_of_eq ga6.symm), A8, X9⟩
set_option maxRecDepth 65536 in
set_option maxHeartbeats 40000000 in
theorem m3_named (V : Env1 Z a0 n0 uu0 uu1 uu2 uu3 uu4 uu5 uu6 uu7 uu8 uu9 uu10 uu11) (p0 : Addr) (p1 : Addr) (c0 : ClassId) (h0 : Heap) (hO : Old Z n0 h0) (f0 : Str Z h0 p0 p1 c0 [100, 105, 114, 101, 99, 116, 111, 114, 121, 45, 105, 110]) :
    Met Z a0 ELs True n0 l (⟨"bindery/bindings/BindingType", "named", "(Ljava/lang/String;)Lbindery/bindings/BindingType;"⟩ : MethodName) prog_4_method_4_code 5 (Option.some (FieldType.object "bindery/bindings/BindingType")) ({ frames := 2, cells := 1, slots := 2, locals := 28 } : Room) #[(.ref p0)] h0 [] (fun v h so => (v = some (.ref uu1) ∧ so = [] ∧ Keep h0 h [])) := by
  refine Met.of (EWl V) (by first | decide +kernel | rfl) hO (L0 := #[.val (.ref p0), .unset, .unset, .unset, .unset]) rfl ?_
  intro p e s m below meth c T H
  show Go p e below _ (T.setTop (mkF m 0 #[.val (.ref p0), .unset, .unset, .unset, .unset] []))
  refine G.callS H (m2_values V h0 H.old) (wd41 V) (wd42 V) (wd36 V) (wd43 V) (by decide) (argsL := []) (rest := []) (W := 0) rfl rfl (lenOf (pd_1) rfl) rfl rfl D10_0 (pc' := 3) rfl (by decide) (by decide) (by decide) (by decide) all0 ?_
  intro T1 h1_ v2 s3 H1 Q4
  obtain ⟨a5, k6, rfl, rfl, K7, g8, F9, F10⟩ := Q4
  have na5 : n0 ≤ a5 := Nat.le_trans H.le g8
  show Go p e below _ (T1.setTop (mkF m 3 #[.val (.ref p0), .unset, .unset, .unset, .unset] [(.ref a5)]))
  refine G.astoreN H1 (L' := #[.val (.ref p0), .val (.ref a5), .unset, .unset, .unset]) D10_3 (pc' := 4) rfl rfl rfl ?_
  refine G.aloadN H1 D10_4 (pc' := 5) rfl rfl rfl ?_
  refine G.arrlen H1 F9 D10_5 (pc' := 6) rfl ?_
  refine G.istoreN H1 (L' := #[.val (.ref p0), .val (.ref a5), .val (.int 2), .unset, .unset]) D10_6 (pc' := 7) rfl rfl ?_
  refine G.iconst H1 D10_7 (pc' := 8) rfl (v := 0) rfl ?_
  refine G.istoreN H1 (L' := #[.val (.ref p0), .val (.ref a5), .val (.int 2), .val (.int 0), .unset]) D10_8 (pc' := 9) rfl rfl ?_
  refine G.iloadN H1 D10_9 (pc' := 10) rfl rfl ?_
  refine G.iloadN H1 D10_10 (pc' := 11) rfl rfl ?_
  refine G.icmpNo H1 D10_11 (pc' := 14) rfl (by decide) ?_
  refine G.aloadN H1 D10_14 (pc' := 15) rfl rfl rfl ?_
  refine G.iloadN H1 D10_15 (pc' := 16) rfl rfl ?_
  refine G.aaloadG H1 F9 rfl (j := 0) (v := (.ref uu1)) (by decide) rfl D10_16 (pc' := 17) rfl ?_
  refine G.astore H1 (L' := #[.val (.ref p0), .val (.ref a5), .val (.int 2), .val (.int 0), .val (.ref uu1)]) D10_17 (pc' := 19) rfl rfl rfl ?_
  refine G.aload H1 D10_19 (pc' := 21) rfl rfl rfl ?_
  have B11 := Fld.ext H1.old.2 (hv8 V)
  refine G.getF H1 (wd57 V) Via.refl B11 D10_21 (pc' := 24) rfl ?_
  intro T12 H13
  refine G.aloadN H13 D10_24 (pc' := 25) rfl rfl rfl ?_
  have B14 := Str.ext H13.old.2 (hv22 V)
  have F15 := (Str.keep f0 K7 nin0 nin0)
  refine G.strEq H13 (strwEq V) (wd2 V) (wd59 V) (wd60 V) (wd62 V) (wd61 V) B14 F15 (hv17 V) (hv18 V) (rest := []) (W := 0) rfl rfl D10_25 (pc' := 28) rfl (by decide) (by decide) (by decide) (by decide) ?_ ?_
  ·
    intro T16 H17 c18
    refine G.ifNo H17 D10_28 (pc' := 31) rfl (by decide) ?_
    refine G.aload H17 D10_31 (pc' := 33) rfl rfl rfl ?_
    have K19 : Keep h0 h1_ [] := (Keep.trans (Keep.refl h0 []) K7 all0)
    exact G.retA H17 (t := (.object "bindery/bindings/BindingType")) rfl rfl rfl D10_33 (so := []) all0 (by decide) (by decide) ⟨rfl, rfl, K19⟩
  ·
    intro T20 H21 c22
    exact absurd rfl c22
set_option maxRecDepth 65536 in
set_option maxHeartbeats 40000000 in
theorem m4_outChars (V : Env1 Z a0 n0 uu0 uu1 uu2 uu3 uu4 uu5 uu6 uu7 uu8 uu9 uu10 uu11)  (h0 : Heap) (hO : Old Z n0 h0)  :
    Met Z a0 ELs True n0 l (⟨"bindery/bindings/BindingTypeNamedPinLaw", "outChars", "()[C"⟩ : MethodName) method_3_code 0 (Option.some (FieldType.array FieldType.char)) ({ frames := 0, cells := 1, slots := 13, locals := 0 } : Room) #[] h0 [] (fun v h so => (∃ a2 : Addr, ∃ k5 : ClassId, v = some (.ref a2) ∧ so = [] ∧ Keep h0 h [] ∧ h0.size ≤ a2 ∧ Arv Z h a2 k5 .char 13 [(.int 100), (.int 105), (.int 114), (.int 101), (.int 99), (.int 116), (.int 111), (.int 114), (.int 121), (.int 45), (.int 111), (.int 117), (.int 116)] (.int 0) ∧ Exa Z h a2 "[C")) := by
  refine Met.of (EWl V) (by first | decide +kernel | rfl) hO (L0 := #[]) rfl ?_
  intro p e s m below meth c T H
  show Go p e below _ (T.setTop (mkF m 0 #[] []))
  refine G.bipush H D8_0 (pc' := 2) rfl (v := 13) rfl ?_
  refine G.newP H (aty := .char) (wd8 V) D8_2 (pc' := 4) rfl (by decide) (cap := 13) (by decide) (by decide) (by decide) (by decide) (vs := [(.int 0), (.int 0), (.int 0), (.int 0), (.int 0), (.int 0), (.int 0), (.int 0), (.int 0), (.int 0), (.int 0), (.int 0), (.int 0)]) rfl (ad := "[C") rfl ?_
  intro T1 h1_ a2 k5 ga2 H1 E3 A4 X6
  have na2 := H.nle ga2
  replace A4 : Arv Z h1_ a2 k5 .char 13 [(.int 0), (.int 0), (.int 0), (.int 0), (.int 0), (.int 0), (.int 0), (.int 0), (.int 0), (.int 0), (.int 0), (.int 0), (.int 0)] (.int 0) := A4
  refine G.dup H1 D8_4 (pc' := 5) rfl rfl ?_
  refine G.iconst H1 D8_5 (pc' := 6) rfl (v := 0) rfl ?_
  refine G.bipush H1 D8_6 (pc' := 8) rfl (v := 100) rfl ?_
  refine G.stC H1 A4 (by decide) (i := 0) rfl lB na2 (y := 100) rfl D8_8 (pc' := 9) rfl ?_
  intro T7 h7_ H7 W8 A9
  replace A9 : Arv Z h7_ a2 k5 .char 13 [(.int 100), (.int 0), (.int 0), (.int 0), (.int 0), (.int 0), (.int 0), (.int 0), (.int 0), (.int 0), (.int 0), (.int 0), (.int 0)] (.int 0) := A9
  refine G.dup H7 D8_9 (pc' := 10) rfl rfl ?_
  refine G.iconst H7 D8_10 (pc' := 11) rfl (v := 1) rfl ?_
  refine G.bipush H7 D8_11 (pc' := 13) rfl (v := 105) rfl ?_
  refine G.stC H7 A9 (by decide) (i := 1) rfl lB na2 (y := 105) rfl D8_13 (pc' := 14) rfl ?_
  intro T10 h10_ H10 W11 A12
  replace A12 : Arv Z h10_ a2 k5 .char 13 [(.int 100), (.int 105), (.int 0), (.int 0), (.int 0), (.int 0), (.int 0), (.int 0), (.int 0), (.int 0), (.int 0), (.int 0), (.int 0)] (.int 0) := A12
  refine G.dup H10 D8_14 (pc' := 15) rfl rfl ?_
  refine G.iconst H10 D8_15 (pc' := 16) rfl (v := 2) rfl ?_
  refine G.bipush H10 D8_16 (pc' := 18) rfl (v := 114) rfl ?_
  refine G.stC H10 A12 (by decide) (i := 2) rfl lB na2 (y := 114) rfl D8_18 (pc' := 19) rfl ?_
  intro T13 h13_ H13 W14 A15
  replace A15 : Arv Z h13_ a2 k5 .char 13 [(.int 100), (.int 105), (.int 114), (.int 0), (.int 0), (.int 0), (.int 0), (.int 0), (.int 0), (.int 0), (.int 0), (.int 0), (.int 0)] (.int 0) := A15
  refine G.dup H13 D8_19 (pc' := 20) rfl rfl ?_
  refine G.iconst H13 D8_20 (pc' := 21) rfl (v := 3) rfl ?_
  refine G.bipush H13 D8_21 (pc' := 23) rfl (v := 101) rfl ?_
  refine G.stC H13 A15 (by decide) (i := 3) rfl lB na2 (y := 101) rfl D8_23 (pc' := 24) rfl ?_
  intro T16 h16_ H16 W17 A18
  replace A18 : Arv Z h16_ a2 k5 .char 13 [(.int 100), (.int 105), (.int 114), (.int 101), (.int 0), (.int 0), (.int 0), (.int 0), (.int 0), (.int 0), (.int 0), (.int 0), (.int 0)] (.int 0) := A18
  refine G.dup H16 D8_24 (pc' := 25) rfl rfl ?_
  refine G.iconst H16 D8_25 (pc' := 26) rfl (v := 4) rfl ?_
  refine G.bipush H16 D8_26 (pc' := 28) rfl (v := 99) rfl ?_
  refine G.stC H16 A18 (by decide) (i := 4) rfl lB na2 (y := 99) rfl D8_28 (pc' := 29) rfl ?_
  intro T19 h19_ H19 W20 A21
  replace A21 : Arv Z h19_ a2 k5 .char 13 [(.int 100), (.int 105), (.int 114), (.int 101), (.int 99), (.int 0), (.int 0), (.int 0), (.int 0), (.int 0), (.int 0), (.int 0), (.int 0)] (.int 0) := A21
  refine G.dup H19 D8_29 (pc' := 30) rfl rfl ?_
  refine G.iconst H19 D8_30 (pc' := 31) rfl (v := 5) rfl ?_
  refine G.bipush H19 D8_31 (pc' := 33) rfl (v := 116) rfl ?_
  refine G.stC H19 A21 (by decide) (i := 5) rfl lB na2 (y := 116) rfl D8_33 (pc' := 34) rfl ?_
  intro T22 h22_ H22 W23 A24
  replace A24 : Arv Z h22_ a2 k5 .char 13 [(.int 100), (.int 105), (.int 114), (.int 101), (.int 99), (.int 116), (.int 0), (.int 0), (.int 0), (.int 0), (.int 0), (.int 0), (.int 0)] (.int 0) := A24
  refine G.dup H22 D8_34 (pc' := 35) rfl rfl ?_
  refine G.bipush H22 D8_35 (pc' := 37) rfl (v := 6) rfl ?_
  refine G.bipush H22 D8_37 (pc' := 39) rfl (v := 111) rfl ?_
  refine G.stC H22 A24 (by decide) (i := 6) rfl lB na2 (y := 111) rfl D8_39 (pc' := 40) rfl ?_
  intro T25 h25_ H25 W26 A27
  replace A27 : Arv Z h25_ a2 k5 .char 13 [(.int 100), (.int 105), (.int 114), (.int 101), (.int 99), (.int 116), (.int 111), (.int 0), (.int 0), (.int 0), (.int 0), (.int 0), (.int 0)] (.int 0) := A27
  refine G.dup H25 D8_40 (pc' := 41) rfl rfl ?_
  refine G.bipush H25 D8_41 (pc' := 43) rfl (v := 7) rfl ?_
  refine G.bipush H25 D8_43 (pc' := 45) rfl (v := 114) rfl ?_
  refine G.stC H25 A27 (by decide) (i := 7) rfl lB na2 (y := 114) rfl D8_45 (pc' := 46) rfl ?_
  intro T28 h28_ H28 W29 A30
  replace A30 : Arv Z h28_ a2 k5 .char 13 [(.int 100), (.int 105), (.int 114), (.int 101), (.int 99), (.int 116), (.int 111), (.int 114), (.int 0), (.int 0), (.int 0), (.int 0), (.int 0)] (.int 0) := A30
  refine G.dup H28 D8_46 (pc' := 47) rfl rfl ?_
  refine G.bipush H28 D8_47 (pc' := 49) rfl (v := 8) rfl ?_
  refine G.bipush H28 D8_49 (pc' := 51) rfl (v := 121) rfl ?_
  refine G.stC H28 A30 (by decide) (i := 8) rfl lB na2 (y := 121) rfl D8_51 (pc' := 52) rfl ?_
  intro T31 h31_ H31 W32 A33
  replace A33 : Arv Z h31_ a2 k5 .char 13 [(.int 100), (.int 105), (.int 114), (.int 101), (.int 99), (.int 116), (.int 111), (.int 114), (.int 121), (.int 0), (.int 0), (.int 0), (.int 0)] (.int 0) := A33
  refine G.dup H31 D8_52 (pc' := 53) rfl rfl ?_
  refine G.bipush H31 D8_53 (pc' := 55) rfl (v := 9) rfl ?_
  refine G.bipush H31 D8_55 (pc' := 57) rfl (v := 45) rfl ?_
  refine G.stC H31 A33 (by decide) (i := 9) rfl lB na2 (y := 45) rfl D8_57 (pc' := 58) rfl ?_
  intro T34 h34_ H34 W35 A36
  replace A36 : Arv Z h34_ a2 k5 .char 13 [(.int 100), (.int 105), (.int 114), (.int 101), (.int 99), (.int 116), (.int 111), (.int 114), (.int 121), (.int 45), (.int 0), (.int 0), (.int 0)] (.int 0) := A36
  refine G.dup H34 D8_58 (pc' := 59) rfl rfl ?_
  refine G.bipush H34 D8_59 (pc' := 61) rfl (v := 10) rfl ?_
  refine G.bipush H34 D8_61 (pc' := 63) rfl (v := 111) rfl ?_
  refine G.stC H34 A36 (by decide) (i := 10) rfl lB na2 (y := 111) rfl D8_63 (pc' := 64) rfl ?_
  intro T37 h37_ H37 W38 A39
  replace A39 : Arv Z h37_ a2 k5 .char 13 [(.int 100), (.int 105), (.int 114), (.int 101), (.int 99), (.int 116), (.int 111), (.int 114), (.int 121), (.int 45), (.int 111), (.int 0), (.int 0)] (.int 0) := A39
  refine G.dup H37 D8_64 (pc' := 65) rfl rfl ?_
  refine G.bipush H37 D8_65 (pc' := 67) rfl (v := 11) rfl ?_
  refine G.bipush H37 D8_67 (pc' := 69) rfl (v := 117) rfl ?_
  refine G.stC H37 A39 (by decide) (i := 11) rfl lB na2 (y := 117) rfl D8_69 (pc' := 70) rfl ?_
  intro T40 h40_ H40 W41 A42
  replace A42 : Arv Z h40_ a2 k5 .char 13 [(.int 100), (.int 105), (.int 114), (.int 101), (.int 99), (.int 116), (.int 111), (.int 114), (.int 121), (.int 45), (.int 111), (.int 117), (.int 0)] (.int 0) := A42
  refine G.dup H40 D8_70 (pc' := 71) rfl rfl ?_
  refine G.bipush H40 D8_71 (pc' := 73) rfl (v := 12) rfl ?_
  refine G.bipush H40 D8_73 (pc' := 75) rfl (v := 116) rfl ?_
  refine G.stC H40 A42 (by decide) (i := 12) rfl lB na2 (y := 116) rfl D8_75 (pc' := 76) rfl ?_
  intro T43 h43_ H43 W44 A45
  replace A45 : Arv Z h43_ a2 k5 .char 13 [(.int 100), (.int 105), (.int 114), (.int 101), (.int 99), (.int 116), (.int 111), (.int 114), (.int 121), (.int 45), (.int 111), (.int 117), (.int 116)] (.int 0) := A45
  have K46 : Keep h1_ h43_ [a2] := (Keep.wr (Keep.wr (Keep.wr (Keep.wr (Keep.wr (Keep.wr (Keep.wr (Keep.wr (Keep.wr (Keep.wr (Keep.wr (Keep.wr (Keep.wr (Keep.refl h1_ [a2]) W8 (Or.inl (mG (i := 0) rfl))) W11 (Or.inl (mG (i := 0) rfl))) W14 (Or.inl (mG (i := 0) rfl))) W17 (Or.inl (mG (i := 0) rfl))) W20 (Or.inl (mG (i := 0) rfl))) W23 (Or.inl (mG (i := 0) rfl))) W26 (Or.inl (mG (i := 0) rfl))) W29 (Or.inl (mG (i := 0) rfl))) W32 (Or.inl (mG (i := 0) rfl))) W35 (Or.inl (mG (i := 0) rfl))) W38 (Or.inl (mG (i := 0) rfl))) W41 (Or.inl (mG (i := 0) rfl))) W44 (Or.inl (mG (i := 0) rfl)))
  have F47 := (Exa.keep X6 K46)
  have K48 : Keep h0 h43_ [] := (Keep.wr (Keep.wr (Keep.wr (Keep.wr (Keep.wr (Keep.wr (Keep.wr (Keep.wr (Keep.wr (Keep.wr (Keep.wr (Keep.wr (Keep.wr (Keep.ext (Keep.refl h0 []) E3) W8 (Or.inr (Nat.le_of_eq ga2.symm))) W11 (Or.inr (Nat.le_of_eq ga2.symm))) W14 (Or.inr (Nat.le_of_eq ga2.symm))) W17 (Or.inr (Nat.le_of_eq ga2.symm))) W20 (Or.inr (Nat.le_of_eq ga2.symm))) W23 (Or.inr (Nat.le_of_eq ga2.symm))) W26 (Or.inr (Nat.le_of_eq ga2.symm))) W29 (Or.inr (Nat.le_of_eq ga2.symm))) W32 (Or.inr (Nat.le_of_eq ga2.symm))) W35 (Or.inr (Nat.le_of_eq ga2.symm))) W38 (Or.inr (Nat.le_of_eq ga2.symm))) W41 (Or.inr (Nat.le_of_eq ga2.symm))) W44 (Or.inr (Nat.le_of_eq ga2.symm)))
  exact G.retA H43 (t := (.array .char)) rfl rfl rfl D8_76 (so := []) all0 (by decide) (by decide) ⟨a2, k5, rfl, rfl, K48, (Nat.le_of_eq ga2.symm), A45, F47⟩
set_option maxRecDepth 65536 in
set_option maxHeartbeats 40000000 in
theorem m5_named (V : Env1 Z a0 n0 uu0 uu1 uu2 uu3 uu4 uu5 uu6 uu7 uu8 uu9 uu10 uu11) (p0 : Addr) (p1 : Addr) (c0 : ClassId) (h0 : Heap) (hO : Old Z n0 h0) (f0 : Str Z h0 p0 p1 c0 [100, 105, 114, 101, 99, 116, 111, 114, 121, 45, 111, 117, 116]) :
    Met Z a0 ELs True n0 l (⟨"bindery/bindings/BindingType", "named", "(Ljava/lang/String;)Lbindery/bindings/BindingType;"⟩ : MethodName) prog_4_method_4_code 5 (Option.some (FieldType.object "bindery/bindings/BindingType")) ({ frames := 2, cells := 1, slots := 2, locals := 28 } : Room) #[(.ref p0)] h0 [] (fun v h so => (v = some (.ref uu2) ∧ so = [] ∧ Keep h0 h [])) := by
  refine Met.of (EWl V) (by first | decide +kernel | rfl) hO (L0 := #[.val (.ref p0), .unset, .unset, .unset, .unset]) rfl ?_
  intro p e s m below meth c T H
  show Go p e below _ (T.setTop (mkF m 0 #[.val (.ref p0), .unset, .unset, .unset, .unset] []))
  refine G.callS H (m2_values V h0 H.old) (wd41 V) (wd42 V) (wd36 V) (wd43 V) (by decide) (argsL := []) (rest := []) (W := 0) rfl rfl (lenOf (pd_1) rfl) rfl rfl D10_0 (pc' := 3) rfl (by decide) (by decide) (by decide) (by decide) all0 ?_
  intro T1 h1_ v2 s3 H1 Q4
  obtain ⟨a5, k6, rfl, rfl, K7, g8, F9, F10⟩ := Q4
  have na5 : n0 ≤ a5 := Nat.le_trans H.le g8
  show Go p e below _ (T1.setTop (mkF m 3 #[.val (.ref p0), .unset, .unset, .unset, .unset] [(.ref a5)]))
  refine G.astoreN H1 (L' := #[.val (.ref p0), .val (.ref a5), .unset, .unset, .unset]) D10_3 (pc' := 4) rfl rfl rfl ?_
  refine G.aloadN H1 D10_4 (pc' := 5) rfl rfl rfl ?_
  refine G.arrlen H1 F9 D10_5 (pc' := 6) rfl ?_
  refine G.istoreN H1 (L' := #[.val (.ref p0), .val (.ref a5), .val (.int 2), .unset, .unset]) D10_6 (pc' := 7) rfl rfl ?_
  refine G.iconst H1 D10_7 (pc' := 8) rfl (v := 0) rfl ?_
  refine G.istoreN H1 (L' := #[.val (.ref p0), .val (.ref a5), .val (.int 2), .val (.int 0), .unset]) D10_8 (pc' := 9) rfl rfl ?_
  refine G.iloadN H1 D10_9 (pc' := 10) rfl rfl ?_
  refine G.iloadN H1 D10_10 (pc' := 11) rfl rfl ?_
  refine G.icmpNo H1 D10_11 (pc' := 14) rfl (by decide) ?_
  refine G.aloadN H1 D10_14 (pc' := 15) rfl rfl rfl ?_
  refine G.iloadN H1 D10_15 (pc' := 16) rfl rfl ?_
  refine G.aaloadG H1 F9 rfl (j := 0) (v := (.ref uu1)) (by decide) rfl D10_16 (pc' := 17) rfl ?_
  refine G.astore H1 (L' := #[.val (.ref p0), .val (.ref a5), .val (.int 2), .val (.int 0), .val (.ref uu1)]) D10_17 (pc' := 19) rfl rfl rfl ?_
  refine G.aload H1 D10_19 (pc' := 21) rfl rfl rfl ?_
  have B11 := Fld.ext H1.old.2 (hv8 V)
  refine G.getF H1 (wd57 V) Via.refl B11 D10_21 (pc' := 24) rfl ?_
  intro T12 H13
  refine G.aloadN H13 D10_24 (pc' := 25) rfl rfl rfl ?_
  have B14 := Str.ext H13.old.2 (hv22 V)
  have F15 := (Str.keep f0 K7 nin0 nin0)
  refine G.strEq H13 (strwEq V) (wd2 V) (wd59 V) (wd60 V) (wd62 V) (wd61 V) B14 F15 (hv17 V) (hv18 V) (rest := []) (W := 0) rfl rfl D10_25 (pc' := 28) rfl (by decide) (by decide) (by decide) (by decide) ?_ ?_
  ·
    intro T16 H17 c18
    exact absurd c18 (by intro qq; simp at qq)
  ·
    intro T19 H20 c21
    refine G.ifYes H20 D10_28 (by decide) (by decide) (pc' := 34) rfl ?_
    refine G.iinc H20 (v := 1) (L' := #[.val (.ref p0), .val (.ref a5), .val (.int 2), .val (.int 1), .val (.ref uu1)]) D10_34 (pc' := 37) rfl rfl rfl rfl ?_
    refine G.goto H20 D10_37 (by decide) (pc' := 9) rfl ?_
    show Go p e below _ (T19.setTop (mkF m 9 #[.val (.ref p0), .val (.ref a5), .val (.int 2), .val (.int 1), .val (.ref uu1)] []))
    refine G.iloadN H20 D10_9 (pc' := 10) rfl rfl ?_
    refine G.iloadN H20 D10_10 (pc' := 11) rfl rfl ?_
    refine G.icmpNo H20 D10_11 (pc' := 14) rfl (by decide) ?_
    refine G.aloadN H20 D10_14 (pc' := 15) rfl rfl rfl ?_
    refine G.iloadN H20 D10_15 (pc' := 16) rfl rfl ?_
    refine G.aaloadG H20 F9 rfl (j := 1) (v := (.ref uu2)) (by decide) rfl D10_16 (pc' := 17) rfl ?_
    refine G.astore H20 (L' := #[.val (.ref p0), .val (.ref a5), .val (.int 2), .val (.int 1), .val (.ref uu2)]) D10_17 (pc' := 19) rfl rfl rfl ?_
    refine G.aload H20 D10_19 (pc' := 21) rfl rfl rfl ?_
    have B22 := Fld.ext H20.old.2 (hv6 V)
    refine G.getF H20 (wd57 V) Via.refl B22 D10_21 (pc' := 24) rfl ?_
    intro T23 H24
    refine G.aloadN H24 D10_24 (pc' := 25) rfl rfl rfl ?_
    have B25 := Str.ext H24.old.2 (hv21 V)
    refine G.strEq H24 (strwEq V) (wd2 V) (wd59 V) (wd60 V) (wd62 V) (wd61 V) B25 F15 (hv17 V) (hv18 V) (rest := []) (W := 0) rfl rfl D10_25 (pc' := 28) rfl (by decide) (by decide) (by decide) (by decide) ?_ ?_
    ·
      intro T26 H27 c28
      refine G.ifNo H27 D10_28 (pc' := 31) rfl (by decide) ?_
      refine G.aload H27 D10_31 (pc' := 33) rfl rfl rfl ?_
      have K29 : Keep h0 h1_ [] := (Keep.trans (Keep.refl h0 []) K7 all0)
      exact G.retA H27 (t := (.object "bindery/bindings/BindingType")) rfl rfl rfl D10_33 (so := []) all0 (by decide) (by decide) ⟨rfl, rfl, K29⟩
    ·
      intro T30 H31 c32
      exact absurd rfl c32
set_option maxRecDepth 65536 in
set_option maxHeartbeats 40000000 in
theorem m6_named (V : Env1 Z a0 n0 uu0 uu1 uu2 uu3 uu4 uu5 uu6 uu7 uu8 uu9 uu10 uu11) (p0 : Addr) (p1 : Addr) (c0 : ClassId) (x0 : Int32) (h0 : Heap) (hO : Old Z n0 h0) (f0 : Str Z h0 p0 p1 c0 [x0, 105, 114, 101, 99, 116, 111, 114, 121, 45, 105, 110]) (cc1 : 100 = x0) :
    Met Z a0 ELs True n0 l (⟨"bindery/bindings/BindingType", "named", "(Ljava/lang/String;)Lbindery/bindings/BindingType;"⟩ : MethodName) prog_4_method_4_code 5 (Option.some (FieldType.object "bindery/bindings/BindingType")) ({ frames := 2, cells := 1, slots := 2, locals := 28 } : Room) #[(.ref p0)] h0 [] (fun v h so => ([100, 105, 114, 101, 99, 116, 111, 114, 121, 45, 105, 110] = [x0, 105, 114, 101, 99, 116, 111, 114, 121, 45, 105, 110] ∧ v = some (.ref uu1) ∧ so = [] ∧ Keep h0 h [])) := by
  refine Met.of (EWl V) (by first | decide +kernel | rfl) hO (L0 := #[.val (.ref p0), .unset, .unset, .unset, .unset]) rfl ?_
  intro p e s m below meth c T H
  show Go p e below _ (T.setTop (mkF m 0 #[.val (.ref p0), .unset, .unset, .unset, .unset] []))
  refine G.callS H (m2_values V h0 H.old) (wd41 V) (wd42 V) (wd36 V) (wd43 V) (by decide) (argsL := []) (rest := []) (W := 0) rfl rfl (lenOf (pd_1) rfl) rfl rfl D10_0 (pc' := 3) rfl (by decide) (by decide) (by decide) (by decide) all0 ?_
  intro T1 h1_ v2 s3 H1 Q4
  obtain ⟨a5, k6, rfl, rfl, K7, g8, F9, F10⟩ := Q4
  have na5 : n0 ≤ a5 := Nat.le_trans H.le g8
  show Go p e below _ (T1.setTop (mkF m 3 #[.val (.ref p0), .unset, .unset, .unset, .unset] [(.ref a5)]))
  refine G.astoreN H1 (L' := #[.val (.ref p0), .val (.ref a5), .unset, .unset, .unset]) D10_3 (pc' := 4) rfl rfl rfl ?_
  refine G.aloadN H1 D10_4 (pc' := 5) rfl rfl rfl ?_
  refine G.arrlen H1 F9 D10_5 (pc' := 6) rfl ?_
  refine G.istoreN H1 (L' := #[.val (.ref p0), .val (.ref a5), .val (.int 2), .unset, .unset]) D10_6 (pc' := 7) rfl rfl ?_
  refine G.iconst H1 D10_7 (pc' := 8) rfl (v := 0) rfl ?_
  refine G.istoreN H1 (L' := #[.val (.ref p0), .val (.ref a5), .val (.int 2), .val (.int 0), .unset]) D10_8 (pc' := 9) rfl rfl ?_
  refine G.iloadN H1 D10_9 (pc' := 10) rfl rfl ?_
  refine G.iloadN H1 D10_10 (pc' := 11) rfl rfl ?_
  refine G.icmpNo H1 D10_11 (pc' := 14) rfl (by decide) ?_
  refine G.aloadN H1 D10_14 (pc' := 15) rfl rfl rfl ?_
  refine G.iloadN H1 D10_15 (pc' := 16) rfl rfl ?_
  refine G.aaloadG H1 F9 rfl (j := 0) (v := (.ref uu1)) (by decide) rfl D10_16 (pc' := 17) rfl ?_
  refine G.astore H1 (L' := #[.val (.ref p0), .val (.ref a5), .val (.int 2), .val (.int 0), .val (.ref uu1)]) D10_17 (pc' := 19) rfl rfl rfl ?_
  refine G.aload H1 D10_19 (pc' := 21) rfl rfl rfl ?_
  have B11 := Fld.ext H1.old.2 (hv8 V)
  refine G.getF H1 (wd57 V) Via.refl B11 D10_21 (pc' := 24) rfl ?_
  intro T12 H13
  refine G.aloadN H13 D10_24 (pc' := 25) rfl rfl rfl ?_
  have B14 := Str.ext H13.old.2 (hv22 V)
  have F15 := (Str.keep f0 K7 nin0 nin0)
  refine G.strEq H13 (strwEq V) (wd2 V) (wd59 V) (wd60 V) (wd62 V) (wd61 V) B14 F15 (hv17 V) (hv18 V) (rest := []) (W := 0) rfl rfl D10_25 (pc' := 28) rfl (by decide) (by decide) (by decide) (by decide) ?_ ?_
  ·
    intro T16 H17 c18
    refine G.ifNo H17 D10_28 (pc' := 31) rfl (by decide) ?_
    refine G.aload H17 D10_31 (pc' := 33) rfl rfl rfl ?_
    have K19 : Keep h0 h1_ [] := (Keep.trans (Keep.refl h0 []) K7 all0)
    exact G.retA H17 (t := (.object "bindery/bindings/BindingType")) rfl rfl rfl D10_33 (so := []) all0 (by decide) (by decide) ⟨c18, rfl, rfl, K19⟩
  ·
    intro T20 H21 c22
    exact absurd (lcs cc1 (lcs rfl (lcs rfl (lcs rfl (lcs rfl (lcs rfl (lcs rfl (lcs rfl (lcs rfl (lcs rfl (lcs rfl (lcs rfl rfl)))))))))))) c22
set_option maxRecDepth 65536 in
set_option maxHeartbeats 40000000 in
theorem m7_named (V : Env1 Z a0 n0 uu0 uu1 uu2 uu3 uu4 uu5 uu6 uu7 uu8 uu9 uu10 uu11) (p0 : Addr) (p1 : Addr) (c0 : ClassId) (x0 : Int32) (h0 : Heap) (hO : Old Z n0 h0) (f0 : Str Z h0 p0 p1 c0 [x0, 105, 114, 101, 99, 116, 111, 114, 121, 45, 105, 110]) (cc1 : ¬ 100 = x0) :
    Met Z a0 ELs True n0 l (⟨"bindery/bindings/BindingType", "named", "(Ljava/lang/String;)Lbindery/bindings/BindingType;"⟩ : MethodName) prog_4_method_4_code 5 (Option.some (FieldType.object "bindery/bindings/BindingType")) ({ frames := 2, cells := 1, slots := 2, locals := 28 } : Room) #[(.ref p0)] h0 [] (fun v h so => (¬ [100, 105, 114, 101, 99, 116, 111, 114, 121, 45, 105, 110] = [x0, 105, 114, 101, 99, 116, 111, 114, 121, 45, 105, 110] ∧ v = some .null ∧ so = [] ∧ Keep h0 h [])) := by
  refine Met.of (EWl V) (by first | decide +kernel | rfl) hO (L0 := #[.val (.ref p0), .unset, .unset, .unset, .unset]) rfl ?_
  intro p e s m below meth c T H
  show Go p e below _ (T.setTop (mkF m 0 #[.val (.ref p0), .unset, .unset, .unset, .unset] []))
  refine G.callS H (m2_values V h0 H.old) (wd41 V) (wd42 V) (wd36 V) (wd43 V) (by decide) (argsL := []) (rest := []) (W := 0) rfl rfl (lenOf (pd_1) rfl) rfl rfl D10_0 (pc' := 3) rfl (by decide) (by decide) (by decide) (by decide) all0 ?_
  intro T1 h1_ v2 s3 H1 Q4
  obtain ⟨a5, k6, rfl, rfl, K7, g8, F9, F10⟩ := Q4
  have na5 : n0 ≤ a5 := Nat.le_trans H.le g8
  show Go p e below _ (T1.setTop (mkF m 3 #[.val (.ref p0), .unset, .unset, .unset, .unset] [(.ref a5)]))
  refine G.astoreN H1 (L' := #[.val (.ref p0), .val (.ref a5), .unset, .unset, .unset]) D10_3 (pc' := 4) rfl rfl rfl ?_
  refine G.aloadN H1 D10_4 (pc' := 5) rfl rfl rfl ?_
  refine G.arrlen H1 F9 D10_5 (pc' := 6) rfl ?_
  refine G.istoreN H1 (L' := #[.val (.ref p0), .val (.ref a5), .val (.int 2), .unset, .unset]) D10_6 (pc' := 7) rfl rfl ?_
  refine G.iconst H1 D10_7 (pc' := 8) rfl (v := 0) rfl ?_
  refine G.istoreN H1 (L' := #[.val (.ref p0), .val (.ref a5), .val (.int 2), .val (.int 0), .unset]) D10_8 (pc' := 9) rfl rfl ?_
  refine G.iloadN H1 D10_9 (pc' := 10) rfl rfl ?_
  refine G.iloadN H1 D10_10 (pc' := 11) rfl rfl ?_
  refine G.icmpNo H1 D10_11 (pc' := 14) rfl (by decide) ?_
  refine G.aloadN H1 D10_14 (pc' := 15) rfl rfl rfl ?_
  refine G.iloadN H1 D10_15 (pc' := 16) rfl rfl ?_
  refine G.aaloadG H1 F9 rfl (j := 0) (v := (.ref uu1)) (by decide) rfl D10_16 (pc' := 17) rfl ?_
  refine G.astore H1 (L' := #[.val (.ref p0), .val (.ref a5), .val (.int 2), .val (.int 0), .val (.ref uu1)]) D10_17 (pc' := 19) rfl rfl rfl ?_
  refine G.aload H1 D10_19 (pc' := 21) rfl rfl rfl ?_
  have B11 := Fld.ext H1.old.2 (hv8 V)
  refine G.getF H1 (wd57 V) Via.refl B11 D10_21 (pc' := 24) rfl ?_
  intro T12 H13
  refine G.aloadN H13 D10_24 (pc' := 25) rfl rfl rfl ?_
  have B14 := Str.ext H13.old.2 (hv22 V)
  have F15 := (Str.keep f0 K7 nin0 nin0)
  refine G.strEq H13 (strwEq V) (wd2 V) (wd59 V) (wd60 V) (wd62 V) (wd61 V) B14 F15 (hv17 V) (hv18 V) (rest := []) (W := 0) rfl rfl D10_25 (pc' := 28) rfl (by decide) (by decide) (by decide) (by decide) ?_ ?_
  ·
    intro T16 H17 c18
    exact absurd (List.cons.inj c18).1 cc1
  ·
    intro T19 H20 c21
    refine G.ifYes H20 D10_28 (by decide) (by decide) (pc' := 34) rfl ?_
    refine G.iinc H20 (v := 1) (L' := #[.val (.ref p0), .val (.ref a5), .val (.int 2), .val (.int 1), .val (.ref uu1)]) D10_34 (pc' := 37) rfl rfl rfl rfl ?_
    refine G.goto H20 D10_37 (by decide) (pc' := 9) rfl ?_
    show Go p e below _ (T19.setTop (mkF m 9 #[.val (.ref p0), .val (.ref a5), .val (.int 2), .val (.int 1), .val (.ref uu1)] []))
    refine G.iloadN H20 D10_9 (pc' := 10) rfl rfl ?_
    refine G.iloadN H20 D10_10 (pc' := 11) rfl rfl ?_
    refine G.icmpNo H20 D10_11 (pc' := 14) rfl (by decide) ?_
    refine G.aloadN H20 D10_14 (pc' := 15) rfl rfl rfl ?_
    refine G.iloadN H20 D10_15 (pc' := 16) rfl rfl ?_
    refine G.aaloadG H20 F9 rfl (j := 1) (v := (.ref uu2)) (by decide) rfl D10_16 (pc' := 17) rfl ?_
    refine G.astore H20 (L' := #[.val (.ref p0), .val (.ref a5), .val (.int 2), .val (.int 1), .val (.ref uu2)]) D10_17 (pc' := 19) rfl rfl rfl ?_
    refine G.aload H20 D10_19 (pc' := 21) rfl rfl rfl ?_
    have B22 := Fld.ext H20.old.2 (hv6 V)
    refine G.getF H20 (wd57 V) Via.refl B22 D10_21 (pc' := 24) rfl ?_
    intro T23 H24
    refine G.aloadN H24 D10_24 (pc' := 25) rfl rfl rfl ?_
    have B25 := Str.ext H24.old.2 (hv21 V)
    refine G.strEq H24 (strwEq V) (wd2 V) (wd59 V) (wd60 V) (wd62 V) (wd61 V) B25 F15 (hv17 V) (hv18 V) (rest := []) (W := 0) rfl rfl D10_25 (pc' := 28) rfl (by decide) (by decide) (by decide) (by decide) ?_ ?_
    ·
      intro T26 H27 c28
      exact absurd c28 (by intro qq; simp at qq)
    ·
      intro T29 H30 c31
      refine G.ifYes H30 D10_28 (by decide) (by decide) (pc' := 34) rfl ?_
      refine G.iinc H30 (v := 2) (L' := #[.val (.ref p0), .val (.ref a5), .val (.int 2), .val (.int 2), .val (.ref uu2)]) D10_34 (pc' := 37) rfl rfl rfl rfl ?_
      refine G.goto H30 D10_37 (by decide) (pc' := 9) rfl ?_
      show Go p e below _ (T29.setTop (mkF m 9 #[.val (.ref p0), .val (.ref a5), .val (.int 2), .val (.int 2), .val (.ref uu2)] []))
      refine G.iloadN H30 D10_9 (pc' := 10) rfl rfl ?_
      refine G.iloadN H30 D10_10 (pc' := 11) rfl rfl ?_
      refine G.icmpYes H30 D10_11 (by decide) (by decide) (pc' := 40) rfl ?_
      refine G.aconstNull H30 D10_40 (pc' := 41) rfl ?_
      have K32 : Keep h0 h1_ [] := (Keep.trans (Keep.refl h0 []) K7 all0)
      exact G.retA H30 (t := (.object "bindery/bindings/BindingType")) rfl rfl rfl D10_41 (so := []) all0 (by decide) (by decide) ⟨c21, rfl, rfl, K32⟩
set_option maxRecDepth 65536 in
set_option maxHeartbeats 40000000 in
theorem m8_named (V : Env1 Z a0 n0 uu0 uu1 uu2 uu3 uu4 uu5 uu6 uu7 uu8 uu9 uu10 uu11) (p0 : Addr) (p1 : Addr) (c0 : ClassId) (x0 : Int32) (h0 : Heap) (hO : Old Z n0 h0) (f0 : Str Z h0 p0 p1 c0 [100, x0, 114, 101, 99, 116, 111, 114, 121, 45, 105, 110]) (cc1 : 105 = x0) :
    Met Z a0 ELs True n0 l (⟨"bindery/bindings/BindingType", "named", "(Ljava/lang/String;)Lbindery/bindings/BindingType;"⟩ : MethodName) prog_4_method_4_code 5 (Option.some (FieldType.object "bindery/bindings/BindingType")) ({ frames := 2, cells := 1, slots := 2, locals := 28 } : Room) #[(.ref p0)] h0 [] (fun v h so => ([100, 105, 114, 101, 99, 116, 111, 114, 121, 45, 105, 110] = [100, x0, 114, 101, 99, 116, 111, 114, 121, 45, 105, 110] ∧ v = some (.ref uu1) ∧ so = [] ∧ Keep h0 h [])) := by
  refine Met.of (EWl V) (by first | decide +kernel | rfl) hO (L0 := #[.val (.ref p0), .unset, .unset, .unset, .unset]) rfl ?_
  intro p e s m below meth c T H
  show Go p e below _ (T.setTop (mkF m 0 #[.val (.ref p0), .unset, .unset, .unset, .unset] []))
  refine G.callS H (m2_values V h0 H.old) (wd41 V) (wd42 V) (wd36 V) (wd43 V) (by decide) (argsL := []) (rest := []) (W := 0) rfl rfl (lenOf (pd_1) rfl) rfl rfl D10_0 (pc' := 3) rfl (by decide) (by decide) (by decide) (by decide) all0 ?_
  intro T1 h1_ v2 s3 H1 Q4
  obtain ⟨a5, k6, rfl, rfl, K7, g8, F9, F10⟩ := Q4
  have na5 : n0 ≤ a5 := Nat.le_trans H.le g8
  show Go p e below _ (T1.setTop (mkF m 3 #[.val (.ref p0), .unset, .unset, .unset, .unset] [(.ref a5)]))
  refine G.astoreN H1 (L' := #[.val (.ref p0), .val (.ref a5), .unset, .unset, .unset]) D10_3 (pc' := 4) rfl rfl rfl ?_
  refine G.aloadN H1 D10_4 (pc' := 5) rfl rfl rfl ?_
  refine G.arrlen H1 F9 D10_5 (pc' := 6) rfl ?_
  refine G.istoreN H1 (L' := #[.val (.ref p0), .val (.ref a5), .val (.int 2), .unset, .unset]) D10_6 (pc' := 7) rfl rfl ?_
  refine G.iconst H1 D10_7 (pc' := 8) rfl (v := 0) rfl ?_
  refine G.istoreN H1 (L' := #[.val (.ref p0), .val (.ref a5), .val (.int 2), .val (.int 0), .unset]) D10_8 (pc' := 9) rfl rfl ?_
  refine G.iloadN H1 D10_9 (pc' := 10) rfl rfl ?_
  refine G.iloadN H1 D10_10 (pc' := 11) rfl rfl ?_
  refine G.icmpNo H1 D10_11 (pc' := 14) rfl (by decide) ?_
  refine G.aloadN H1 D10_14 (pc' := 15) rfl rfl rfl ?_
  refine G.iloadN H1 D10_15 (pc' := 16) rfl rfl ?_
  refine G.aaloadG H1 F9 rfl (j := 0) (v := (.ref uu1)) (by decide) rfl D10_16 (pc' := 17) rfl ?_
  refine G.astore H1 (L' := #[.val (.ref p0), .val (.ref a5), .val (.int 2), .val (.int 0), .val (.ref uu1)]) D10_17 (pc' := 19) rfl rfl rfl ?_
  refine G.aload H1 D10_19 (pc' := 21) rfl rfl rfl ?_
  have B11 := Fld.ext H1.old.2 (hv8 V)
  refine G.getF H1 (wd57 V) Via.refl B11 D10_21 (pc' := 24) rfl ?_
  intro T12 H13
  refine G.aloadN H13 D10_24 (pc' := 25) rfl rfl rfl ?_
  have B14 := Str.ext H13.old.2 (hv22 V)
  have F15 := (Str.keep f0 K7 nin0 nin0)
  refine G.strEq H13 (strwEq V) (wd2 V) (wd59 V) (wd60 V) (wd62 V) (wd61 V) B14 F15 (hv17 V) (hv18 V) (rest := []) (W := 0) rfl rfl D10_25 (pc' := 28) rfl (by decide) (by decide) (by decide) (by decide) ?_ ?_
  ·
    intro T16 H17 c18
    refine G.ifNo H17 D10_28 (pc' := 31) rfl (by decide) ?_
    refine G.aload H17 D10_31 (pc' := 33) rfl rfl rfl ?_
    have K19 : Keep h0 h1_ [] := (Keep.trans (Keep.refl h0 []) K7 all0)
    exact G.retA H17 (t := (.object "bindery/bindings/BindingType")) rfl rfl rfl D10_33 (so := []) all0 (by decide) (by decide) ⟨c18, rfl, rfl, K19⟩
  ·
    intro T20 H21 c22
    exact absurd (lcs rfl (lcs cc1 (lcs rfl (lcs rfl (lcs rfl (lcs rfl (lcs rfl (lcs rfl (lcs rfl (lcs rfl (lcs rfl (lcs rfl rfl)))))))))))) c22
set_option maxRecDepth 65536 in
set_option maxHeartbeats 40000000 in
theorem m9_named (V : Env1 Z a0 n0 uu0 uu1 uu2 uu3 uu4 uu5 uu6 uu7 uu8 uu9 uu10 uu11) (p0 : Addr) (p1 : Addr) (c0 : ClassId) (x0 : Int32) (h0 : Heap) (hO : Old Z n0 h0) (f0 : Str Z h0 p0 p1 c0 [100, x0, 114, 101, 99, 116, 111, 114, 121, 45, 105, 110]) (cc1 : ¬ 105 = x0) :
    Met Z a0 ELs True n0 l (⟨"bindery/bindings/BindingType", "named", "(Ljava/lang/String;)Lbindery/bindings/BindingType;"⟩ : MethodName) prog_4_method_4_code 5 (Option.some (FieldType.object "bindery/bindings/BindingType")) ({ frames := 2, cells := 1, slots := 2, locals := 28 } : Room) #[(.ref p0)] h0 [] (fun v h so => (¬ [100, 105, 114, 101, 99, 116, 111, 114, 121, 45, 105, 110] = [100, x0, 114, 101, 99, 116, 111, 114, 121, 45, 105, 110] ∧ v = some .null ∧ so = [] ∧ Keep h0 h [])) := by
  refine Met.of (EWl V) (by first | decide +kernel | rfl) hO (L0 := #[.val (.ref p0), .unset, .unset, .unset, .unset]) rfl ?_
  intro p e s m below meth c T H
  show Go p e below _ (T.setTop (mkF m 0 #[.val (.ref p0), .unset, .unset, .unset, .unset] []))
  refine G.callS H (m2_values V h0 H.old) (wd41 V) (wd42 V) (wd36 V) (wd43 V) (by decide) (argsL := []) (rest := []) (W := 0) rfl rfl (lenOf (pd_1) rfl) rfl rfl D10_0 (pc' := 3) rfl (by decide) (by decide) (by decide) (by decide) all0 ?_
  intro T1 h1_ v2 s3 H1 Q4
  obtain ⟨a5, k6, rfl, rfl, K7, g8, F9, F10⟩ := Q4
  have na5 : n0 ≤ a5 := Nat.le_trans H.le g8
  show Go p e below _ (T1.setTop (mkF m 3 #[.val (.ref p0), .unset, .unset, .unset, .unset] [(.ref a5)]))
  refine G.astoreN H1 (L' := #[.val (.ref p0), .val (.ref a5), .unset, .unset, .unset]) D10_3 (pc' := 4) rfl rfl rfl ?_
  refine G.aloadN H1 D10_4 (pc' := 5) rfl rfl rfl ?_
  refine G.arrlen H1 F9 D10_5 (pc' := 6) rfl ?_
  refine G.istoreN H1 (L' := #[.val (.ref p0), .val (.ref a5), .val (.int 2), .unset, .unset]) D10_6 (pc' := 7) rfl rfl ?_
  refine G.iconst H1 D10_7 (pc' := 8) rfl (v := 0) rfl ?_
  refine G.istoreN H1 (L' := #[.val (.ref p0), .val (.ref a5), .val (.int 2), .val (.int 0), .unset]) D10_8 (pc' := 9) rfl rfl ?_
  refine G.iloadN H1 D10_9 (pc' := 10) rfl rfl ?_
  refine G.iloadN H1 D10_10 (pc' := 11) rfl rfl ?_
  refine G.icmpNo H1 D10_11 (pc' := 14) rfl (by decide) ?_
  refine G.aloadN H1 D10_14 (pc' := 15) rfl rfl rfl ?_
  refine G.iloadN H1 D10_15 (pc' := 16) rfl rfl ?_
  refine G.aaloadG H1 F9 rfl (j := 0) (v := (.ref uu1)) (by decide) rfl D10_16 (pc' := 17) rfl ?_
  refine G.astore H1 (L' := #[.val (.ref p0), .val (.ref a5), .val (.int 2), .val (.int 0), .val (.ref uu1)]) D10_17 (pc' := 19) rfl rfl rfl ?_
  refine G.aload H1 D10_19 (pc' := 21) rfl rfl rfl ?_
  have B11 := Fld.ext H1.old.2 (hv8 V)
  refine G.getF H1 (wd57 V) Via.refl B11 D10_21 (pc' := 24) rfl ?_
  intro T12 H13
  refine G.aloadN H13 D10_24 (pc' := 25) rfl rfl rfl ?_
  have B14 := Str.ext H13.old.2 (hv22 V)
  have F15 := (Str.keep f0 K7 nin0 nin0)
  refine G.strEq H13 (strwEq V) (wd2 V) (wd59 V) (wd60 V) (wd62 V) (wd61 V) B14 F15 (hv17 V) (hv18 V) (rest := []) (W := 0) rfl rfl D10_25 (pc' := 28) rfl (by decide) (by decide) (by decide) (by decide) ?_ ?_
  ·
    intro T16 H17 c18
    exact absurd (List.cons.inj (List.cons.inj c18).2).1 cc1
  ·
    intro T19 H20 c21
    refine G.ifYes H20 D10_28 (by decide) (by decide) (pc' := 34) rfl ?_
    refine G.iinc H20 (v := 1) (L' := #[.val (.ref p0), .val (.ref a5), .val (.int 2), .val (.int 1), .val (.ref uu1)]) D10_34 (pc' := 37) rfl rfl rfl rfl ?_
    refine G.goto H20 D10_37 (by decide) (pc' := 9) rfl ?_
    show Go p e below _ (T19.setTop (mkF m 9 #[.val (.ref p0), .val (.ref a5), .val (.int 2), .val (.int 1), .val (.ref uu1)] []))
    refine G.iloadN H20 D10_9 (pc' := 10) rfl rfl ?_
    refine G.iloadN H20 D10_10 (pc' := 11) rfl rfl ?_
    refine G.icmpNo H20 D10_11 (pc' := 14) rfl (by decide) ?_
    refine G.aloadN H20 D10_14 (pc' := 15) rfl rfl rfl ?_
    refine G.iloadN H20 D10_15 (pc' := 16) rfl rfl ?_
    refine G.aaloadG H20 F9 rfl (j := 1) (v := (.ref uu2)) (by decide) rfl D10_16 (pc' := 17) rfl ?_
    refine G.astore H20 (L' := #[.val (.ref p0), .val (.ref a5), .val (.int 2), .val (.int 1), .val (.ref uu2)]) D10_17 (pc' := 19) rfl rfl rfl ?_
    refine G.aload H20 D10_19 (pc' := 21) rfl rfl rfl ?_
    have B22 := Fld.ext H20.old.2 (hv6 V)
    refine G.getF H20 (wd57 V) Via.refl B22 D10_21 (pc' := 24) rfl ?_
    intro T23 H24
    refine G.aloadN H24 D10_24 (pc' := 25) rfl rfl rfl ?_
    have B25 := Str.ext H24.old.2 (hv21 V)
    refine G.strEq H24 (strwEq V) (wd2 V) (wd59 V) (wd60 V) (wd62 V) (wd61 V) B25 F15 (hv17 V) (hv18 V) (rest := []) (W := 0) rfl rfl D10_25 (pc' := 28) rfl (by decide) (by decide) (by decide) (by decide) ?_ ?_
    ·
      intro T26 H27 c28
      exact absurd c28 (by intro qq; simp at qq)
    ·
      intro T29 H30 c31
      refine G.ifYes H30 D10_28 (by decide) (by decide) (pc' := 34) rfl ?_
      refine G.iinc H30 (v := 2) (L' := #[.val (.ref p0), .val (.ref a5), .val (.int 2), .val (.int 2), .val (.ref uu2)]) D10_34 (pc' := 37) rfl rfl rfl rfl ?_
      refine G.goto H30 D10_37 (by decide) (pc' := 9) rfl ?_
      show Go p e below _ (T29.setTop (mkF m 9 #[.val (.ref p0), .val (.ref a5), .val (.int 2), .val (.int 2), .val (.ref uu2)] []))
      refine G.iloadN H30 D10_9 (pc' := 10) rfl rfl ?_
      refine G.iloadN H30 D10_10 (pc' := 11) rfl rfl ?_
      refine G.icmpYes H30 D10_11 (by decide) (by decide) (pc' := 40) rfl ?_
      refine G.aconstNull H30 D10_40 (pc' := 41) rfl ?_
      have K32 : Keep h0 h1_ [] := (Keep.trans (Keep.refl h0 []) K7 all0)
      exact G.retA H30 (t := (.object "bindery/bindings/BindingType")) rfl rfl rfl D10_41 (so := []) all0 (by decide) (by decide) ⟨c21, rfl, rfl, K32⟩
set_option maxRecDepth 65536 in
set_option maxHeartbeats 40000000 in
theorem m10_named (V : Env1 Z a0 n0 uu0 uu1 uu2 uu3 uu4 uu5 uu6 uu7 uu8 uu9 uu10 uu11) (p0 : Addr) (p1 : Addr) (c0 : ClassId) (x0 : Int32) (h0 : Heap) (hO : Old Z n0 h0) (f0 : Str Z h0 p0 p1 c0 [100, 105, x0, 101, 99, 116, 111, 114, 121, 45, 105, 110]) (cc1 : 114 = x0) :
    Met Z a0 ELs True n0 l (⟨"bindery/bindings/BindingType", "named", "(Ljava/lang/String;)Lbindery/bindings/BindingType;"⟩ : MethodName) prog_4_method_4_code 5 (Option.some (FieldType.object "bindery/bindings/BindingType")) ({ frames := 2, cells := 1, slots := 2, locals := 28 } : Room) #[(.ref p0)] h0 [] (fun v h so => ([100, 105, 114, 101, 99, 116, 111, 114, 121, 45, 105, 110] = [100, 105, x0, 101, 99, 116, 111, 114, 121, 45, 105, 110] ∧ v = some (.ref uu1) ∧ so = [] ∧ Keep h0 h [])) := by
  refine Met.of (EWl V) (by first | decide +kernel | rfl) hO (L0 := #[.val (.ref p0), .unset, .unset, .unset, .unset]) rfl ?_
  intro p e s m below meth c T H
  show Go p e below _ (T.setTop (mkF m 0 #[.val (.ref p0), .unset, .unset, .unset, .unset] []))
  refine G.callS H (m2_values V h0 H.old) (wd41 V) (wd42 V) (wd36 V) (wd43 V) (by decide) (argsL := []) (rest := []) (W := 0) rfl rfl (lenOf (pd_1) rfl) rfl rfl D10_0 (pc' := 3) rfl (by decide) (by decide) (by decide) (by decide) all0 ?_
  intro T1 h1_ v2 s3 H1 Q4
  obtain ⟨a5, k6, rfl, rfl, K7, g8, F9, F10⟩ := Q4
  have na5 : n0 ≤ a5 := Nat.le_trans H.le g8
  show Go p e below _ (T1.setTop (mkF m 3 #[.val (.ref p0), .unset, .unset, .unset, .unset] [(.ref a5)]))
  refine G.astoreN H1 (L' := #[.val (.ref p0), .val (.ref a5), .unset, .unset, .unset]) D10_3 (pc' := 4) rfl rfl rfl ?_
  refine G.aloadN H1 D10_4 (pc' := 5) rfl rfl rfl ?_
  refine G.arrlen H1 F9 D10_5 (pc' := 6) rfl ?_
  refine G.istoreN H1 (L' := #[.val (.ref p0), .val (.ref a5), .val (.int 2), .unset, .unset]) D10_6 (pc' := 7) rfl rfl ?_
  refine G.iconst H1 D10_7 (pc' := 8) rfl (v := 0) rfl ?_
  refine G.istoreN H1 (L' := #[.val (.ref p0), .val (.ref a5), .val (.int 2), .val (.int 0), .unset]) D10_8 (pc' := 9) rfl rfl ?_
  refine G.iloadN H1 D10_9 (pc' := 10) rfl rfl ?_
  refine G.iloadN H1 D10_10 (pc' := 11) rfl rfl ?_
  refine G.icmpNo H1 D10_11 (pc' := 14) rfl (by decide) ?_
  refine G.aloadN H1 D10_14 (pc' := 15) rfl rfl rfl ?_
  refine G.iloadN H1 D10_15 (pc' := 16) rfl rfl ?_
  refine G.aaloadG H1 F9 rfl (j := 0) (v := (.ref uu1)) (by decide) rfl D10_16 (pc' := 17) rfl ?_
  refine G.astore H1 (L' := #[.val (.ref p0), .val (.ref a5), .val (.int 2), .val (.int 0), .val (.ref uu1)]) D10_17 (pc' := 19) rfl rfl rfl ?_
  refine G.aload H1 D10_19 (pc' := 21) rfl rfl rfl ?_
  have B11 := Fld.ext H1.old.2 (hv8 V)
  refine G.getF H1 (wd57 V) Via.refl B11 D10_21 (pc' := 24) rfl ?_
  intro T12 H13
  refine G.aloadN H13 D10_24 (pc' := 25) rfl rfl rfl ?_
  have B14 := Str.ext H13.old.2 (hv22 V)
  have F15 := (Str.keep f0 K7 nin0 nin0)
  refine G.strEq H13 (strwEq V) (wd2 V) (wd59 V) (wd60 V) (wd62 V) (wd61 V) B14 F15 (hv17 V) (hv18 V) (rest := []) (W := 0) rfl rfl D10_25 (pc' := 28) rfl (by decide) (by decide) (by decide) (by decide) ?_ ?_
  ·
    intro T16 H17 c18
    refine G.ifNo H17 D10_28 (pc' := 31) rfl (by decide) ?_
    refine G.aload H17 D10_31 (pc' := 33) rfl rfl rfl ?_
    have K19 : Keep h0 h1_ [] := (Keep.trans (Keep.refl h0 []) K7 all0)
    exact G.retA H17 (t := (.object "bindery/bindings/BindingType")) rfl rfl rfl D10_33 (so := []) all0 (by decide) (by decide) ⟨c18, rfl, rfl, K19⟩
  ·
    intro T20 H21 c22
    exact absurd (lcs rfl (lcs rfl (lcs cc1 (lcs rfl (lcs rfl (lcs rfl (lcs rfl (lcs rfl (lcs rfl (lcs rfl (lcs rfl (lcs rfl rfl)))))))))))) c22
set_option maxRecDepth 65536 in
set_option maxHeartbeats 40000000 in
theorem m11_named (V : Env1 Z a0 n0 uu0 uu1 uu2 uu3 uu4 uu5 uu6 uu7 uu8 uu9 uu10 uu11) (p0 : Addr) (p1 : Addr) (c0 : ClassId) (x0 : Int32) (h0 : Heap) (hO : Old Z n0 h0) (f0 : Str Z h0 p0 p1 c0 [100, 105, x0, 101, 99, 116, 111, 114, 121, 45, 105, 110]) (cc1 : ¬ 114 = x0) :
    Met Z a0 ELs True n0 l (⟨"bindery/bindings/BindingType", "named", "(Ljava/lang/String;)Lbindery/bindings/BindingType;"⟩ : MethodName) prog_4_method_4_code 5 (Option.some (FieldType.object "bindery/bindings/BindingType")) ({ frames := 2, cells := 1, slots := 2, locals := 28 } : Room) #[(.ref p0)] h0 [] (fun v h so => (¬ [100, 105, 114, 101, 99, 116, 111, 114, 121, 45, 105, 110] = [100, 105, x0, 101, 99, 116, 111, 114, 121, 45, 105, 110] ∧ v = some .null ∧ so = [] ∧ Keep h0 h [])) := by
  refine Met.of (EWl V) (by first | decide +kernel | rfl) hO (L0 := #[.val (.ref p0), .unset, .unset, .unset, .unset]) rfl ?_
  intro p e s m below meth c T H
  show Go p e below _ (T.setTop (mkF m 0 #[.val (.ref p0), .unset, .unset, .unset, .unset] []))
  refine G.callS H (m2_values V h0 H.old) (wd41 V) (wd42 V) (wd36 V) (wd43 V) (by decide) (argsL := []) (rest := []) (W := 0) rfl rfl (lenOf (pd_1) rfl) rfl rfl D10_0 (pc' := 3) rfl (by decide) (by decide) (by decide) (by decide) all0 ?_
  intro T1 h1_ v2 s3 H1 Q4
  obtain ⟨a5, k6, rfl, rfl, K7, g8, F9, F10⟩ := Q4
  have na5 : n0 ≤ a5 := Nat.le_trans H.le g8
  show Go p e below _ (T1.setTop (mkF m 3 #[.val (.ref p0), .unset, .unset, .unset, .unset] [(.ref a5)]))
  refine G.astoreN H1 (L' := #[.val (.ref p0), .val (.ref a5), .unset, .unset, .unset]) D10_3 (pc' := 4) rfl rfl rfl ?_
  refine G.aloadN H1 D10_4 (pc' := 5) rfl rfl rfl ?_
  refine G.arrlen H1 F9 D10_5 (pc' := 6) rfl ?_
  refine G.istoreN H1 (L' := #[.val (.ref p0), .val (.ref a5), .val (.int 2), .unset, .unset]) D10_6 (pc' := 7) rfl rfl ?_
  refine G.iconst H1 D10_7 (pc' := 8) rfl (v := 0) rfl ?_
  refine G.istoreN H1 (L' := #[.val (.ref p0), .val (.ref a5), .val (.int 2), .val (.int 0), .unset]) D10_8 (pc' := 9) rfl rfl ?_
  refine G.iloadN H1 D10_9 (pc' := 10) rfl rfl ?_
  refine G.iloadN H1 D10_10 (pc' := 11) rfl rfl ?_
  refine G.icmpNo H1 D10_11 (pc' := 14) rfl (by decide) ?_
  refine G.aloadN H1 D10_14 (pc' := 15) rfl rfl rfl ?_
  refine G.iloadN H1 D10_15 (pc' := 16) rfl rfl ?_
  refine G.aaloadG H1 F9 rfl (j := 0) (v := (.ref uu1)) (by decide) rfl D10_16 (pc' := 17) rfl ?_
  refine G.astore H1 (L' := #[.val (.ref p0), .val (.ref a5), .val (.int 2), .val (.int 0), .val (.ref uu1)]) D10_17 (pc' := 19) rfl rfl rfl ?_
  refine G.aload H1 D10_19 (pc' := 21) rfl rfl rfl ?_
  have B11 := Fld.ext H1.old.2 (hv8 V)
  refine G.getF H1 (wd57 V) Via.refl B11 D10_21 (pc' := 24) rfl ?_
  intro T12 H13
  refine G.aloadN H13 D10_24 (pc' := 25) rfl rfl rfl ?_
  have B14 := Str.ext H13.old.2 (hv22 V)
  have F15 := (Str.keep f0 K7 nin0 nin0)
  refine G.strEq H13 (strwEq V) (wd2 V) (wd59 V) (wd60 V) (wd62 V) (wd61 V) B14 F15 (hv17 V) (hv18 V) (rest := []) (W := 0) rfl rfl D10_25 (pc' := 28) rfl (by decide) (by decide) (by decide) (by decide) ?_ ?_
  ·
    intro T16 H17 c18
    exact absurd (List.cons.inj (List.cons.inj (List.cons.inj c18).2).2).1 cc1
  ·
    intro T19 H20 c21
    refine G.ifYes H20 D10_28 (by decide) (by decide) (pc' := 34) rfl ?_
    refine G.iinc H20 (v := 1) (L' := #[.val (.ref p0), .val (.ref a5), .val (.int 2), .val (.int 1), .val (.ref uu1)]) D10_34 (pc' := 37) rfl rfl rfl rfl ?_
    refine G.goto H20 D10_37 (by decide) (pc' := 9) rfl ?_
    show Go p e below _ (T19.setTop (mkF m 9 #[.val (.ref p0), .val (.ref a5), .val (.int 2), .val (.int 1), .val (.ref uu1)] []))
    refine G.iloadN H20 D10_9 (pc' := 10) rfl rfl ?_
    refine G.iloadN H20 D10_10 (pc' := 11) rfl rfl ?_
    refine G.icmpNo H20 D10_11 (pc' := 14) rfl (by decide) ?_
    refine G.aloadN H20 D10_14 (pc' := 15) rfl rfl rfl ?_
    refine G.iloadN H20 D10_15 (pc' := 16) rfl rfl ?_
    refine G.aaloadG H20 F9 rfl (j := 1) (v := (.ref uu2)) (by decide) rfl D10_16 (pc' := 17) rfl ?_
    refine G.astore H20 (L' := #[.val (.ref p0), .val (.ref a5), .val (.int 2), .val (.int 1), .val (.ref uu2)]) D10_17 (pc' := 19) rfl rfl rfl ?_
    refine G.aload H20 D10_19 (pc' := 21) rfl rfl rfl ?_
    have B22 := Fld.ext H20.old.2 (hv6 V)
    refine G.getF H20 (wd57 V) Via.refl B22 D10_21 (pc' := 24) rfl ?_
    intro T23 H24
    refine G.aloadN H24 D10_24 (pc' := 25) rfl rfl rfl ?_
    have B25 := Str.ext H24.old.2 (hv21 V)
    refine G.strEq H24 (strwEq V) (wd2 V) (wd59 V) (wd60 V) (wd62 V) (wd61 V) B25 F15 (hv17 V) (hv18 V) (rest := []) (W := 0) rfl rfl D10_25 (pc' := 28) rfl (by decide) (by decide) (by decide) (by decide) ?_ ?_
    ·
      intro T26 H27 c28
      exact absurd c28 (by intro qq; simp at qq)
    ·
      intro T29 H30 c31
      refine G.ifYes H30 D10_28 (by decide) (by decide) (pc' := 34) rfl ?_
      refine G.iinc H30 (v := 2) (L' := #[.val (.ref p0), .val (.ref a5), .val (.int 2), .val (.int 2), .val (.ref uu2)]) D10_34 (pc' := 37) rfl rfl rfl rfl ?_
      refine G.goto H30 D10_37 (by decide) (pc' := 9) rfl ?_
      show Go p e below _ (T29.setTop (mkF m 9 #[.val (.ref p0), .val (.ref a5), .val (.int 2), .val (.int 2), .val (.ref uu2)] []))
      refine G.iloadN H30 D10_9 (pc' := 10) rfl rfl ?_
      refine G.iloadN H30 D10_10 (pc' := 11) rfl rfl ?_
      refine G.icmpYes H30 D10_11 (by decide) (by decide) (pc' := 40) rfl ?_
      refine G.aconstNull H30 D10_40 (pc' := 41) rfl ?_
      have K32 : Keep h0 h1_ [] := (Keep.trans (Keep.refl h0 []) K7 all0)
      exact G.retA H30 (t := (.object "bindery/bindings/BindingType")) rfl rfl rfl D10_41 (so := []) all0 (by decide) (by decide) ⟨c21, rfl, rfl, K32⟩
set_option maxRecDepth 65536 in
set_option maxHeartbeats 40000000 in
theorem m12_named (V : Env1 Z a0 n0 uu0 uu1 uu2 uu3 uu4 uu5 uu6 uu7 uu8 uu9 uu10 uu11) (p0 : Addr) (p1 : Addr) (c0 : ClassId) (x0 : Int32) (h0 : Heap) (hO : Old Z n0 h0) (f0 : Str Z h0 p0 p1 c0 [100, 105, 114, x0, 99, 116, 111, 114, 121, 45, 105, 110]) (cc1 : 101 = x0) :
    Met Z a0 ELs True n0 l (⟨"bindery/bindings/BindingType", "named", "(Ljava/lang/String;)Lbindery/bindings/BindingType;"⟩ : MethodName) prog_4_method_4_code 5 (Option.some (FieldType.object "bindery/bindings/BindingType")) ({ frames := 2, cells := 1, slots := 2, locals := 28 } : Room) #[(.ref p0)] h0 [] (fun v h so => ([100, 105, 114, 101, 99, 116, 111, 114, 121, 45, 105, 110] = [100, 105, 114, x0, 99, 116, 111, 114, 121, 45, 105, 110] ∧ v = some (.ref uu1) ∧ so = [] ∧ Keep h0 h [])) := by
  refine Met.of (EWl V) (by first | decide +kernel | rfl) hO (L0 := #[.val (.ref p0), .unset, .unset, .unset, .unset]) rfl ?_
  intro p e s m below meth c T H
  show Go p e below _ (T.setTop (mkF m 0 #[.val (.ref p0), .unset, .unset, .unset, .unset] []))
  refine G.callS H (m2_values V h0 H.old) (wd41 V) (wd42 V) (wd36 V) (wd43 V) (by decide) (argsL := []) (rest := []) (W := 0) rfl rfl (lenOf (pd_1) rfl) rfl rfl D10_0 (pc' := 3) rfl (by decide) (by decide) (by decide) (by decide) all0 ?_
  intro T1 h1_ v2 s3 H1 Q4
  obtain ⟨a5, k6, rfl, rfl, K7, g8, F9, F10⟩ := Q4
  have na5 : n0 ≤ a5 := Nat.le_trans H.le g8
  show Go p e below _ (T1.setTop (mkF m 3 #[.val (.ref p0), .unset, .unset, .unset, .unset] [(.ref a5)]))
  refine G.astoreN H1 (L' := #[.val (.ref p0), .val (.ref a5), .unset, .unset, .unset]) D10_3 (pc' := 4) rfl rfl rfl ?_
  refine G.aloadN H1 D10_4 (pc' := 5) rfl rfl rfl ?_
  refine G.arrlen H1 F9 D10_5 (pc' := 6) rfl ?_
  refine G.istoreN H1 (L' := #[.val (.ref p0), .val (.ref a5), .val (.int 2), .unset, .unset]) D10_6 (pc' := 7) rfl rfl ?_
  refine G.iconst H1 D10_7 (pc' := 8) rfl (v := 0) rfl ?_
  refine G.istoreN H1 (L' := #[.val (.ref p0), .val (.ref a5), .val (.int 2), .val (.int 0), .unset]) D10_8 (pc' := 9) rfl rfl ?_
  refine G.iloadN H1 D10_9 (pc' := 10) rfl rfl ?_
  refine G.iloadN H1 D10_10 (pc' := 11) rfl rfl ?_
  refine G.icmpNo H1 D10_11 (pc' := 14) rfl (by decide) ?_
  refine G.aloadN H1 D10_14 (pc' := 15) rfl rfl rfl ?_
  refine G.iloadN H1 D10_15 (pc' := 16) rfl rfl ?_
  refine G.aaloadG H1 F9 rfl (j := 0) (v := (.ref uu1)) (by decide) rfl D10_16 (pc' := 17) rfl ?_
  refine G.astore H1 (L' := #[.val (.ref p0), .val (.ref a5), .val (.int 2), .val (.int 0), .val (.ref uu1)]) D10_17 (pc' := 19) rfl rfl rfl ?_
  refine G.aload H1 D10_19 (pc' := 21) rfl rfl rfl ?_
  have B11 := Fld.ext H1.old.2 (hv8 V)
  refine G.getF H1 (wd57 V) Via.refl B11 D10_21 (pc' := 24) rfl ?_
  intro T12 H13
  refine G.aloadN H13 D10_24 (pc' := 25) rfl rfl rfl ?_
  have B14 := Str.ext H13.old.2 (hv22 V)
  have F15 := (Str.keep f0 K7 nin0 nin0)
  refine G.strEq H13 (strwEq V) (wd2 V) (wd59 V) (wd60 V) (wd62 V) (wd61 V) B14 F15 (hv17 V) (hv18 V) (rest := []) (W := 0) rfl rfl D10_25 (pc' := 28) rfl (by decide) (by decide) (by decide) (by decide) ?_ ?_
  ·
    intro T16 H17 c18
    refine G.ifNo H17 D10_28 (pc' := 31) rfl (by decide) ?_
    refine G.aload H17 D10_31 (pc' := 33) rfl rfl rfl ?_
    have K19 : Keep h0 h1_ [] := (Keep.trans (Keep.refl h0 []) K7 all0)
    exact G.retA H17 (t := (.object "bindery/bindings/BindingType")) rfl rfl rfl D10_33 (so := []) all0 (by decide) (by decide) ⟨c18, rfl, rfl, K19⟩
  ·
    intro T20 H21 c22
    exact absurd (lcs rfl (lcs rfl (lcs rfl (lcs cc1 (lcs rfl (lcs rfl (lcs rfl (lcs rfl (lcs rfl (lcs rfl (lcs rfl (lcs rfl rfl)))))))))))) c22
set_option maxRecDepth 65536 in
set_option maxHeartbeats 40000000 in
theorem m13_named (V : Env1 Z a0 n0 uu0 uu1 uu2 uu3 uu4 uu5 uu6 uu7 uu8 uu9 uu10 uu11) (p0 : Addr) (p1 : Addr) (c0 : ClassId) (x0 : Int32) (h0 : Heap) (hO : Old Z n0 h0) (f0 : Str Z h0 p0 p1 c0 [100, 105, 114, x0, 99, 116, 111, 114, 121, 45, 105, 110]) (cc1 : ¬ 101 = x0) :
    Met Z a0 ELs True n0 l (⟨"bindery/bindings/BindingType", "named", "(Ljava/lang/String;)Lbindery/bindings/BindingType;"⟩ : MethodName) prog_4_method_4_code 5 (Option.some (FieldType.object "bindery/bindings/BindingType")) ({ frames := 2, cells := 1, slots := 2, locals := 28 } : Room) #[(.ref p0)] h0 [] (fun v h so => (¬ [100, 105, 114, 101, 99, 116, 111, 114, 121, 45, 105, 110] = [100, 105, 114, x0, 99, 116, 111, 114, 121, 45, 105, 110] ∧ v = some .null ∧ so = [] ∧ Keep h0 h [])) := by
  refine Met.of (EWl V) (by first | decide +kernel | rfl) hO (L0 := #[.val (.ref p0), .unset, .unset, .unset, .unset]) rfl ?_
  intro p e s m below meth c T H
  show Go p e below _ (T.setTop (mkF m 0 #[.val (.ref p0), .unset, .unset, .unset, .unset] []))
  refine G.callS H (m2_values V h0 H.old) (wd41 V) (wd42 V) (wd36 V) (wd43 V) (by decide) (argsL := []) (rest := []) (W := 0) rfl rfl (lenOf (pd_1) rfl) rfl rfl D10_0 (pc' := 3) rfl (by decide) (by decide) (by decide) (by decide) all0 ?_
  intro T1 h1_ v2 s3 H1 Q4
  obtain ⟨a5, k6, rfl, rfl, K7, g8, F9, F10⟩ := Q4
  have na5 : n0 ≤ a5 := Nat.le_trans H.le g8
  show Go p e below _ (T1.setTop (mkF m 3 #[.val (.ref p0), .unset, .unset, .unset, .unset] [(.ref a5)]))
  refine G.astoreN H1 (L' := #[.val (.ref p0), .val (.ref a5), .unset, .unset, .unset]) D10_3 (pc' := 4) rfl rfl rfl ?_
  refine G.aloadN H1 D10_4 (pc' := 5) rfl rfl rfl ?_
  refine G.arrlen H1 F9 D10_5 (pc' := 6) rfl ?_
  refine G.istoreN H1 (L' := #[.val (.ref p0), .val (.ref a5), .val (.int 2), .unset, .unset]) D10_6 (pc' := 7) rfl rfl ?_
  refine G.iconst H1 D10_7 (pc' := 8) rfl (v := 0) rfl ?_
  refine G.istoreN H1 (L' := #[.val (.ref p0), .val (.ref a5), .val (.int 2), .val (.int 0), .unset]) D10_8 (pc' := 9) rfl rfl ?_
  refine G.iloadN H1 D10_9 (pc' := 10) rfl rfl ?_
  refine G.iloadN H1 D10_10 (pc' := 11) rfl rfl ?_
  refine G.icmpNo H1 D10_11 (pc' := 14) rfl (by decide) ?_
  refine G.aloadN H1 D10_14 (pc' := 15) rfl rfl rfl ?_
  refine G.iloadN H1 D10_15 (pc' := 16) rfl rfl ?_
  refine G.aaloadG H1 F9 rfl (j := 0) (v := (.ref uu1)) (by decide) rfl D10_16 (pc' := 17) rfl ?_
  refine G.astore H1 (L' := #[.val (.ref p0), .val (.ref a5), .val (.int 2), .val (.int 0), .val (.ref uu1)]) D10_17 (pc' := 19) rfl rfl rfl ?_
  refine G.aload H1 D10_19 (pc' := 21) rfl rfl rfl ?_
  have B11 := Fld.ext H1.old.2 (hv8 V)
  refine G.getF H1 (wd57 V) Via.refl B11 D10_21 (pc' := 24) rfl ?_
  intro T12 H13
  refine G.aloadN H13 D10_24 (pc' := 25) rfl rfl rfl ?_
  have B14 := Str.ext H13.old.2 (hv22 V)
  have F15 := (Str.keep f0 K7 nin0 nin0)
  refine G.strEq H13 (strwEq V) (wd2 V) (wd59 V) (wd60 V) (wd62 V) (wd61 V) B14 F15 (hv17 V) (hv18 V) (rest := []) (W := 0) rfl rfl D10_25 (pc' := 28) rfl (by decide) (by decide) (by decide) (by decide) ?_ ?_
  ·
    intro T16 H17 c18
    exact absurd (List.cons.inj (List.cons.inj (List.cons.inj (List.cons.inj c18).2).2).2).1 cc1
  ·
    intro T19 H20 c21
    refine G.ifYes H20 D10_28 (by decide) (by decide) (pc' := 34) rfl ?_
    refine G.iinc H20 (v := 1) (L' := #[.val (.ref p0), .val (.ref a5), .val (.int 2), .val (.int 1), .val (.ref uu1)]) D10_34 (pc' := 37) rfl rfl rfl rfl ?_
    refine G.goto H20 D10_37 (by decide) (pc' := 9) rfl ?_
    show Go p e below _ (T19.setTop (mkF m 9 #[.val (.ref p0), .val (.ref a5), .val (.int 2), .val (.int 1), .val (.ref uu1)] []))
    refine G.iloadN H20 D10_9 (pc' := 10) rfl rfl ?_
    refine G.iloadN H20 D10_10 (pc' := 11) rfl rfl ?_
    refine G.icmpNo H20 D10_11 (pc' := 14) rfl (by decide) ?_
    refine G.aloadN H20 D10_14 (pc' := 15) rfl rfl rfl ?_
    refine G.iloadN H20 D10_15 (pc' := 16) rfl rfl ?_
    refine G.aaloadG H20 F9 rfl (j := 1) (v := (.ref uu2)) (by decide) rfl D10_16 (pc' := 17) rfl ?_
    refine G.astore H20 (L' := #[.val (.ref p0), .val (.ref a5), .val (.int 2), .val (.int 1), .val (.ref uu2)]) D10_17 (pc' := 19) rfl rfl rfl ?_
    refine G.aload H20 D10_19 (pc' := 21) rfl rfl rfl ?_
    have B22 := Fld.ext H20.old.2 (hv6 V)
    refine G.getF H20 (wd57 V) Via.refl B22 D10_21 (pc' := 24) rfl ?_
    intro T23 H24
    refine G.aloadN H24 D10_24 (pc' := 25) rfl rfl rfl ?_
    have B25 := Str.ext H24.old.2 (hv21 V)
    refine G.strEq H24 (strwEq V) (wd2 V) (wd59 V) (wd60 V) (wd62 V) (wd61 V) B25 F15 (hv17 V) (hv18 V) (rest := []) (W := 0) rfl rfl D10_25 (pc' := 28) rfl (by decide) (by decide) (by decide) (by decide) ?_ ?_
    ·
      intro T26 H27 c28
      exact absurd c28 (by intro qq; simp at qq)
    ·
      intro T29 H30 c31
      refine G.ifYes H30 D10_28 (by decide) (by decide) (pc' := 34) rfl ?_
      refine G.iinc H30 (v := 2) (L' := #[.val (.ref p0), .val (.ref a5), .val (.int 2), .val (.int 2), .val (.ref uu2)]) D10_34 (pc' := 37) rfl rfl rfl rfl ?_
      refine G.goto H30 D10_37 (by decide) (pc' := 9) rfl ?_
      show Go p e below _ (T29.setTop (mkF m 9 #[.val (.ref p0), .val (.ref a5), .val (.int 2), .val (.int 2), .val (.ref uu2)] []))
      refine G.iloadN H30 D10_9 (pc' := 10) rfl rfl ?_
      refine G.iloadN H30 D10_10 (pc' := 11) rfl rfl ?_
      refine G.icmpYes H30 D10_11 (by decide) (by decide) (pc' := 40) rfl ?_
      refine G.aconstNull H30 D10_40 (pc' := 41) rfl ?_
      have K32 : Keep h0 h1_ [] := (Keep.trans (Keep.refl h0 []) K7 all0)
      exact G.retA H30 (t := (.object "bindery/bindings/BindingType")) rfl rfl rfl D10_41 (so := []) all0 (by decide) (by decide) ⟨c21, rfl, rfl, K32⟩
set_option maxRecDepth 65536 in
set_option maxHeartbeats 40000000 in
theorem m14_named (V : Env1 Z a0 n0 uu0 uu1 uu2 uu3 uu4 uu5 uu6 uu7 uu8 uu9 uu10 uu11) (p0 : Addr) (p1 : Addr) (c0 : ClassId) (x0 : Int32) (h0 : Heap) (hO : Old Z n0 h0) (f0 : Str Z h0 p0 p1 c0 [100, 105, 114, 101, x0, 116, 111, 114, 121, 45, 105, 110]) (cc1 : 99 = x0) :
    Met Z a0 ELs True n0 l (⟨"bindery/bindings/BindingType", "named", "(Ljava/lang/String;)Lbindery/bindings/BindingType;"⟩ : MethodName) prog_4_method_4_code 5 (Option.some (FieldType.object "bindery/bindings/BindingType")) ({ frames := 2, cells := 1, slots := 2, locals := 28 } : Room) #[(.ref p0)] h0 [] (fun v h so => ([100, 105, 114, 101, 99, 116, 111, 114, 121, 45, 105, 110] = [100, 105, 114, 101, x0, 116, 111, 114, 121, 45, 105, 110] ∧ v = some (.ref uu1) ∧ so = [] ∧ Keep h0 h [])) := by
  refine Met.of (EWl V) (by first | decide +kernel | rfl) hO (L0 := #[.val (.ref p0), .unset, .unset, .unset, .unset]) rfl ?_
  intro p e s m below meth c T H
  show Go p e below _ (T.setTop (mkF m 0 #[.val (.ref p0), .unset, .unset, .unset, .unset] []))
  refine G.callS H (m2_values V h0 H.old) (wd41 V) (wd42 V) (wd36 V) (wd43 V) (by decide) (argsL := []) (rest := []) (W := 0) rfl rfl (lenOf (pd_1) rfl) rfl rfl D10_0 (pc' := 3) rfl (by decide) (by decide) (by decide) (by decide) all0 ?_
  intro T1 h1_ v2 s3 H1 Q4
  obtain ⟨a5, k6, rfl, rfl, K7, g8, F9, F10⟩ := Q4
  have na5 : n0 ≤ a5 := Nat.le_trans H.le g8
  show Go p e below _ (T1.setTop (mkF m 3 #[.val (.ref p0), .unset, .unset, .unset, .unset] [(.ref a5)]))
  refine G.astoreN H1 (L' := #[.val (.ref p0), .val (.ref a5), .unset, .unset, .unset]) D10_3 (pc' := 4) rfl rfl rfl ?_
  refine G.aloadN H1 D10_4 (pc' := 5) rfl rfl rfl ?_
  refine G.arrlen H1 F9 D10_5 (pc' := 6) rfl ?_
  refine G.istoreN H1 (L' := #[.val (.ref p0), .val (.ref a5), .val (.int 2), .unset, .unset]) D10_6 (pc' := 7) rfl rfl ?_
  refine G.iconst H1 D10_7 (pc' := 8) rfl (v := 0) rfl ?_
  refine G.istoreN H1 (L' := #[.val (.ref p0), .val (.ref a5), .val (.int 2), .val (.int 0), .unset]) D10_8 (pc' := 9) rfl rfl ?_
  refine G.iloadN H1 D10_9 (pc' := 10) rfl rfl ?_
  refine G.iloadN H1 D10_10 (pc' := 11) rfl rfl ?_
  refine G.icmpNo H1 D10_11 (pc' := 14) rfl (by decide) ?_
  refine G.aloadN H1 D10_14 (pc' := 15) rfl rfl rfl ?_
  refine G.iloadN H1 D10_15 (pc' := 16) rfl rfl ?_
  refine G.aaloadG H1 F9 rfl (j := 0) (v := (.ref uu1)) (by decide) rfl D10_16 (pc' := 17) rfl ?_
  refine G.astore H1 (L' := #[.val (.ref p0), .val (.ref a5), .val (.int 2), .val (.int 0), .val (.ref uu1)]) D10_17 (pc' := 19) rfl rfl rfl ?_
  refine G.aload H1 D10_19 (pc' := 21) rfl rfl rfl ?_
  have B11 := Fld.ext H1.old.2 (hv8 V)
  refine G.getF H1 (wd57 V) Via.refl B11 D10_21 (pc' := 24) rfl ?_
  intro T12 H13
  refine G.aloadN H13 D10_24 (pc' := 25) rfl rfl rfl ?_
  have B14 := Str.ext H13.old.2 (hv22 V)
  have F15 := (Str.keep f0 K7 nin0 nin0)
  refine G.strEq H13 (strwEq V) (wd2 V) (wd59 V) (wd60 V) (wd62 V) (wd61 V) B14 F15 (hv17 V) (hv18 V) (rest := []) (W := 0) rfl rfl D10_25 (pc' := 28) rfl (by decide) (by decide) (by decide) (by decide) ?_ ?_
  ·
    intro T16 H17 c18
    refine G.ifNo H17 D10_28 (pc' := 31) rfl (by decide) ?_
    refine G.aload H17 D10_31 (pc' := 33) rfl rfl rfl ?_
    have K19 : Keep h0 h1_ [] := (Keep.trans (Keep.refl h0 []) K7 all0)
    exact G.retA H17 (t := (.object "bindery/bindings/BindingType")) rfl rfl rfl D10_33 (so := []) all0 (by decide) (by decide) ⟨c18, rfl, rfl, K19⟩
  ·
    intro T20 H21 c22
    exact absurd (lcs rfl (lcs rfl (lcs rfl (lcs rfl (lcs cc1 (lcs rfl (lcs rfl (lcs rfl (lcs rfl (lcs rfl (lcs rfl (lcs rfl rfl)))))))))))) c22
set_option maxRecDepth 65536 in
set_option maxHeartbeats 40000000 in
theorem m15_named (V : Env1 Z a0 n0 uu0 uu1 uu2 uu3 uu4 uu5 uu6 uu7 uu8 uu9 uu10 uu11) (p0 : Addr) (p1 : Addr) (c0 : ClassId) (x0 : Int32) (h0 : Heap) (hO : Old Z n0 h0) (f0 : Str Z h0 p0 p1 c0 [100, 105, 114, 101, x0, 116, 111, 114, 121, 45, 105, 110]) (cc1 : ¬ 99 = x0) :
    Met Z a0 ELs True n0 l (⟨"bindery/bindings/BindingType", "named", "(Ljava/lang/String;)Lbindery/bindings/BindingType;"⟩ : MethodName) prog_4_method_4_code 5 (Option.some (FieldType.object "bindery/bindings/BindingType")) ({ frames := 2, cells := 1, slots := 2, locals := 28 } : Room) #[(.ref p0)] h0 [] (fun v h so => (¬ [100, 105, 114, 101, 99, 116, 111, 114, 121, 45, 105, 110] = [100, 105, 114, 101, x0, 116, 111, 114, 121, 45, 105, 110] ∧ v = some .null ∧ so = [] ∧ Keep h0 h [])) := by
  refine Met.of (EWl V) (by first | decide +kernel | rfl) hO (L0 := #[.val (.ref p0), .unset, .unset, .unset, .unset]) rfl ?_
  intro p e s m below meth c T H
  show Go p e below _ (T.setTop (mkF m 0 #[.val (.ref p0), .unset, .unset, .unset, .unset] []))
  refine G.callS H (m2_values V h0 H.old) (wd41 V) (wd42 V) (wd36 V) (wd43 V) (by decide) (argsL := []) (rest := []) (W := 0) rfl rfl (lenOf (pd_1) rfl) rfl rfl D10_0 (pc' := 3) rfl (by decide) (by decide) (by decide) (by decide) all0 ?_
  intro T1 h1_ v2 s3 H1 Q4
  obtain ⟨a5, k6, rfl, rfl, K7, g8, F9, F10⟩ := Q4
  have na5 : n0 ≤ a5 := Nat.le_trans H.le g8
  show Go p e below _ (T1.setTop (mkF m 3 #[.val (.ref p0), .unset, .unset, .unset, .unset] [(.ref a5)]))
  refine G.astoreN H1 (L' := #[.val (.ref p0), .val (.ref a5), .unset, .unset, .unset]) D10_3 (pc' := 4) rfl rfl rfl ?_
  refine G.aloadN H1 D10_4 (pc' := 5) rfl rfl rfl ?_
  refine G.arrlen H1 F9 D10_5 (pc' := 6) rfl ?_
  refine G.istoreN H1 (L' := #[.val (.ref p0), .val (.ref a5), .val (.int 2), .unset, .unset]) D10_6 (pc' := 7) rfl rfl ?_
  refine G.iconst H1 D10_7 (pc' := 8) rfl (v := 0) rfl ?_
  refine G.istoreN H1 (L' := #[.val (.ref p0), .val (.ref a5), .val (.int 2), .val (.int 0), .unset]) D10_8 (pc' := 9) rfl rfl ?_
  refine G.iloadN H1 D10_9 (pc' := 10) rfl rfl ?_
  refine G.iloadN H1 D10_10 (pc' := 11) rfl rfl ?_
  refine G.icmpNo H1 D10_11 (pc' := 14) rfl (by decide) ?_
  refine G.aloadN H1 D10_14 (pc' := 15) rfl rfl rfl ?_
  refine G.iloadN H1 D10_15 (pc' := 16) rfl rfl ?_
  refine G.aaloadG H1 F9 rfl (j := 0) (v := (.ref uu1)) (by decide) rfl D10_16 (pc' := 17) rfl ?_
  refine G.astore H1 (L' := #[.val (.ref p0), .val (.ref a5), .val (.int 2), .val (.int 0), .val (.ref uu1)]) D10_17 (pc' := 19) rfl rfl rfl ?_
  refine G.aload H1 D10_19 (pc' := 21) rfl rfl rfl ?_
  have B11 := Fld.ext H1.old.2 (hv8 V)
  refine G.getF H1 (wd57 V) Via.refl B11 D10_21 (pc' := 24) rfl ?_
  intro T12 H13
  refine G.aloadN H13 D10_24 (pc' := 25) rfl rfl rfl ?_
  have B14 := Str.ext H13.old.2 (hv22 V)
  have F15 := (Str.keep f0 K7 nin0 nin0)
  refine G.strEq H13 (strwEq V) (wd2 V) (wd59 V) (wd60 V) (wd62 V) (wd61 V) B14 F15 (hv17 V) (hv18 V) (rest := []) (W := 0) rfl rfl D10_25 (pc' := 28) rfl (by decide) (by decide) (by decide) (by decide) ?_ ?_
  ·
    intro T16 H17 c18
    exact absurd (List.cons.inj (List.cons.inj (List.cons.inj (List.cons.inj (List.cons.inj c18).2).2).2).2).1 cc1
  ·
    intro T19 H20 c21
    refine G.ifYes H20 D10_28 (by decide) (by decide) (pc' := 34) rfl ?_
    refine G.iinc H20 (v := 1) (L' := #[.val (.ref p0), .val (.ref a5), .val (.int 2), .val (.int 1), .val (.ref uu1)]) D10_34 (pc' := 37) rfl rfl rfl rfl ?_
    refine G.goto H20 D10_37 (by decide) (pc' := 9) rfl ?_
    show Go p e below _ (T19.setTop (mkF m 9 #[.val (.ref p0), .val (.ref a5), .val (.int 2), .val (.int 1), .val (.ref uu1)] []))
    refine G.iloadN H20 D10_9 (pc' := 10) rfl rfl ?_
    refine G.iloadN H20 D10_10 (pc' := 11) rfl rfl ?_
    refine G.icmpNo H20 D10_11 (pc' := 14) rfl (by decide) ?_
    refine G.aloadN H20 D10_14 (pc' := 15) rfl rfl rfl ?_
    refine G.iloadN H20 D10_15 (pc' := 16) rfl rfl ?_
    refine G.aaloadG H20 F9 rfl (j := 1) (v := (.ref uu2)) (by decide) rfl D10_16 (pc' := 17) rfl ?_
    refine G.astore H20 (L' := #[.val (.ref p0), .val (.ref a5), .val (.int 2), .val (.int 1), .val (.ref uu2)]) D10_17 (pc' := 19) rfl rfl rfl ?_
    refine G.aload H20 D10_19 (pc' := 21) rfl rfl rfl ?_
    have B22 := Fld.ext H20.old.2 (hv6 V)
    refine G.getF H20 (wd57 V) Via.refl B22 D10_21 (pc' := 24) rfl ?_
    intro T23 H24
    refine G.aloadN H24 D10_24 (pc' := 25) rfl rfl rfl ?_
    have B25 := Str.ext H24.old.2 (hv21 V)
    refine G.strEq H24 (strwEq V) (wd2 V) (wd59 V) (wd60 V) (wd62 V) (wd61 V) B25 F15 (hv17 V) (hv18 V) (rest := []) (W := 0) rfl rfl D10_25 (pc' := 28) rfl (by decide) (by decide) (by decide) (by decide) ?_ ?_
    ·
      intro T26 H27 c28
      exact absurd c28 (by intro qq; simp at qq)
    ·
      intro T29 H30 c31
      refine G.ifYes H30 D10_28 (by decide) (by decide) (pc' := 34) rfl ?_
      refine G.iinc H30 (v := 2) (L' := #[.val (.ref p0), .val (.ref a5), .val (.int 2), .val (.int 2), .val (.ref uu2)]) D10_34 (pc' := 37) rfl rfl rfl rfl ?_
      refine G.goto H30 D10_37 (by decide) (pc' := 9) rfl ?_
      show Go p e below _ (T29.setTop (mkF m 9 #[.val (.ref p0), .val (.ref a5), .val (.int 2), .val (.int 2), .val (.ref uu2)] []))
      refine G.iloadN H30 D10_9 (pc' := 10) rfl rfl ?_
      refine G.iloadN H30 D10_10 (pc' := 11) rfl rfl ?_
      refine G.icmpYes H30 D10_11 (by decide) (by decide) (pc' := 40) rfl ?_
      refine G.aconstNull H30 D10_40 (pc' := 41) rfl ?_
      have K32 : Keep h0 h1_ [] := (Keep.trans (Keep.refl h0 []) K7 all0)
      exact G.retA H30 (t := (.object "bindery/bindings/BindingType")) rfl rfl rfl D10_41 (so := []) all0 (by decide) (by decide) ⟨c21, rfl, rfl, K32⟩
set_option maxRecDepth 65536 in
set_option maxHeartbeats 40000000 in
theorem m16_named (V : Env1 Z a0 n0 uu0 uu1 uu2 uu3 uu4 uu5 uu6 uu7 uu8 uu9 uu10 uu11) (p0 : Addr) (p1 : Addr) (c0 : ClassId) (x0 : Int32) (h0 : Heap) (hO : Old Z n0 h0) (f0 : Str Z h0 p0 p1 c0 [100, 105, 114, 101, 99, x0, 111, 114, 121, 45, 105, 110]) (cc1 : 116 = x0) :
    Met Z a0 ELs True n0 l (⟨"bindery/bindings/BindingType", "named", "(Ljava/lang/String;)Lbindery/bindings/BindingType;"⟩ : MethodName) prog_4_method_4_code 5 (Option.some (FieldType.object "bindery/bindings/BindingType")) ({ frames := 2, cells := 1, slots := 2, locals := 28 } : Room) #[(.ref p0)] h0 [] (fun v h so => ([100, 105, 114, 101, 99, 116, 111, 114, 121, 45, 105, 110] = [100, 105, 114, 101, 99, x0, 111, 114, 121, 45, 105, 110] ∧ v = some (.ref uu1) ∧ so = [] ∧ Keep h0 h [])) := by
  refine Met.of (EWl V) (by first | decide +kernel | rfl) hO (L0 := #[.val (.ref p0), .unset, .unset, .unset, .unset]) rfl ?_
  intro p e s m below meth c T H
  show Go p e below _ (T.setTop (mkF m 0 #[.val (.ref p0), .unset, .unset, .unset, .unset] []))
  refine G.callS H (m2_values V h0 H.old) (wd41 V) (wd42 V) (wd36 V) (wd43 V) (by decide) (argsL := []) (rest := []) (W := 0) rfl rfl (lenOf (pd_1) rfl) rfl rfl D10_0 (pc' := 3) rfl (by decide) (by decide) (by decide) (by decide) all0 ?_
  intro T1 h1_ v2 s3 H1 Q4
  obtain ⟨a5, k6, rfl, rfl, K7, g8, F9, F10⟩ := Q4
  have na5 : n0 ≤ a5 := Nat.le_trans H.le g8
  show Go p e below _ (T1.setTop (mkF m 3 #[.val (.ref p0), .unset, .unset, .unset, .unset] [(.ref a5)]))
  refine G.astoreN H1 (L' := #[.val (.ref p0), .val (.ref a5), .unset, .unset, .unset]) D10_3 (pc' := 4) rfl rfl rfl ?_
  refine G.aloadN H1 D10_4 (pc' := 5) rfl rfl rfl ?_
  refine G.arrlen H1 F9 D10_5 (pc' := 6) rfl ?_
  refine G.istoreN H1 (L' := #[.val (.ref p0), .val (.ref a5), .val (.int 2), .unset, .unset]) D10_6 (pc' := 7) rfl rfl ?_
  refine G.iconst H1 D10_7 (pc' := 8) rfl (v := 0) rfl ?_
  refine G.istoreN H1 (L' := #[.val (.ref p0), .val (.ref a5), .val (.int 2), .val (.int 0), .unset]) D10_8 (pc' := 9) rfl rfl ?_
  refine G.iloadN H1 D10_9 (pc' := 10) rfl rfl ?_
  refine G.iloadN H1 D10_10 (pc' := 11) rfl rfl ?_
  refine G.icmpNo H1 D10_11 (pc' := 14) rfl (by decide) ?_
  refine G.aloadN H1 D10_14 (pc' := 15) rfl rfl rfl ?_
  refine G.iloadN H1 D10_15 (pc' := 16) rfl rfl ?_
  refine G.aaloadG H1 F9 rfl (j := 0) (v := (.ref uu1)) (by decide) rfl D10_16 (pc' := 17) rfl ?_
  refine G.astore H1 (L' := #[.val (.ref p0), .val (.ref a5), .val (.int 2), .val (.int 0), .val (.ref uu1)]) D10_17 (pc' := 19) rfl rfl rfl ?_
  refine G.aload H1 D10_19 (pc' := 21) rfl rfl rfl ?_
  have B11 := Fld.ext H1.old.2 (hv8 V)
  refine G.getF H1 (wd57 V) Via.refl B11 D10_21 (pc' := 24) rfl ?_
  intro T12 H13
  refine G.aloadN H13 D10_24 (pc' := 25) rfl rfl rfl ?_
  have B14 := Str.ext H13.old.2 (hv22 V)
  have F15 := (Str.keep f0 K7 nin0 nin0)
  refine G.strEq H13 (strwEq V) (wd2 V) (wd59 V) (wd60 V) (wd62 V) (wd61 V) B14 F15 (hv17 V) (hv18 V) (rest := []) (W := 0) rfl rfl D10_25 (pc' := 28) rfl (by decide) (by decide) (by decide) (by decide) ?_ ?_
  ·
    intro T16 H17 c18
    refine G.ifNo H17 D10_28 (pc' := 31) rfl (by decide) ?_
    refine G.aload H17 D10_31 (pc' := 33) rfl rfl rfl ?_
    have K19 : Keep h0 h1_ [] := (Keep.trans (Keep.refl h0 []) K7 all0)
    exact G.retA H17 (t := (.object "bindery/bindings/BindingType")) rfl rfl rfl D10_33 (so := []) all0 (by decide) (by decide) ⟨c18, rfl, rfl, K19⟩
  ·
    intro T20 H21 c22
    exact absurd (lcs rfl (lcs rfl (lcs rfl (lcs rfl (lcs rfl (lcs cc1 (lcs rfl (lcs rfl (lcs rfl (lcs rfl (lcs rfl (lcs rfl rfl)))))))))))) c22
set_option maxRecDepth 65536 in
set_option maxHeartbeats 40000000 in
theorem m17_named (V : Env1 Z a0 n0 uu0 uu1 uu2 uu3 uu4 uu5 uu6 uu7 uu8 uu9 uu10 uu11) (p0 : Addr) (p1 : Addr) (c0 : ClassId) (x0 : Int32) (h0 : Heap) (hO : Old Z n0 h0) (f0 : Str Z h0 p0 p1 c0 [100, 105, 114, 101, 99, x0, 111, 114, 121, 45, 105, 110]) (cc1 : ¬ 116 = x0) :
    Met Z a0 ELs True n0 l (⟨"bindery/bindings/BindingType", "named", "(Ljava/lang/String;)Lbindery/bindings/BindingType;"⟩ : MethodName) prog_4_method_4_code 5 (Option.some (FieldType.object "bindery/bindings/BindingType")) ({ frames := 2, cells := 1, slots := 2, locals := 28 } : Room) #[(.ref p0)] h0 [] (fun v h so => (¬ [100, 105, 114, 101, 99, 116, 111, 114, 121, 45, 105, 110] = [100, 105, 114, 101, 99, x0, 111, 114, 121, 45, 105, 110] ∧ v = some .null ∧ so = [] ∧ Keep h0 h [])) := by
  refine Met.of (EWl V) (by first | decide +kernel | rfl) hO (L0 := #[.val (.ref p0), .unset, .unset, .unset, .unset]) rfl ?_
  intro p e s m below meth c T H
  show Go p e below _ (T.setTop (mkF m 0 #[.val (.ref p0), .unset, .unset, .unset, .unset] []))
  refine G.callS H (m2_values V h0 H.old) (wd41 V) (wd42 V) (wd36 V) (wd43 V) (by decide) (argsL := []) (rest := []) (W := 0) rfl rfl (lenOf (pd_1) rfl) rfl rfl D10_0 (pc' := 3) rfl (by decide) (by decide) (by decide) (by decide) all0 ?_
  intro T1 h1_ v2 s3 H1 Q4
  obtain ⟨a5, k6, rfl, rfl, K7, g8, F9, F10⟩ := Q4
  have na5 : n0 ≤ a5 := Nat.le_trans H.le g8
  show Go p e below _ (T1.setTop (mkF m 3 #[.val (.ref p0), .unset, .unset, .unset, .unset] [(.ref a5)]))
  refine G.astoreN H1 (L' := #[.val (.ref p0), .val (.ref a5), .unset, .unset, .unset]) D10_3 (pc' := 4) rfl rfl rfl ?_
  refine G.aloadN H1 D10_4 (pc' := 5) rfl rfl rfl ?_
  refine G.arrlen H1 F9 D10_5 (pc' := 6) rfl ?_
  refine G.istoreN H1 (L' := #[.val (.ref p0), .val (.ref a5), .val (.int 2), .unset, .unset]) D10_6 (pc' := 7) rfl rfl ?_
  refine G.iconst H1 D10_7 (pc' := 8) rfl (v := 0) rfl ?_
  refine G.istoreN H1 (L' := #[.val (.ref p0), .val (.ref a5), .val (.int 2), .val (.int 0), .unset]) D10_8 (pc' := 9) rfl rfl ?_
  refine G.iloadN H1 D10_9 (pc' := 10) rfl rfl ?_
  refine G.iloadN H1 D10_10 (pc' := 11) rfl rfl ?_
  refine G.icmpNo H1 D10_11 (pc' := 14) rfl (by decide) ?_
  refine G.aloadN H1 D10_14 (pc' := 15) rfl rfl rfl ?_
  refine G.iloadN H1 D10_15 (pc' := 16) rfl rfl ?_
  refine G.aaloadG H1 F9 rfl (j := 0) (v := (.ref uu1)) (by decide) rfl D10_16 (pc' := 17) rfl ?_
  refine G.astore H1 (L' := #[.val (.ref p0), .val (.ref a5), .val (.int 2), .val (.int 0), .val (.ref uu1)]) D10_17 (pc' := 19) rfl rfl rfl ?_
  refine G.aload H1 D10_19 (pc' := 21) rfl rfl rfl ?_
  have B11 := Fld.ext H1.old.2 (hv8 V)
  refine G.getF H1 (wd57 V) Via.refl B11 D10_21 (pc' := 24) rfl ?_
  intro T12 H13
  refine G.aloadN H13 D10_24 (pc' := 25) rfl rfl rfl ?_
  have B14 := Str.ext H13.old.2 (hv22 V)
  have F15 := (Str.keep f0 K7 nin0 nin0)
  refine G.strEq H13 (strwEq V) (wd2 V) (wd59 V) (wd60 V) (wd62 V) (wd61 V) B14 F15 (hv17 V) (hv18 V) (rest := []) (W := 0) rfl rfl D10_25 (pc' := 28) rfl (by decide) (by decide) (by decide) (by decide) ?_ ?_
  ·
    intro T16 H17 c18
    exact absurd (List.cons.inj (List.cons.inj (List.cons.inj (List.cons.inj (List.cons.inj (List.cons.inj c18).2).2).2).2).2).1 cc1
  ·
    intro T19 H20 c21
    refine G.ifYes H20 D10_28 (by decide) (by decide) (pc' := 34) rfl ?_
    refine G.iinc H20 (v := 1) (L' := #[.val (.ref p0), .val (.ref a5), .val (.int 2), .val (.int 1), .val (.ref uu1)]) D10_34 (pc' := 37) rfl rfl rfl rfl ?_
    refine G.goto H20 D10_37 (by decide) (pc' := 9) rfl ?_
    show Go p e below _ (T19.setTop (mkF m 9 #[.val (.ref p0), .val (.ref a5), .val (.int 2), .val (.int 1), .val (.ref uu1)] []))
    refine G.iloadN H20 D10_9 (pc' := 10) rfl rfl ?_
    refine G.iloadN H20 D10_10 (pc' := 11) rfl rfl ?_
    refine G.icmpNo H20 D10_11 (pc' := 14) rfl (by decide) ?_
    refine G.aloadN H20 D10_14 (pc' := 15) rfl rfl rfl ?_
    refine G.iloadN H20 D10_15 (pc' := 16) rfl rfl ?_
    refine G.aaloadG H20 F9 rfl (j := 1) (v := (.ref uu2)) (by decide) rfl D10_16 (pc' := 17) rfl ?_
    refine G.astore H20 (L' := #[.val (.ref p0), .val (.ref a5), .val (.int 2), .val (.int 1), .val (.ref uu2)]) D10_17 (pc' := 19) rfl rfl rfl ?_
    refine G.aload H20 D10_19 (pc' := 21) rfl rfl rfl ?_
    have B22 := Fld.ext H20.old.2 (hv6 V)
    refine G.getF H20 (wd57 V) Via.refl B22 D10_21 (pc' := 24) rfl ?_
    intro T23 H24
    refine G.aloadN H24 D10_24 (pc' := 25) rfl rfl rfl ?_
    have B25 := Str.ext H24.old.2 (hv21 V)
    refine G.strEq H24 (strwEq V) (wd2 V) (wd59 V) (wd60 V) (wd62 V) (wd61 V) B25 F15 (hv17 V) (hv18 V) (rest := []) (W := 0) rfl rfl D10_25 (pc' := 28) rfl (by decide) (by decide) (by decide) (by decide) ?_ ?_
    ·
      intro T26 H27 c28
      exact absurd c28 (by intro qq; simp at qq)
    ·
      intro T29 H30 c31
      refine G.ifYes H30 D10_28 (by decide) (by decide) (pc' := 34) rfl ?_
      refine G.iinc H30 (v := 2) (L' := #[.val (.ref p0), .val (.ref a5), .val (.int 2), .val (.int 2), .val (.ref uu2)]) D10_34 (pc' := 37) rfl rfl rfl rfl ?_
      refine G.goto H30 D10_37 (by decide) (pc' := 9) rfl ?_
      show Go p e below _ (T29.setTop (mkF m 9 #[.val (.ref p0), .val (.ref a5), .val (.int 2), .val (.int 2), .val (.ref uu2)] []))
      refine G.iloadN H30 D10_9 (pc' := 10) rfl rfl ?_
      refine G.iloadN H30 D10_10 (pc' := 11) rfl rfl ?_
      refine G.icmpYes H30 D10_11 (by decide) (by decide) (pc' := 40) rfl ?_
      refine G.aconstNull H30 D10_40 (pc' := 41) rfl ?_
      have K32 : Keep h0 h1_ [] := (Keep.trans (Keep.refl h0 []) K7 all0)
      exact G.retA H30 (t := (.object "bindery/bindings/BindingType")) rfl rfl rfl D10_41 (so := []) all0 (by decide) (by decide) ⟨c21, rfl, rfl, K32⟩
set_option maxRecDepth 65536 in
set_option maxHeartbeats 40000000 in
theorem m18_named (V : Env1 Z a0 n0 uu0 uu1 uu2 uu3 uu4 uu5 uu6 uu7 uu8 uu9 uu10 uu11) (p0 : Addr) (p1 : Addr) (c0 : ClassId) (x0 : Int32) (h0 : Heap) (hO : Old Z n0 h0) (f0 : Str Z h0 p0 p1 c0 [100, 105, 114, 101, 99, 116, x0, 114, 121, 45, 105, 110]) (cc1 : 111 = x0) :
    Met Z a0 ELs True n0 l (⟨"bindery/bindings/BindingType", "named", "(Ljava/lang/String;)Lbindery/bindings/BindingType;"⟩ : MethodName) prog_4_method_4_code 5 (Option.some (FieldType.object "bindery/bindings/BindingType")) ({ frames := 2, cells := 1, slots := 2, locals := 28 } : Room) #[(.ref p0)] h0 [] (fun v h so => ([100, 105, 114, 101, 99, 116, 111, 114, 121, 45, 105, 110] = [100, 105, 114, 101, 99, 116, x0, 114, 121, 45, 105, 110] ∧ v = some (.ref uu1) ∧ so = [] ∧ Keep h0 h [])) := by
  refine Met.of (EWl V) (by first | decide +kernel | rfl) hO (L0 := #[.val (.ref p0), .unset, .unset, .unset, .unset]) rfl ?_
  intro p e s m below meth c T H
  show Go p e below _ (T.setTop (mkF m 0 #[.val (.ref p0), .unset, .unset, .unset, .unset] []))
  refine G.callS H (m2_values V h0 H.old) (wd41 V) (wd42 V) (wd36 V) (wd43 V) (by decide) (argsL := []) (rest := []) (W := 0) rfl rfl (lenOf (pd_1) rfl) rfl rfl D10_0 (pc' := 3) rfl (by decide) (by decide) (by decide) (by decide) all0 ?_
  intro T1 h1_ v2 s3 H1 Q4
  obtain ⟨a5, k6, rfl, rfl, K7, g8, F9, F10⟩ := Q4
  have na5 : n0 ≤ a5 := Nat.le_trans H.le g8
  show Go p e below _ (T1.setTop (mkF m 3 #[.val (.ref p0), .unset, .unset, .unset, .unset] [(.ref a5)]))
  refine G.astoreN H1 (L' := #[.val (.ref p0), .val (.ref a5), .unset, .unset, .unset]) D10_3 (pc' := 4) rfl rfl rfl ?_
  refine G.aloadN H1 D10_4 (pc' := 5) rfl rfl rfl ?_
  refine G.arrlen H1 F9 D10_5 (pc' := 6) rfl ?_
  refine G.istoreN H1 (L' := #[.val (.ref p0), .val (.ref a5), .val (.int 2), .unset, .unset]) D10_6 (pc' := 7) rfl rfl ?_
  refine G.iconst H1 D10_7 (pc' := 8) rfl (v := 0) rfl ?_
  refine G.istoreN H1 (L' := #[.val (.ref p0), .val (.ref a5), .val (.int 2), .val (.int 0), .unset]) D10_8 (pc' := 9) rfl rfl ?_
  refine G.iloadN H1 D10_9 (pc' := 10) rfl rfl ?_
  refine G.iloadN H1 D10_10 (pc' := 11) rfl rfl ?_
  refine G.icmpNo H1 D10_11 (pc' := 14) rfl (by decide) ?_
  refine G.aloadN H1 D10_14 (pc' := 15) rfl rfl rfl ?_
  refine G.iloadN H1 D10_15 (pc' := 16) rfl rfl ?_
  refine G.aaloadG H1 F9 rfl (j := 0) (v := (.ref uu1)) (by decide) rfl D10_16 (pc' := 17) rfl ?_
  refine G.astore H1 (L' := #[.val (.ref p0), .val (.ref a5), .val (.int 2), .val (.int 0), .val (.ref uu1)]) D10_17 (pc' := 19) rfl rfl rfl ?_
  refine G.aload H1 D10_19 (pc' := 21) rfl rfl rfl ?_
  have B11 := Fld.ext H1.old.2 (hv8 V)
  refine G.getF H1 (wd57 V) Via.refl B11 D10_21 (pc' := 24) rfl ?_
  intro T12 H13
  refine G.aloadN H13 D10_24 (pc' := 25) rfl rfl rfl ?_
  have B14 := Str.ext H13.old.2 (hv22 V)
  have F15 := (Str.keep f0 K7 nin0 nin0)
  refine G.strEq H13 (strwEq V) (wd2 V) (wd59 V) (wd60 V) (wd62 V) (wd61 V) B14 F15 (hv17 V) (hv18 V) (rest := []) (W := 0) rfl rfl D10_25 (pc' := 28) rfl (by decide) (by decide) (by decide) (by decide) ?_ ?_
  ·
    intro T16 H17 c18
    refine G.ifNo H17 D10_28 (pc' := 31) rfl (by decide) ?_
    refine G.aload H17 D10_31 (pc' := 33) rfl rfl rfl ?_
    have K19 : Keep h0 h1_ [] := (Keep.trans (Keep.refl h0 []) K7 all0)
    exact G.retA H17 (t := (.object "bindery/bindings/BindingType")) rfl rfl rfl D10_33 (so := []) all0 (by decide) (by decide) ⟨c18, rfl, rfl, K19⟩
  ·
    intro T20 H21 c22
    exact absurd (lcs rfl (lcs rfl (lcs rfl (lcs rfl (lcs rfl (lcs rfl (lcs cc1 (lcs rfl (lcs rfl (lcs rfl (lcs rfl (lcs rfl rfl)))))))))))) c22
set_option maxRecDepth 65536 in
set_option maxHeartbeats 40000000 in
theorem m19_named (V : Env1 Z a0 n0 uu0 uu1 uu2 uu3 uu4 uu5 uu6 uu7 uu8 uu9 uu10 uu11) (p0 : Addr) (p1 : Addr) (c0 : ClassId) (x0 : Int32) (h0 : Heap) (hO : Old Z n0 h0) (f0 : Str Z h0 p0 p1 c0 [100, 105, 114, 101, 99, 116, x0, 114, 121, 45, 105, 110]) (cc1 : ¬ 111 = x0) :
    Met Z a0 ELs True n0 l (⟨"bindery/bindings/BindingType", "named", "(Ljava/lang/String;)Lbindery/bindings/BindingType;"⟩ : MethodName) prog_4_method_4_code 5 (Option.some (FieldType.object "bindery/bindings/BindingType")) ({ frames := 2, cells := 1, slots := 2, locals := 28 } : Room) #[(.ref p0)] h0 [] (fun v h so => (¬ [100, 105, 114, 101, 99, 116, 111, 114, 121, 45, 105, 110] = [100, 105, 114, 101, 99, 116, x0, 114, 121, 45, 105, 110] ∧ v = some .null ∧ so = [] ∧ Keep h0 h [])) := by
  refine Met.of (EWl V) (by first | decide +kernel | rfl) hO (L0 := #[.val (.ref p0), .unset, .unset, .unset, .unset]) rfl ?_
  intro p e s m below meth c T H
  show Go p e below _ (T.setTop (mkF m 0 #[.val (.ref p0), .unset, .unset, .unset, .unset] []))
  refine G.callS H (m2_values V h0 H.old) (wd41 V) (wd42 V) (wd36 V) (wd43 V) (by decide) (argsL := []) (rest := []) (W := 0) rfl rfl (lenOf (pd_1) rfl) rfl rfl D10_0 (pc' := 3) rfl (by decide) (by decide) (by decide) (by decide) all0 ?_
  intro T1 h1_ v2 s3 H1 Q4
  obtain ⟨a5, k6, rfl, rfl, K7, g8, F9, F10⟩ := Q4
  have na5 : n0 ≤ a5 := Nat.le_trans H.le g8
  show Go p e below _ (T1.setTop (mkF m 3 #[.val (.ref p0), .unset, .unset, .unset, .unset] [(.ref a5)]))
  refine G.astoreN H1 (L' := #[.val (.ref p0), .val (.ref a5), .unset, .unset, .unset]) D10_3 (pc' := 4) rfl rfl rfl ?_
  refine G.aloadN H1 D10_4 (pc' := 5) rfl rfl rfl ?_
  refine G.arrlen H1 F9 D10_5 (pc' := 6) rfl ?_
  refine G.istoreN H1 (L' := #[.val (.ref p0), .val (.ref a5), .val (.int 2), .unset, .unset]) D10_6 (pc' := 7) rfl rfl ?_
  refine G.iconst H1 D10_7 (pc' := 8) rfl (v := 0) rfl ?_
  refine G.istoreN H1 (L' := #[.val (.ref p0), .val (.ref a5), .val (.int 2), .val (.int 0), .unset]) D10_8 (pc' := 9) rfl rfl ?_
  refine G.iloadN H1 D10_9 (pc' := 10) rfl rfl ?_
  refine G.iloadN H1 D10_10 (pc' := 11) rfl rfl ?_
  refine G.icmpNo H1 D10_11 (pc' := 14) rfl (by decide) ?_
  refine G.aloadN H1 D10_14 (pc' := 15) rfl rfl rfl ?_
  refine G.iloadN H1 D10_15 (pc' := 16) rfl rfl ?_
  refine G.aaloadG H1 F9 rfl (j := 0) (v := (.ref uu1)) (by decide) rfl D10_16 (pc' := 17) rfl ?_
  refine G.astore H1 (L' := #[.val (.ref p0), .val (.ref a5), .val (.int 2), .val (.int 0), .val (.ref uu1)]) D10_17 (pc' := 19) rfl rfl rfl ?_
  refine G.aload H1 D10_19 (pc' := 21) rfl rfl rfl ?_
  have B11 := Fld.ext H1.old.2 (hv8 V)
  refine G.getF H1 (wd57 V) Via.refl B11 D10_21 (pc' := 24) rfl ?_
  intro T12 H13
  refine G.aloadN H13 D10_24 (pc' := 25) rfl rfl rfl ?_
  have B14 := Str.ext H13.old.2 (hv22 V)
  have F15 := (Str.keep f0 K7 nin0 nin0)
  refine G.strEq H13 (strwEq V) (wd2 V) (wd59 V) (wd60 V) (wd62 V) (wd61 V) B14 F15 (hv17 V) (hv18 V) (rest := []) (W := 0) rfl rfl D10_25 (pc' := 28) rfl (by decide) (by decide) (by decide) (by decide) ?_ ?_
  ·
    intro T16 H17 c18
    exact absurd (List.cons.inj (List.cons.inj (List.cons.inj (List.cons.inj (List.cons.inj (List.cons.inj (List.cons.inj c18).2).2).2).2).2).2).1 cc1
  ·
    intro T19 H20 c21
    refine G.ifYes H20 D10_28 (by decide) (by decide) (pc' := 34) rfl ?_
    refine G.iinc H20 (v := 1) (L' := #[.val (.ref p0), .val (.ref a5), .val (.int 2), .val (.int 1), .val (.ref uu1)]) D10_34 (pc' := 37) rfl rfl rfl rfl ?_
    refine G.goto H20 D10_37 (by decide) (pc' := 9) rfl ?_
    show Go p e below _ (T19.setTop (mkF m 9 #[.val (.ref p0), .val (.ref a5), .val (.int 2), .val (.int 1), .val (.ref uu1)] []))
    refine G.iloadN H20 D10_9 (pc' := 10) rfl rfl ?_
    refine G.iloadN H20 D10_10 (pc' := 11) rfl rfl ?_
    refine G.icmpNo H20 D10_11 (pc' := 14) rfl (by decide) ?_
    refine G.aloadN H20 D10_14 (pc' := 15) rfl rfl rfl ?_
    refine G.iloadN H20 D10_15 (pc' := 16) rfl rfl ?_
    refine G.aaloadG H20 F9 rfl (j := 1) (v := (.ref uu2)) (by decide) rfl D10_16 (pc' := 17) rfl ?_
    refine G.astore H20 (L' := #[.val (.ref p0), .val (.ref a5), .val (.int 2), .val (.int 1), .val (.ref uu2)]) D10_17 (pc' := 19) rfl rfl rfl ?_
    refine G.aload H20 D10_19 (pc' := 21) rfl rfl rfl ?_
    have B22 := Fld.ext H20.old.2 (hv6 V)
    refine G.getF H20 (wd57 V) Via.refl B22 D10_21 (pc' := 24) rfl ?_
    intro T23 H24
    refine G.aloadN H24 D10_24 (pc' := 25) rfl rfl rfl ?_
    have B25 := Str.ext H24.old.2 (hv21 V)
    refine G.strEq H24 (strwEq V) (wd2 V) (wd59 V) (wd60 V) (wd62 V) (wd61 V) B25 F15 (hv17 V) (hv18 V) (rest := []) (W := 0) rfl rfl D10_25 (pc' := 28) rfl (by decide) (by decide) (by decide) (by decide) ?_ ?_
    ·
      intro T26 H27 c28
      exact absurd c28 (by intro qq; simp at qq)
    ·
      intro T29 H30 c31
      refine G.ifYes H30 D10_28 (by decide) (by decide) (pc' := 34) rfl ?_
      refine G.iinc H30 (v := 2) (L' := #[.val (.ref p0), .val (.ref a5), .val (.int 2), .val (.int 2), .val (.ref uu2)]) D10_34 (pc' := 37) rfl rfl rfl rfl ?_
      refine G.goto H30 D10_37 (by decide) (pc' := 9) rfl ?_
      show Go p e below _ (T29.setTop (mkF m 9 #[.val (.ref p0), .val (.ref a5), .val (.int 2), .val (.int 2), .val (.ref uu2)] []))
      refine G.iloadN H30 D10_9 (pc' := 10) rfl rfl ?_
      refine G.iloadN H30 D10_10 (pc' := 11) rfl rfl ?_
      refine G.icmpYes H30 D10_11 (by decide) (by decide) (pc' := 40) rfl ?_
      refine G.aconstNull H30 D10_40 (pc' := 41) rfl ?_
      have K32 : Keep h0 h1_ [] := (Keep.trans (Keep.refl h0 []) K7 all0)
      exact G.retA H30 (t := (.object "bindery/bindings/BindingType")) rfl rfl rfl D10_41 (so := []) all0 (by decide) (by decide) ⟨c21, rfl, rfl, K32⟩
set_option maxRecDepth 65536 in
set_option maxHeartbeats 40000000 in
theorem m20_named (V : Env1 Z a0 n0 uu0 uu1 uu2 uu3 uu4 uu5 uu6 uu7 uu8 uu9 uu10 uu11) (p0 : Addr) (p1 : Addr) (c0 : ClassId) (x0 : Int32) (h0 : Heap) (hO : Old Z n0 h0) (f0 : Str Z h0 p0 p1 c0 [100, 105, 114, 101, 99, 116, 111, x0, 121, 45, 105, 110]) (cc1 : 114 = x0) :
    Met Z a0 ELs True n0 l (⟨"bindery/bindings/BindingType", "named", "(Ljava/lang/String;)Lbindery/bindings/BindingType;"⟩ : MethodName) prog_4_method_4_code 5 (Option.some (FieldType.object "bindery/bindings/BindingType")) ({ frames := 2, cells := 1, slots := 2, locals := 28 } : Room) #[(.ref p0)] h0 [] (fun v h so => ([100, 105, 114, 101, 99, 116, 111, 114, 121, 45, 105, 110] = [100, 105, 114, 101, 99, 116, 111, x0, 121, 45, 105, 110] ∧ v = some (.ref uu1) ∧ so = [] ∧ Keep h0 h [])) := by
  refine Met.of (EWl V) (by first | decide +kernel | rfl) hO (L0 := #[.val (.ref p0), .unset, .unset, .unset, .unset]) rfl ?_
  intro p e s m below meth c T H
  show Go p e below _ (T.setTop (mkF m 0 #[.val (.ref p0), .unset, .unset, .unset, .unset] []))
  refine G.callS H (m2_values V h0 H.old) (wd41 V) (wd42 V) (wd36 V) (wd43 V) (by decide) (argsL := []) (rest := []) (W := 0) rfl rfl (lenOf (pd_1) rfl) rfl rfl D10_0 (pc' := 3) rfl (by decide) (by decide) (by decide) (by decide) all0 ?_
  intro T1 h1_ v2 s3 H1 Q4
  obtain ⟨a5, k6, rfl, rfl, K7, g8, F9, F10⟩ := Q4
  have na5 : n0 ≤ a5 := Nat.le_trans H.le g8
  show Go p e below _ (T1.setTop (mkF m 3 #[.val (.ref p0), .unset, .unset, .unset, .unset] [(.ref a5)]))
  refine G.astoreN H1 (L' := #[.val (.ref p0), .val (.ref a5), .unset, .unset, .unset]) D10_3 (pc' := 4) rfl rfl rfl ?_
  refine G.aloadN H1 D10_4 (pc' := 5) rfl rfl rfl ?_
  refine G.arrlen H1 F9 D10_5 (pc' := 6) rfl ?_
  refine G.istoreN H1 (L' := #[.val (.ref p0), .val (.ref a5), .val (.int 2), .unset, .unset]) D10_6 (pc' := 7) rfl rfl ?_
  refine G.iconst H1 D10_7 (pc' := 8) rfl (v := 0) rfl ?_
  refine G.istoreN H1 (L' := #[.val (.ref p0), .val (.ref a5), .val (.int 2), .val (.int 0), .unset]) D10_8 (pc' := 9) rfl rfl ?_
  refine G.iloadN H1 D10_9 (pc' := 10) rfl rfl ?_
  refine G.iloadN H1 D10_10 (pc' := 11) rfl rfl ?_
  refine G.icmpNo H1 D10_11 (pc' := 14) rfl (by decide) ?_
  refine G.aloadN H1 D10_14 (pc' := 15) rfl rfl rfl ?_
  refine G.iloadN H1 D10_15 (pc' := 16) rfl rfl ?_
  refine G.aaloadG H1 F9 rfl (j := 0) (v := (.ref uu1)) (by decide) rfl D10_16 (pc' := 17) rfl ?_
  refine G.astore H1 (L' := #[.val (.ref p0), .val (.ref a5), .val (.int 2), .val (.int 0), .val (.ref uu1)]) D10_17 (pc' := 19) rfl rfl rfl ?_
  refine G.aload H1 D10_19 (pc' := 21) rfl rfl rfl ?_
  have B11 := Fld.ext H1.old.2 (hv8 V)
  refine G.getF H1 (wd57 V) Via.refl B11 D10_21 (pc' := 24) rfl ?_
  intro T12 H13
  refine G.aloadN H13 D10_24 (pc' := 25) rfl rfl rfl ?_
  have B14 := Str.ext H13.old.2 (hv22 V)
  have F15 := (Str.keep f0 K7 nin0 nin0)
  refine G.strEq H13 (strwEq V) (wd2 V) (wd59 V) (wd60 V) (wd62 V) (wd61 V) B14 F15 (hv17 V) (hv18 V) (rest := []) (W := 0) rfl rfl D10_25 (pc' := 28) rfl (by decide) (by decide) (by decide) (by decide) ?_ ?_
  ·
    intro T16 H17 c18
    refine G.ifNo H17 D10_28 (pc' := 31) rfl (by decide) ?_
    refine G.aload H17 D10_31 (pc' := 33) rfl rfl rfl ?_
    have K19 : Keep h0 h1_ [] := (Keep.trans (Keep.refl h0 []) K7 all0)
    exact G.retA H17 (t := (.object "bindery/bindings/BindingType")) rfl rfl rfl D10_33 (so := []) all0 (by decide) (by decide) ⟨c18, rfl, rfl, K19⟩
  ·
    intro T20 H21 c22
    exact absurd (lcs rfl (lcs rfl (lcs rfl (lcs rfl (lcs rfl (lcs rfl (lcs rfl (lcs cc1 (lcs rfl (lcs rfl (lcs rfl (lcs rfl rfl)))))))))))) c22
set_option maxRecDepth 65536 in
set_option maxHeartbeats 40000000 in
theorem m21_named (V : Env1 Z a0 n0 uu0 uu1 uu2 uu3 uu4 uu5 uu6 uu7 uu8 uu9 uu10 uu11) (p0 : Addr) (p1 : Addr) (c0 : ClassId) (x0 : Int32) (h0 : Heap) (hO : Old Z n0 h0) (f0 : Str Z h0 p0 p1 c0 [100, 105, 114, 101, 99, 116, 111, x0, 121, 45, 105, 110]) (cc1 : ¬ 114 = x0) :
    Met Z a0 ELs True n0 l (⟨"bindery/bindings/BindingType", "named", "(Ljava/lang/String;)Lbindery/bindings/BindingType;"⟩ : MethodName) prog_4_method_4_code 5 (Option.some (FieldType.object "bindery/bindings/BindingType")) ({ frames := 2, cells := 1, slots := 2, locals := 28 } : Room) #[(.ref p0)] h0 [] (fun v h so => (¬ [100, 105, 114, 101, 99, 116, 111, 114, 121, 45, 105, 110] = [100, 105, 114, 101, 99, 116, 111, x0, 121, 45, 105, 110] ∧ v = some .null ∧ so = [] ∧ Keep h0 h [])) := by
  refine Met.of (EWl V) (by first | decide +kernel | rfl) hO (L0 := #[.val (.ref p0), .unset, .unset, .unset, .unset]) rfl ?_
  intro p e s m below meth c T H
  show Go p e below _ (T.setTop (mkF m 0 #[.val (.ref p0), .unset, .unset, .unset, .unset] []))
  refine G.callS H (m2_values V h0 H.old) (wd41 V) (wd42 V) (wd36 V) (wd43 V) (by decide) (argsL := []) (rest := []) (W := 0) rfl rfl (lenOf (pd_1) rfl) rfl rfl D10_0 (pc' := 3) rfl (by decide) (by decide) (by decide) (by decide) all0 ?_
  intro T1 h1_ v2 s3 H1 Q4
  obtain ⟨a5, k6, rfl, rfl, K7, g8, F9, F10⟩ := Q4
  have na5 : n0 ≤ a5 := Nat.le_trans H.le g8
  show Go p e below _ (T1.setTop (mkF m 3 #[.val (.ref p0), .unset, .unset, .unset, .unset] [(.ref a5)]))
  refine G.astoreN H1 (L' := #[.val (.ref p0), .val (.ref a5), .unset, .unset, .unset]) D10_3 (pc' := 4) rfl rfl rfl ?_
  refine G.aloadN H1 D10_4 (pc' := 5) rfl rfl rfl ?_
  refine G.arrlen H1 F9 D10_5 (pc' := 6) rfl ?_
  refine G.istoreN H1 (L' := #[.val (.ref p0), .val (.ref a5), .val (.int 2), .unset, .unset]) D10_6 (pc' := 7) rfl rfl ?_
  refine G.iconst H1 D10_7 (pc' := 8) rfl (v := 0) rfl ?_
  refine G.istoreN H1 (L' := #[.val (.ref p0), .val (.ref a5), .val (.int 2), .val (.int 0), .unset]) D10_8 (pc' := 9) rfl rfl ?_
  refine G.iloadN H1 D10_9 (pc' := 10) rfl rfl ?_
  refine G.iloadN H1 D10_10 (pc' := 11) rfl rfl ?_
  refine G.icmpNo H1 D10_11 (pc' := 14) rfl (by decide) ?_
  refine G.aloadN H1 D10_14 (pc' := 15) rfl rfl rfl ?_
  refine G.iloadN H1 D10_15 (pc' := 16) rfl rfl ?_
  refine G.aaloadG H1 F9 rfl (j := 0) (v := (.ref uu1)) (by decide) rfl D10_16 (pc' := 17) rfl ?_
  refine G.astore H1 (L' := #[.val (.ref p0), .val (.ref a5), .val (.int 2), .val (.int 0), .val (.ref uu1)]) D10_17 (pc' := 19) rfl rfl rfl ?_
  refine G.aload H1 D10_19 (pc' := 21) rfl rfl rfl ?_
  have B11 := Fld.ext H1.old.2 (hv8 V)
  refine G.getF H1 (wd57 V) Via.refl B11 D10_21 (pc' := 24) rfl ?_
  intro T12 H13
  refine G.aloadN H13 D10_24 (pc' := 25) rfl rfl rfl ?_
  have B14 := Str.ext H13.old.2 (hv22 V)
  have F15 := (Str.keep f0 K7 nin0 nin0)
  refine G.strEq H13 (strwEq V) (wd2 V) (wd59 V) (wd60 V) (wd62 V) (wd61 V) B14 F15 (hv17 V) (hv18 V) (rest := []) (W := 0) rfl rfl D10_25 (pc' := 28) rfl (by decide) (by decide) (by decide) (by decide) ?_ ?_
  ·
    intro T16 H17 c18
    exact absurd (List.cons.inj (List.cons.inj (List.cons.inj (List.cons.inj (List.cons.inj (List.cons.inj (List.cons.inj (List.cons.inj c18).2).2).2).2).2).2).2).1 cc1
  ·
    intro T19 H20 c21
    refine G.ifYes H20 D10_28 (by decide) (by decide) (pc' := 34) rfl ?_
    refine G.iinc H20 (v := 1) (L' := #[.val (.ref p0), .val (.ref a5), .val (.int 2), .val (.int 1), .val (.ref uu1)]) D10_34 (pc' := 37) rfl rfl rfl rfl ?_
    refine G.goto H20 D10_37 (by decide) (pc' := 9) rfl ?_
    show Go p e below _ (T19.setTop (mkF m 9 #[.val (.ref p0), .val (.ref a5), .val (.int 2), .val (.int 1), .val (.ref uu1)] []))
    refine G.iloadN H20 D10_9 (pc' := 10) rfl rfl ?_
    refine G.iloadN H20 D10_10 (pc' := 11) rfl rfl ?_
    refine G.icmpNo H20 D10_11 (pc' := 14) rfl (by decide) ?_
    refine G.aloadN H20 D10_14 (pc' := 15) rfl rfl rfl ?_
    refine G.iloadN H20 D10_15 (pc' := 16) rfl rfl ?_
    refine G.aaloadG H20 F9 rfl (j := 1) (v := (.ref uu2)) (by decide) rfl D10_16 (pc' := 17) rfl ?_
    refine G.astore H20 (L' := #[.val (.ref p0), .val (.ref a5), .val (.int 2), .val (.int 1), .val (.ref uu2)]) D10_17 (pc' := 19) rfl rfl rfl ?_
    refine G.aload H20 D10_19 (pc' := 21) rfl rfl rfl ?_
    have B22 := Fld.ext H20.old.2 (hv6 V)
    refine G.getF H20 (wd57 V) Via.refl B22 D10_21 (pc' := 24) rfl ?_
    intro T23 H24
    refine G.aloadN H24 D10_24 (pc' := 25) rfl rfl rfl ?_
    have B25 := Str.ext H24.old.2 (hv21 V)
    refine G.strEq H24 (strwEq V) (wd2 V) (wd59 V) (wd60 V) (wd62 V) (wd61 V) B25 F15 (hv17 V) (hv18 V) (rest := []) (W := 0) rfl rfl D10_25 (pc' := 28) rfl (by decide) (by decide) (by decide) (by decide) ?_ ?_
    ·
      intro T26 H27 c28
      exact absurd c28 (by intro qq; simp at qq)
    ·
      intro T29 H30 c31
      refine G.ifYes H30 D10_28 (by decide) (by decide) (pc' := 34) rfl ?_
      refine G.iinc H30 (v := 2) (L' := #[.val (.ref p0), .val (.ref a5), .val (.int 2), .val (.int 2), .val (.ref uu2)]) D10_34 (pc' := 37) rfl rfl rfl rfl ?_
      refine G.goto H30 D10_37 (by decide) (pc' := 9) rfl ?_
      show Go p e below _ (T29.setTop (mkF m 9 #[.val (.ref p0), .val (.ref a5), .val (.int 2), .val (.int 2), .val (.ref uu2)] []))
      refine G.iloadN H30 D10_9 (pc' := 10) rfl rfl ?_
      refine G.iloadN H30 D10_10 (pc' := 11) rfl rfl ?_
      refine G.icmpYes H30 D10_11 (by decide) (by decide) (pc' := 40) rfl ?_
      refine G.aconstNull H30 D10_40 (pc' := 41) rfl ?_
      have K32 : Keep h0 h1_ [] := (Keep.trans (Keep.refl h0 []) K7 all0)
      exact G.retA H30 (t := (.object "bindery/bindings/BindingType")) rfl rfl rfl D10_41 (so := []) all0 (by decide) (by decide) ⟨c21, rfl, rfl, K32⟩
set_option maxRecDepth 65536 in
set_option maxHeartbeats 40000000 in
theorem m22_named (V : Env1 Z a0 n0 uu0 uu1 uu2 uu3 uu4 uu5 uu6 uu7 uu8 uu9 uu10 uu11) (p0 : Addr) (p1 : Addr) (c0 : ClassId) (x0 : Int32) (h0 : Heap) (hO : Old Z n0 h0) (f0 : Str Z h0 p0 p1 c0 [100, 105, 114, 101, 99, 116, 111, 114, x0, 45, 105, 110]) (cc1 : 121 = x0) :
    Met Z a0 ELs True n0 l (⟨"bindery/bindings/BindingType", "named", "(Ljava/lang/String;)Lbindery/bindings/BindingType;"⟩ : MethodName) prog_4_method_4_code 5 (Option.some (FieldType.object "bindery/bindings/BindingType")) ({ frames := 2, cells := 1, slots := 2, locals := 28 } : Room) #[(.ref p0)] h0 [] (fun v h so => ([100, 105, 114, 101, 99, 116, 111, 114, 121, 45, 105, 110] = [100, 105, 114, 101, 99, 116, 111, 114, x0, 45, 105, 110] ∧ v = some (.ref uu1) ∧ so = [] ∧ Keep h0 h [])) := by
  refine Met.of (EWl V) (by first | decide +kernel | rfl) hO (L0 := #[.val (.ref p0), .unset, .unset, .unset, .unset]) rfl ?_
  intro p e s m below meth c T H
  show Go p e below _ (T.setTop (mkF m 0 #[.val (.ref p0), .unset, .unset, .unset, .unset] []))
  refine G.callS H (m2_values V h0 H.old) (wd41 V) (wd42 V) (wd36 V) (wd43 V) (by decide) (argsL := []) (rest := []) (W := 0) rfl rfl (lenOf (pd_1) rfl) rfl rfl D10_0 (pc' := 3) rfl (by decide) (by decide) (by decide) (by decide) all0 ?_
  intro T1 h1_ v2 s3 H1 Q4
  obtain ⟨a5, k6, rfl, rfl, K7, g8, F9, F10⟩ := Q4
  have na5 : n0 ≤ a5 := Nat.le_trans H.le g8
  show Go p e below _ (T1.setTop (mkF m 3 #[.val (.ref p0), .unset, .unset, .unset, .unset] [(.ref a5)]))
  refine G.astoreN H1 (L' := #[.val (.ref p0), .val (.ref a5), .unset, .unset, .unset]) D10_3 (pc' := 4) rfl rfl rfl ?_
  refine G.aloadN H1 D10_4 (pc' := 5) rfl rfl rfl ?_
  refine G.arrlen H1 F9 D10_5 (pc' := 6) rfl ?_
  refine G.istoreN H1 (L' := #[.val (.ref p0), .val (.ref a5), .val (.int 2), .unset, .unset]) D10_6 (pc' := 7) rfl rfl ?_
  refine G.iconst H1 D10_7 (pc' := 8) rfl (v := 0) rfl ?_
  refine G.istoreN H1 (L' := #[.val (.ref p0), .val (.ref a5), .val (.int 2), .val (.int 0), .unset]) D10_8 (pc' := 9) rfl rfl ?_
  refine G.iloadN H1 D10_9 (pc' := 10) rfl rfl ?_
  refine G.iloadN H1 D10_10 (pc' := 11) rfl rfl ?_
  refine G.icmpNo H1 D10_11 (pc' := 14) rfl (by decide) ?_
  refine G.aloadN H1 D10_14 (pc' := 15) rfl rfl rfl ?_
  refine G.iloadN H1 D10_15 (pc' := 16) rfl rfl ?_
  refine G.aaloadG H1 F9 rfl (j := 0) (v := (.ref uu1)) (by decide) rfl D10_16 (pc' := 17) rfl ?_
  refine G.astore H1 (L' := #[.val (.ref p0), .val (.ref a5), .val (.int 2), .val (.int 0), .val (.ref uu1)]) D10_17 (pc' := 19) rfl rfl rfl ?_
  refine G.aload H1 D10_19 (pc' := 21) rfl rfl rfl ?_
  have B11 := Fld.ext H1.old.2 (hv8 V)
  refine G.getF H1 (wd57 V) Via.refl B11 D10_21 (pc' := 24) rfl ?_
  intro T12 H13
  refine G.aloadN H13 D10_24 (pc' := 25) rfl rfl rfl ?_
  have B14 := Str.ext H13.old.2 (hv22 V)
  have F15 := (Str.keep f0 K7 nin0 nin0)
  refine G.strEq H13 (strwEq V) (wd2 V) (wd59 V) (wd60 V) (wd62 V) (wd61 V) B14 F15 (hv17 V) (hv18 V) (rest := []) (W := 0) rfl rfl D10_25 (pc' := 28) rfl (by decide) (by decide) (by decide) (by decide) ?_ ?_
  ·
    intro T16 H17 c18
    refine G.ifNo H17 D10_28 (pc' := 31) rfl (by decide) ?_
    refine G.aload H17 D10_31 (pc' := 33) rfl rfl rfl ?_
    have K19 : Keep h0 h1_ [] := (Keep.trans (Keep.refl h0 []) K7 all0)
    exact G.retA H17 (t := (.object "bindery/bindings/BindingType")) rfl rfl rfl D10_33 (so := []) all0 (by decide) (by decide) ⟨c18, rfl, rfl, K19⟩
  ·
    intro T20 H21 c22
    exact absurd (lcs rfl (lcs rfl (lcs rfl (lcs rfl (lcs rfl (lcs rfl (lcs rfl (lcs rfl (lcs cc1 (lcs rfl (lcs rfl (lcs rfl rfl)))))))))))) c22
set_option maxRecDepth 65536 in
set_option maxHeartbeats 40000000 in
theorem m23_named (V : Env1 Z a0 n0 uu0 uu1 uu2 uu3 uu4 uu5 uu6 uu7 uu8 uu9 uu10 uu11) (p0 : Addr) (p1 : Addr) (c0 : ClassId) (x0 : Int32) (h0 : Heap) (hO : Old Z n0 h0) (f0 : Str Z h0 p0 p1 c0 [100, 105, 114, 101, 99, 116, 111, 114, x0, 45, 105, 110]) (cc1 : ¬ 121 = x0) :
    Met Z a0 ELs True n0 l (⟨"bindery/bindings/BindingType", "named", "(Ljava/lang/String;)Lbindery/bindings/BindingType;"⟩ : MethodName) prog_4_method_4_code 5 (Option.some (FieldType.object "bindery/bindings/BindingType")) ({ frames := 2, cells := 1, slots := 2, locals := 28 } : Room) #[(.ref p0)] h0 [] (fun v h so => (¬ [100, 105, 114, 101, 99, 116, 111, 114, 121, 45, 105, 110] = [100, 105, 114, 101, 99, 116, 111, 114, x0, 45, 105, 110] ∧ v = some .null ∧ so = [] ∧ Keep h0 h [])) := by
  refine Met.of (EWl V) (by first | decide +kernel | rfl) hO (L0 := #[.val (.ref p0), .unset, .unset, .unset, .unset]) rfl ?_
  intro p e s m below meth c T H
  show Go p e below _ (T.setTop (mkF m 0 #[.val (.ref p0), .unset, .unset, .unset, .unset] []))
  refine G.callS H (m2_values V h0 H.old) (wd41 V) (wd42 V) (wd36 V) (wd43 V) (by decide) (argsL := []) (rest := []) (W := 0) rfl rfl (lenOf (pd_1) rfl) rfl rfl D10_0 (pc' := 3) rfl (by decide) (by decide) (by decide) (by decide) all0 ?_
  intro T1 h1_ v2 s3 H1 Q4
  obtain ⟨a5, k6, rfl, rfl, K7, g8, F9, F10⟩ := Q4
  have na5 : n0 ≤ a5 := Nat.le_trans H.le g8
  show Go p e below _ (T1.setTop (mkF m 3 #[.val (.ref p0), .unset, .unset, .unset, .unset] [(.ref a5)]))
  refine G.astoreN H1 (L' := #[.val (.ref p0), .val (.ref a5), .unset, .unset, .unset]) D10_3 (pc' := 4) rfl rfl rfl ?_
  refine G.aloadN H1 D10_4 (pc' := 5) rfl rfl rfl ?_
  refine G.arrlen H1 F9 D10_5 (pc' := 6) rfl ?_
  refine G.istoreN H1 (L' := #[.val (.ref p0), .val (.ref a5), .val (.int 2), .unset, .unset]) D10_6 (pc' := 7) rfl rfl ?_
  refine G.iconst H1 D10_7 (pc' := 8) rfl (v := 0) rfl ?_
  refine G.istoreN H1 (L' := #[.val (.ref p0), .val (.ref a5), .val (.int 2), .val (.int 0), .unset]) D10_8 (pc' := 9) rfl rfl ?_
  refine G.iloadN H1 D10_9 (pc' := 10) rfl rfl ?_
  refine G.iloadN H1 D10_10 (pc' := 11) rfl rfl ?_
  refine G.icmpNo H1 D10_11 (pc' := 14) rfl (by decide) ?_
  refine G.aloadN H1 D10_14 (pc' := 15) rfl rfl rfl ?_
  refine G.iloadN H1 D10_15 (pc' := 16) rfl rfl ?_
  refine G.aaloadG H1 F9 rfl (j := 0) (v := (.ref uu1)) (by decide) rfl D10_16 (pc' := 17) rfl ?_
  refine G.astore H1 (L' := #[.val (.ref p0), .val (.ref a5), .val (.int 2), .val (.int 0), .val (.ref uu1)]) D10_17 (pc' := 19) rfl rfl rfl ?_
  refine G.aload H1 D10_19 (pc' := 21) rfl rfl rfl ?_
  have B11 := Fld.ext H1.old.2 (hv8 V)
  refine G.getF H1 (wd57 V) Via.refl B11 D10_21 (pc' := 24) rfl ?_
  intro T12 H13
  refine G.aloadN H13 D10_24 (pc' := 25) rfl rfl rfl ?_
  have B14 := Str.ext H13.old.2 (hv22 V)
  have F15 := (Str.keep f0 K7 nin0 nin0)
  refine G.strEq H13 (strwEq V) (wd2 V) (wd59 V) (wd60 V) (wd62 V) (wd61 V) B14 F15 (hv17 V) (hv18 V) (rest := []) (W := 0) rfl rfl D10_25 (pc' := 28) rfl (by decide) (by decide) (by decide) (by decide) ?_ ?_
  ·
    intro T16 H17 c18
    exact absurd (List.cons.inj (List.cons.inj (List.cons.inj (List.cons.inj (List.cons.inj (List.cons.inj (List.cons.inj (List.cons.inj (List.cons.inj c18).2).2).2).2).2).2).2).2).1 cc1
  ·
    intro T19 H20 c21
    refine G.ifYes H20 D10_28 (by decide) (by decide) (pc' := 34) rfl ?_
    refine G.iinc H20 (v := 1) (L' := #[.val (.ref p0), .val (.ref a5), .val (.int 2), .val (.int 1), .val (.ref uu1)]) D10_34 (pc' := 37) rfl rfl rfl rfl ?_
    refine G.goto H20 D10_37 (by decide) (pc' := 9) rfl ?_
    show Go p e below _ (T19.setTop (mkF m 9 #[.val (.ref p0), .val (.ref a5), .val (.int 2), .val (.int 1), .val (.ref uu1)] []))
    refine G.iloadN H20 D10_9 (pc' := 10) rfl rfl ?_
    refine G.iloadN H20 D10_10 (pc' := 11) rfl rfl ?_
    refine G.icmpNo H20 D10_11 (pc' := 14) rfl (by decide) ?_
    refine G.aloadN H20 D10_14 (pc' := 15) rfl rfl rfl ?_
    refine G.iloadN H20 D10_15 (pc' := 16) rfl rfl ?_
    refine G.aaloadG H20 F9 rfl (j := 1) (v := (.ref uu2)) (by decide) rfl D10_16 (pc' := 17) rfl ?_
    refine G.astore H20 (L' := #[.val (.ref p0), .val (.ref a5), .val (.int 2), .val (.int 1), .val (.ref uu2)]) D10_17 (pc' := 19) rfl rfl rfl ?_
    refine G.aload H20 D10_19 (pc' := 21) rfl rfl rfl ?_
    have B22 := Fld.ext H20.old.2 (hv6 V)
    refine G.getF H20 (wd57 V) Via.refl B22 D10_21 (pc' := 24) rfl ?_
    intro T23 H24
    refine G.aloadN H24 D10_24 (pc' := 25) rfl rfl rfl ?_
    have B25 := Str.ext H24.old.2 (hv21 V)
    refine G.strEq H24 (strwEq V) (wd2 V) (wd59 V) (wd60 V) (wd62 V) (wd61 V) B25 F15 (hv17 V) (hv18 V) (rest := []) (W := 0) rfl rfl D10_25 (pc' := 28) rfl (by decide) (by decide) (by decide) (by decide) ?_ ?_
    ·
      intro T26 H27 c28
      exact absurd c28 (by intro qq; simp at qq)
    ·
      intro T29 H30 c31
      refine G.ifYes H30 D10_28 (by decide) (by decide) (pc' := 34) rfl ?_
      refine G.iinc H30 (v := 2) (L' := #[.val (.ref p0), .val (.ref a5), .val (.int 2), .val (.int 2), .val (.ref uu2)]) D10_34 (pc' := 37) rfl rfl rfl rfl ?_
      refine G.goto H30 D10_37 (by decide) (pc' := 9) rfl ?_
      show Go p e below _ (T29.setTop (mkF m 9 #[.val (.ref p0), .val (.ref a5), .val (.int 2), .val (.int 2), .val (.ref uu2)] []))
      refine G.iloadN H30 D10_9 (pc' := 10) rfl rfl ?_
      refine G.iloadN H30 D10_10 (pc' := 11) rfl rfl ?_
      refine G.icmpYes H30 D10_11 (by decide) (by decide) (pc' := 40) rfl ?_
      refine G.aconstNull H30 D10_40 (pc' := 41) rfl ?_
      have K32 : Keep h0 h1_ [] := (Keep.trans (Keep.refl h0 []) K7 all0)
      exact G.retA H30 (t := (.object "bindery/bindings/BindingType")) rfl rfl rfl D10_41 (so := []) all0 (by decide) (by decide) ⟨c21, rfl, rfl, K32⟩
set_option maxRecDepth 65536 in
set_option maxHeartbeats 40000000 in
theorem m24_named (V : Env1 Z a0 n0 uu0 uu1 uu2 uu3 uu4 uu5 uu6 uu7 uu8 uu9 uu10 uu11) (p0 : Addr) (p1 : Addr) (c0 : ClassId) (x0 : Int32) (h0 : Heap) (hO : Old Z n0 h0) (f0 : Str Z h0 p0 p1 c0 [100, 105, 114, 101, 99, 116, 111, 114, 121, x0, 105, 110]) (cc1 : 45 = x0) :
    Met Z a0 ELs True n0 l (⟨"bindery/bindings/BindingType", "named", "(Ljava/lang/String;)Lbindery/bindings/BindingType;"⟩ : MethodName) prog_4_method_4_code 5 (Option.some (FieldType.object "bindery/bindings/BindingType")) ({ frames := 2, cells := 1, slots := 2, locals := 28 } : Room) #[(.ref p0)] h0 [] (fun v h so => ([100, 105, 114, 101, 99, 116, 111, 114, 121, 45, 105, 110] = [100, 105, 114, 101, 99, 116, 111, 114, 121, x0, 105, 110] ∧ v = some (.ref uu1) ∧ so = [] ∧ Keep h0 h [])) := by
  refine Met.of (EWl V) (by first | decide +kernel | rfl) hO (L0 := #[.val (.ref p0), .unset, .unset, .unset, .unset]) rfl ?_
  intro p e s m below meth c T H
  show Go p e below _ (T.setTop (mkF m 0 #[.val (.ref p0), .unset, .unset, .unset, .unset] []))
  refine G.callS H (m2_values V h0 H.old) (wd41 V) (wd42 V) (wd36 V) (wd43 V) (by decide) (argsL := []) (rest := []) (W := 0) rfl rfl (lenOf (pd_1) rfl) rfl rfl D10_0 (pc' := 3) rfl (by decide) (by decide) (by decide) (by decide) all0 ?_
  intro T1 h1_ v2 s3 H1 Q4
  obtain ⟨a5, k6, rfl, rfl, K7, g8, F9, F10⟩ := Q4
  have na5 : n0 ≤ a5 := Nat.le_trans H.le g8
  show Go p e below _ (T1.setTop (mkF m 3 #[.val (.ref p0), .unset, .unset, .unset, .unset] [(.ref a5)]))
  refine G.astoreN H1 (L' := #[.val (.ref p0), .val (.ref a5), .unset, .unset, .unset]) D10_3 (pc' := 4) rfl rfl rfl ?_
  refine G.aloadN H1 D10_4 (pc' := 5) rfl rfl rfl ?_
  refine G.arrlen H1 F9 D10_5 (pc' := 6) rfl ?_
  refine G.istoreN H1 (L' := #[.val (.ref p0), .val (.ref a5), .val (.int 2), .unset, .unset]) D10_6 (pc' := 7) rfl rfl ?_
  refine G.iconst H1 D10_7 (pc' := 8) rfl (v := 0) rfl ?_
  refine G.istoreN H1 (L' := #[.val (.ref p0), .val (.ref a5), .val (.int 2), .val (.int 0), .unset]) D10_8 (pc' := 9) rfl rfl ?_
  refine G.iloadN H1 D10_9 (pc' := 10) rfl rfl ?_
  refine G.iloadN H1 D10_10 (pc' := 11) rfl rfl ?_
  refine G.icmpNo H1 D10_11 (pc' := 14) rfl (by decide) ?_
  refine G.aloadN H1 D10_14 (pc' := 15) rfl rfl rfl ?_
  refine G.iloadN H1 D10_15 (pc' := 16) rfl rfl ?_
  refine G.aaloadG H1 F9 rfl (j := 0) (v := (.ref uu1)) (by decide) rfl D10_16 (pc' := 17) rfl ?_
  refine G.astore H1 (L' := #[.val (.ref p0), .val (.ref a5), .val (.int 2), .val (.int 0), .val (.ref uu1)]) D10_17 (pc' := 19) rfl rfl rfl ?_
  refine G.aload H1 D10_19 (pc' := 21) rfl rfl rfl ?_
  have B11 := Fld.ext H1.old.2 (hv8 V)
  refine G.getF H1 (wd57 V) Via.refl B11 D10_21 (pc' := 24) rfl ?_
  intro T12 H13
  refine G.aloadN H13 D10_24 (pc' := 25) rfl rfl rfl ?_
  have B14 := Str.ext H13.old.2 (hv22 V)
  have F15 := (Str.keep f0 K7 nin0 nin0)
  refine G.strEq H13 (strwEq V) (wd2 V) (wd59 V) (wd60 V) (wd62 V) (wd61 V) B14 F15 (hv17 V) (hv18 V) (rest := []) (W := 0) rfl rfl D10_25 (pc' := 28) rfl (by decide) (by decide) (by decide) (by decide) ?_ ?_
  ·
    intro T16 H17 c18
    refine G.ifNo H17 D10_28 (pc' := 31) rfl (by decide) ?_
    refine G.aload H17 D10_31 (pc' := 33) rfl rfl rfl ?_
    have K19 : Keep h0 h1_ [] := (Keep.trans (Keep.refl h0 []) K7 all0)
    exact G.retA H17 (t := (.object "bindery/bindings/BindingType")) rfl rfl rfl D10_33 (so := []) all0 (by decide) (by decide) ⟨c18, rfl, rfl, K19⟩
  ·
    intro T20 H21 c22
    exact absurd (lcs rfl (lcs rfl (lcs rfl (lcs rfl (lcs rfl (lcs rfl (lcs rfl (lcs rfl (lcs rfl (lcs cc1 (lcs rfl (lcs rfl rfl)))))))))))) c22
set_option maxRecDepth 65536 in
set_option maxHeartbeats 40000000 in
theorem m25_named (V : Env1 Z a0 n0 uu0 uu1 uu2 uu3 uu4 uu5 uu6 uu7 uu8 uu9 uu10 uu11) (p0 : Addr) (p1 : Addr) (c0 : ClassId) (x0 : Int32) (h0 : Heap) (hO : Old Z n0 h0) (f0 : Str Z h0 p0 p1 c0 [100, 105, 114, 101, 99, 116, 111, 114, 121, x0, 105, 110]) (cc1 : ¬ 45 = x0) :
    Met Z a0 ELs True n0 l (⟨"bindery/bindings/BindingType", "named", "(Ljava/lang/String;)Lbindery/bindings/BindingType;"⟩ : MethodName) prog_4_method_4_code 5 (Option.some (FieldType.object "bindery/bindings/BindingType")) ({ frames := 2, cells := 1, slots := 2, locals := 28 } : Room) #[(.ref p0)] h0 [] (fun v h so => (¬ [100, 105, 114, 101, 99, 116, 111, 114, 121, 45, 105, 110] = [100, 105, 114, 101, 99, 116, 111, 114, 121, x0, 105, 110] ∧ v = some .null ∧ so = [] ∧ Keep h0 h [])) := by
  refine Met.of (EWl V) (by first | decide +kernel | rfl) hO (L0 := #[.val (.ref p0), .unset, .unset, .unset, .unset]) rfl ?_
  intro p e s m below meth c T H
  show Go p e below _ (T.setTop (mkF m 0 #[.val (.ref p0), .unset, .unset, .unset, .unset] []))
  refine G.callS H (m2_values V h0 H.old) (wd41 V) (wd42 V) (wd36 V) (wd43 V) (by decide) (argsL := []) (rest := []) (W := 0) rfl rfl (lenOf (pd_1) rfl) rfl rfl D10_0 (pc' := 3) rfl (by decide) (by decide) (by decide) (by decide) all0 ?_
  intro T1 h1_ v2 s3 H1 Q4
  obtain ⟨a5, k6, rfl, rfl, K7, g8, F9, F10⟩ := Q4
  have na5 : n0 ≤ a5 := Nat.le_trans H.le g8
  show Go p e below _ (T1.setTop (mkF m 3 #[.val (.ref p0), .unset, .unset, .unset, .unset] [(.ref a5)]))
  refine G.astoreN H1 (L' := #[.val (.ref p0), .val (.ref a5), .unset, .unset, .unset]) D10_3 (pc' := 4) rfl rfl rfl ?_
  refine G.aloadN H1 D10_4 (pc' := 5) rfl rfl rfl ?_
  refine G.arrlen H1 F9 D10_5 (pc' := 6) rfl ?_
  refine G.istoreN H1 (L' := #[.val (.ref p0), .val (.ref a5), .val (.int 2), .unset, .unset]) D10_6 (pc' := 7) rfl rfl ?_
  refine G.iconst H1 D10_7 (pc' := 8) rfl (v := 0) rfl ?_
  refine G.istoreN H1 (L' := #[.val (.ref p0), .val (.ref a5), .val (.int 2), .val (.int 0), .unset]) D10_8 (pc' := 9) rfl rfl ?_
  refine G.iloadN H1 D10_9 (pc' := 10) rfl rfl ?_
  refine G.iloadN H1 D10_10 (pc' := 11) rfl rfl ?_
  refine G.icmpNo H1 D10_11 (pc' := 14) rfl (by decide) ?_
  refine G.aloadN H1 D10_14 (pc' := 15) rfl rfl rfl ?_
  refine G.iloadN H1 D10_15 (pc' := 16) rfl rfl ?_
  refine G.aaloadG H1 F9 rfl (j := 0) (v := (.ref uu1)) (by decide) rfl D10_16 (pc' := 17) rfl ?_
  refine G.astore H1 (L' := #[.val (.ref p0), .val (.ref a5), .val (.int 2), .val (.int 0), .val (.ref uu1)]) D10_17 (pc' := 19) rfl rfl rfl ?_
  refine G.aload H1 D10_19 (pc' := 21) rfl rfl rfl ?_
  have B11 := Fld.ext H1.old.2 (hv8 V)
  refine G.getF H1 (wd57 V) Via.refl B11 D10_21 (pc' := 24) rfl ?_
  intro T12 H13
  refine G.aloadN H13 D10_24 (pc' := 25) rfl rfl rfl ?_
  have B14 := Str.ext H13.old.2 (hv22 V)
  have F15 := (Str.keep f0 K7 nin0 nin0)
  refine G.strEq H13 (strwEq V) (wd2 V) (wd59 V) (wd60 V) (wd62 V) (wd61 V) B14 F15 (hv17 V) (hv18 V) (rest := []) (W := 0) rfl rfl D10_25 (pc' := 28) rfl (by decide) (by decide) (by decide) (by decide) ?_ ?_
  ·
    intro T16 H17 c18
    exact absurd (List.cons.inj (List.cons.inj (List.cons.inj (List.cons.inj (List.cons.inj (List.cons.inj (List.cons.inj (List.cons.inj (List.cons.inj (List.cons.inj c18).2).2).2).2).2).2).2).2).2).1 cc1
  ·
    intro T19 H20 c21
    refine G.ifYes H20 D10_28 (by decide) (by decide) (pc' := 34) rfl ?_
    refine G.iinc H20 (v := 1) (L' := #[.val (.ref p0), .val (.ref a5), .val (.int 2), .val (.int 1), .val (.ref uu1)]) D10_34 (pc' := 37) rfl rfl rfl rfl ?_
    refine G.goto H20 D10_37 (by decide) (pc' := 9) rfl ?_
    show Go p e below _ (T19.setTop (mkF m 9 #[.val (.ref p0), .val (.ref a5), .val (.int 2), .val (.int 1), .val (.ref uu1)] []))
    refine G.iloadN H20 D10_9 (pc' := 10) rfl rfl ?_
    refine G.iloadN H20 D10_10 (pc' := 11) rfl rfl ?_
    refine G.icmpNo H20 D10_11 (pc' := 14) rfl (by decide) ?_
    refine G.aloadN H20 D10_14 (pc' := 15) rfl rfl rfl ?_
    refine G.iloadN H20 D10_15 (pc' := 16) rfl rfl ?_
    refine G.aaloadG H20 F9 rfl (j := 1) (v := (.ref uu2)) (by decide) rfl D10_16 (pc' := 17) rfl ?_
    refine G.astore H20 (L' := #[.val (.ref p0), .val (.ref a5), .val (.int 2), .val (.int 1), .val (.ref uu2)]) D10_17 (pc' := 19) rfl rfl rfl ?_
    refine G.aload H20 D10_19 (pc' := 21) rfl rfl rfl ?_
    have B22 := Fld.ext H20.old.2 (hv6 V)
    refine G.getF H20 (wd57 V) Via.refl B22 D10_21 (pc' := 24) rfl ?_
    intro T23 H24
    refine G.aloadN H24 D10_24 (pc' := 25) rfl rfl rfl ?_
    have B25 := Str.ext H24.old.2 (hv21 V)
    refine G.strEq H24 (strwEq V) (wd2 V) (wd59 V) (wd60 V) (wd62 V) (wd61 V) B25 F15 (hv17 V) (hv18 V) (rest := []) (W := 0) rfl rfl D10_25 (pc' := 28) rfl (by decide) (by decide) (by decide) (by decide) ?_ ?_
    ·
      intro T26 H27 c28
      exact absurd c28 (by intro qq; simp at qq)
    ·
      intro T29 H30 c31
      refine G.ifYes H30 D10_28 (by decide) (by decide) (pc' := 34) rfl ?_
      refine G.iinc H30 (v := 2) (L' := #[.val (.ref p0), .val (.ref a5), .val (.int 2), .val (.int 2), .val (.ref uu2)]) D10_34 (pc' := 37) rfl rfl rfl rfl ?_
      refine G.goto H30 D10_37 (by decide) (pc' := 9) rfl ?_
      show Go p e below _ (T29.setTop (mkF m 9 #[.val (.ref p0), .val (.ref a5), .val (.int 2), .val (.int 2), .val (.ref uu2)] []))
      refine G.iloadN H30 D10_9 (pc' := 10) rfl rfl ?_
      refine G.iloadN H30 D10_10 (pc' := 11) rfl rfl ?_
      refine G.icmpYes H30 D10_11 (by decide) (by decide) (pc' := 40) rfl ?_
      refine G.aconstNull H30 D10_40 (pc' := 41) rfl ?_
      have K32 : Keep h0 h1_ [] := (Keep.trans (Keep.refl h0 []) K7 all0)
      exact G.retA H30 (t := (.object "bindery/bindings/BindingType")) rfl rfl rfl D10_41 (so := []) all0 (by decide) (by decide) ⟨c21, rfl, rfl, K32⟩
set_option maxRecDepth 65536 in
set_option maxHeartbeats 40000000 in
theorem m26_named (V : Env1 Z a0 n0 uu0 uu1 uu2 uu3 uu4 uu5 uu6 uu7 uu8 uu9 uu10 uu11) (p0 : Addr) (p1 : Addr) (c0 : ClassId) (x0 : Int32) (h0 : Heap) (hO : Old Z n0 h0) (f0 : Str Z h0 p0 p1 c0 [100, 105, 114, 101, 99, 116, 111, 114, 121, 45, x0, 110]) (cc1 : 105 = x0) :
    Met Z a0 ELs True n0 l (⟨"bindery/bindings/BindingType", "named", "(Ljava/lang/String;)Lbindery/bindings/BindingType;"⟩ : MethodName) prog_4_method_4_code 5 (Option.some (FieldType.object "bindery/bindings/BindingType")) ({ frames := 2, cells := 1, slots := 2, locals := 28 } : Room) #[(.ref p0)] h0 [] (fun v h so => ([100, 105, 114, 101, 99, 116, 111, 114, 121, 45, 105, 110] = [100, 105, 114, 101, 99, 116, 111, 114, 121, 45, x0, 110] ∧ v = some (.ref uu1) ∧ so = [] ∧ Keep h0 h [])) := by
  refine Met.of (EWl V) (by first | decide +kernel | rfl) hO (L0 := #[.val (.ref p0), .unset, .unset, .unset, .unset]) rfl ?_
  intro p e s m below meth c T H
  show Go p e below _ (T.setTop (mkF m 0 #[.val (.ref p0), .unset, .unset, .unset, .unset] []))
  refine G.callS H (m2_values V h0 H.old) (wd41 V) (wd42 V) (wd36 V) (wd43 V) (by decide) (argsL := []) (rest := []) (W := 0) rfl rfl (lenOf (pd_1) rfl) rfl rfl D10_0 (pc' := 3) rfl (by decide) (by decide) (by decide) (by decide) all0 ?_
  intro T1 h1_ v2 s3 H1 Q4
  obtain ⟨a5, k6, rfl, rfl, K7, g8, F9, F10⟩ := Q4
  have na5 : n0 ≤ a5 := Nat.le_trans H.le g8
  show Go p e below _ (T1.setTop (mkF m 3 #[.val (.ref p0), .unset, .unset, .unset, .unset] [(.ref a5)]))
  refine G.astoreN H1 (L' := #[.val (.ref p0), .val (.ref a5), .unset, .unset, .unset]) D10_3 (pc' := 4) rfl rfl rfl ?_
  refine G.aloadN H1 D10_4 (pc' := 5) rfl rfl rfl ?_
  refine G.arrlen H1 F9 D10_5 (pc' := 6) rfl ?_
  refine G.istoreN H1 (L' := #[.val (.ref p0), .val (.ref a5), .val (.int 2), .unset, .unset]) D10_6 (pc' := 7) rfl rfl ?_
  refine G.iconst H1 D10_7 (pc' := 8) rfl (v := 0) rfl ?_
  refine G.istoreN H1 (L' := #[.val (.ref p0), .val (.ref a5), .val (.int 2), .val (.int 0), .unset]) D10_8 (pc' := 9) rfl rfl ?_
  refine G.iloadN H1 D10_9 (pc' := 10) rfl rfl ?_
  refine G.iloadN H1 D10_10 (pc' := 11) rfl rfl ?_
  refine G.icmpNo H1 D10_11 (pc' := 14) rfl (by decide) ?_
  refine G.aloadN H1 D10_14 (pc' := 15) rfl rfl rfl ?_
  refine G.iloadN H1 D10_15 (pc' := 16) rfl rfl ?_
  refine G.aaloadG H1 F9 rfl (j := 0) (v := (.ref uu1)) (by decide) rfl D10_16 (pc' := 17) rfl ?_
  refine G.astore H1 (L' := #[.val (.ref p0), .val (.ref a5), .val (.int 2), .val (.int 0), .val (.ref uu1)]) D10_17 (pc' := 19) rfl rfl rfl ?_
  refine G.aload H1 D10_19 (pc' := 21) rfl rfl rfl ?_
  have B11 := Fld.ext H1.old.2 (hv8 V)
  refine G.getF H1 (wd57 V) Via.refl B11 D10_21 (pc' := 24) rfl ?_
  intro T12 H13
  refine G.aloadN H13 D10_24 (pc' := 25) rfl rfl rfl ?_
  have B14 := Str.ext H13.old.2 (hv22 V)
  have F15 := (Str.keep f0 K7 nin0 nin0)
  refine G.strEq H13 (strwEq V) (wd2 V) (wd59 V) (wd60 V) (wd62 V) (wd61 V) B14 F15 (hv17 V) (hv18 V) (rest := []) (W := 0) rfl rfl D10_25 (pc' := 28) rfl (by decide) (by decide) (by decide) (by decide) ?_ ?_
  ·
    intro T16 H17 c18
    refine G.ifNo H17 D10_28 (pc' := 31) rfl (by decide) ?_
    refine G.aload H17 D10_31 (pc' := 33) rfl rfl rfl ?_
    have K19 : Keep h0 h1_ [] := (Keep.trans (Keep.refl h0 []) K7 all0)
    exact G.retA H17 (t := (.object "bindery/bindings/BindingType")) rfl rfl rfl D10_33 (so := []) all0 (by decide) (by decide) ⟨c18, rfl, rfl, K19⟩
  ·
    intro T20 H21 c22
    exact absurd (lcs rfl (lcs rfl (lcs rfl (lcs rfl (lcs rfl (lcs rfl (lcs rfl (lcs rfl (lcs rfl (lcs rfl (lcs cc1 (lcs rfl rfl)))))))))))) c22
set_option maxRecDepth 65536 in
set_option maxHeartbeats 40000000 in
theorem m27_named (V : Env1 Z a0 n0 uu0 uu1 uu2 uu3 uu4 uu5 uu6 uu7 uu8 uu9 uu10 uu11) (p0 : Addr) (p1 : Addr) (c0 : ClassId) (x0 : Int32) (h0 : Heap) (hO : Old Z n0 h0) (f0 : Str Z h0 p0 p1 c0 [100, 105, 114, 101, 99, 116, 111, 114, 121, 45, x0, 110]) (cc1 : ¬ 105 = x0) :
    Met Z a0 ELs True n0 l (⟨"bindery/bindings/BindingType", "named", "(Ljava/lang/String;)Lbindery/bindings/BindingType;"⟩ : MethodName) prog_4_method_4_code 5 (Option.some (FieldType.object "bindery/bindings/BindingType")) ({ frames := 2, cells := 1, slots := 2, locals := 28 } : Room) #[(.ref p0)] h0 [] (fun v h so => (¬ [100, 105, 114, 101, 99, 116, 111, 114, 121, 45, 105, 110] = [100, 105, 114, 101, 99, 116, 111, 114, 121, 45, x0, 110] ∧ v = some .null ∧ so = [] ∧ Keep h0 h [])) := by
  refine Met.of (EWl V) (by first | decide +kernel | rfl) hO (L0 := #[.val (.ref p0), .unset, .unset, .unset, .unset]) rfl ?_
  intro p e s m below meth c T H
  show Go p e below _ (T.setTop (mkF m 0 #[.val (.ref p0), .unset, .unset, .unset, .unset] []))
  refine G.callS H (m2_values V h0 H.old) (wd41 V) (wd42 V) (wd36 V) (wd43 V) (by decide) (argsL := []) (rest := []) (W := 0) rfl rfl (lenOf (pd_1) rfl) rfl rfl D10_0 (pc' := 3) rfl (by decide) (by decide) (by decide) (by decide) all0 ?_
  intro T1 h1_ v2 s3 H1 Q4
  obtain ⟨a5, k6, rfl, rfl, K7, g8, F9, F10⟩ := Q4
  have na5 : n0 ≤ a5 := Nat.le_trans H.le g8
  show Go p e below _ (T1.setTop (mkF m 3 #[.val (.ref p0), .unset, .unset, .unset, .unset] [(.ref a5)]))
  refine G.astoreN H1 (L' := #[.val (.ref p0), .val (.ref a5), .unset, .unset, .unset]) D10_3 (pc' := 4) rfl rfl rfl ?_
  refine G.aloadN H1 D10_4 (pc' := 5) rfl rfl rfl ?_
  refine G.arrlen H1 F9 D10_5 (pc' := 6) rfl ?_
  refine G.istoreN H1 (L' := #[.val (.ref p0), .val (.ref a5), .val (.int 2), .unset, .unset]) D10_6 (pc' := 7) rfl rfl ?_
  refine G.iconst H1 D10_7 (pc' := 8) rfl (v := 0) rfl ?_
  refine G.istoreN H1 (L' := #[.val (.ref p0), .val (.ref a5), .val (.int 2), .val (.int 0), .unset]) D10_8 (pc' := 9) rfl rfl ?_
  refine G.iloadN H1 D10_9 (pc' := 10) rfl rfl ?_
  refine G.iloadN H1 D10_10 (pc' := 11) rfl rfl ?_
  refine G.icmpNo H1 D10_11 (pc' := 14) rfl (by decide) ?_
  refine G.aloadN H1 D10_14 (pc' := 15) rfl rfl rfl ?_
  refine G.iloadN H1 D10_15 (pc' := 16) rfl rfl ?_
  refine G.aaloadG H1 F9 rfl (j := 0) (v := (.ref uu1)) (by decide) rfl D10_16 (pc' := 17) rfl ?_
  refine G.astore H1 (L' := #[.val (.ref p0), .val (.ref a5), .val (.int 2), .val (.int 0), .val (.ref uu1)]) D10_17 (pc' := 19) rfl rfl rfl ?_
  refine G.aload H1 D10_19 (pc' := 21) rfl rfl rfl ?_
  have B11 := Fld.ext H1.old.2 (hv8 V)
  refine G.getF H1 (wd57 V) Via.refl B11 D10_21 (pc' := 24) rfl ?_
  intro T12 H13
  refine G.aloadN H13 D10_24 (pc' := 25) rfl rfl rfl ?_
  have B14 := Str.ext H13.old.2 (hv22 V)
  have F15 := (Str.keep f0 K7 nin0 nin0)
  refine G.strEq H13 (strwEq V) (wd2 V) (wd59 V) (wd60 V) (wd62 V) (wd61 V) B14 F15 (hv17 V) (hv18 V) (rest := []) (W := 0) rfl rfl D10_25 (pc' := 28) rfl (by decide) (by decide) (by decide) (by decide) ?_ ?_
  ·
    intro T16 H17 c18
    exact absurd (List.cons.inj (List.cons.inj (List.cons.inj (List.cons.inj (List.cons.inj (List.cons.inj (List.cons.inj (List.cons.inj (List.cons.inj (List.cons.inj (List.cons.inj c18).2).2).2).2).2).2).2).2).2).2).1 cc1
  ·
    intro T19 H20 c21
    refine G.ifYes H20 D10_28 (by decide) (by decide) (pc' := 34) rfl ?_
    refine G.iinc H20 (v := 1) (L' := #[.val (.ref p0), .val (.ref a5), .val (.int 2), .val (.int 1), .val (.ref uu1)]) D10_34 (pc' := 37) rfl rfl rfl rfl ?_
    refine G.goto H20 D10_37 (by decide) (pc' := 9) rfl ?_
    show Go p e below _ (T19.setTop (mkF m 9 #[.val (.ref p0), .val (.ref a5), .val (.int 2), .val (.int 1), .val (.ref uu1)] []))
    refine G.iloadN H20 D10_9 (pc' := 10) rfl rfl ?_
    refine G.iloadN H20 D10_10 (pc' := 11) rfl rfl ?_
    refine G.icmpNo H20 D10_11 (pc' := 14) rfl (by decide) ?_
    refine G.aloadN H20 D10_14 (pc' := 15) rfl rfl rfl ?_
    refine G.iloadN H20 D10_15 (pc' := 16) rfl rfl ?_
    refine G.aaloadG H20 F9 rfl (j := 1) (v := (.ref uu2)) (by decide) rfl D10_16 (pc' := 17) rfl ?_
    refine G.astore H20 (L' := #[.val (.ref p0), .val (.ref a5), .val (.int 2), .val (.int 1), .val (.ref uu2)]) D10_17 (pc' := 19) rfl rfl rfl ?_
    refine G.aload H20 D10_19 (pc' := 21) rfl rfl rfl ?_
    have B22 := Fld.ext H20.old.2 (hv6 V)
    refine G.getF H20 (wd57 V) Via.refl B22 D10_21 (pc' := 24) rfl ?_
    intro T23 H24
    refine G.aloadN H24 D10_24 (pc' := 25) rfl rfl rfl ?_
    have B25 := Str.ext H24.old.2 (hv21 V)
    refine G.strEq H24 (strwEq V) (wd2 V) (wd59 V) (wd60 V) (wd62 V) (wd61 V) B25 F15 (hv17 V) (hv18 V) (rest := []) (W := 0) rfl rfl D10_25 (pc' := 28) rfl (by decide) (by decide) (by decide) (by decide) ?_ ?_
    ·
      intro T26 H27 c28
      exact absurd c28 (by intro qq; simp at qq)
    ·
      intro T29 H30 c31
      refine G.ifYes H30 D10_28 (by decide) (by decide) (pc' := 34) rfl ?_
      refine G.iinc H30 (v := 2) (L' := #[.val (.ref p0), .val (.ref a5), .val (.int 2), .val (.int 2), .val (.ref uu2)]) D10_34 (pc' := 37) rfl rfl rfl rfl ?_
      refine G.goto H30 D10_37 (by decide) (pc' := 9) rfl ?_
      show Go p e below _ (T29.setTop (mkF m 9 #[.val (.ref p0), .val (.ref a5), .val (.int 2), .val (.int 2), .val (.ref uu2)] []))
      refine G.iloadN H30 D10_9 (pc' := 10) rfl rfl ?_
      refine G.iloadN H30 D10_10 (pc' := 11) rfl rfl ?_
      refine G.icmpYes H30 D10_11 (by decide) (by decide) (pc' := 40) rfl ?_
      refine G.aconstNull H30 D10_40 (pc' := 41) rfl ?_
      have K32 : Keep h0 h1_ [] := (Keep.trans (Keep.refl h0 []) K7 all0)
      exact G.retA H30 (t := (.object "bindery/bindings/BindingType")) rfl rfl rfl D10_41 (so := []) all0 (by decide) (by decide) ⟨c21, rfl, rfl, K32⟩
set_option maxRecDepth 65536 in
set_option maxHeartbeats 40000000 in
theorem m28_named (V : Env1 Z a0 n0 uu0 uu1 uu2 uu3 uu4 uu5 uu6 uu7 uu8 uu9 uu10 uu11) (p0 : Addr) (p1 : Addr) (c0 : ClassId) (x0 : Int32) (h0 : Heap) (hO : Old Z n0 h0) (f0 : Str Z h0 p0 p1 c0 [100, 105, 114, 101, 99, 116, 111, 114, 121, 45, 105, x0]) (cc1 : 110 = x0) :
    Met Z a0 ELs True n0 l (⟨"bindery/bindings/BindingType", "named", "(Ljava/lang/String;)Lbindery/bindings/BindingType;"⟩ : MethodName) prog_4_method_4_code 5 (Option.some (FieldType.object "bindery/bindings/BindingType")) ({ frames := 2, cells := 1, slots := 2, locals := 28 } : Room) #[(.ref p0)] h0 [] (fun v h so => ([100, 105, 114, 101, 99, 116, 111, 114, 121, 45, 105, 110] = [100, 105, 114, 101, 99, 116, 111, 114, 121, 45, 105, x0] ∧ v = some (.ref uu1) ∧ so = [] ∧ Keep h0 h [])) := by
  refine Met.of (EWl V) (by first | decide +kernel | rfl) hO (L0 := #[.val (.ref p0), .unset, .unset, .unset, .unset]) rfl ?_
  intro p e s m below meth c T H
  show Go p e below _ (T.setTop (mkF m 0 #[.val (.ref p0), .unset, .unset, .unset, .unset] []))
  refine G.callS H (m2_values V h0 H.old) (wd41 V) (wd42 V) (wd36 V) (wd43 V) (by decide) (argsL := []) (rest := []) (W := 0) rfl rfl (lenOf (pd_1) rfl) rfl rfl D10_0 (pc' := 3) rfl (by decide) (by decide) (by decide) (by decide) all0 ?_
  intro T1 h1_ v2 s3 H1 Q4
  obtain ⟨a5, k6, rfl, rfl, K7, g8, F9, F10⟩ := Q4
  have na5 : n0 ≤ a5 := Nat.le_trans H.le g8
  show Go p e below _ (T1.setTop (mkF m 3 #[.val (.ref p0), .unset, .unset, .unset, .unset] [(.ref a5)]))
  refine G.astoreN H1 (L' := #[.val (.ref p0), .val (.ref a5), .unset, .unset, .unset]) D10_3 (pc' := 4) rfl rfl rfl ?_
  refine G.aloadN H1 D10_4 (pc' := 5) rfl rfl rfl ?_
  refine G.arrlen H1 F9 D10_5 (pc' := 6) rfl ?_
  refine G.istoreN H1 (L' := #[.val (.ref p0), .val (.ref a5), .val (.int 2), .unset, .unset]) D10_6 (pc' := 7) rfl rfl ?_
  refine G.iconst H1 D10_7 (pc' := 8) rfl (v := 0) rfl ?_
  refine G.istoreN H1 (L' := #[.val (.ref p0), .val (.ref a5), .val (.int 2), .val (.int 0), .unset]) D10_8 (pc' := 9) rfl rfl ?_
  refine G.iloadN H1 D10_9 (pc' := 10) rfl rfl ?_
  refine G.iloadN H1 D10_10 (pc' := 11) rfl rfl ?_
  refine G.icmpNo H1 D10_11 (pc' := 14) rfl (by decide) ?_
  refine G.aloadN H1 D10_14 (pc' := 15) rfl rfl rfl ?_
  refine G.iloadN H1 D10_15 (pc' := 16) rfl rfl ?_
  refine G.aaloadG H1 F9 rfl (j := 0) (v := (.ref uu1)) (by decide) rfl D10_16 (pc' := 17) rfl ?_
  refine G.astore H1 (L' := #[.val (.ref p0), .val (.ref a5), .val (.int 2), .val (.int 0), .val (.ref uu1)]) D10_17 (pc' := 19) rfl rfl rfl ?_
  refine G.aload H1 D10_19 (pc' := 21) rfl rfl rfl ?_
  have B11 := Fld.ext H1.old.2 (hv8 V)
  refine G.getF H1 (wd57 V) Via.refl B11 D10_21 (pc' := 24) rfl ?_
  intro T12 H13
  refine G.aloadN H13 D10_24 (pc' := 25) rfl rfl rfl ?_
  have B14 := Str.ext H13.old.2 (hv22 V)
  have F15 := (Str.keep f0 K7 nin0 nin0)
  refine G.strEq H13 (strwEq V) (wd2 V) (wd59 V) (wd60 V) (wd62 V) (wd61 V) B14 F15 (hv17 V) (hv18 V) (rest := []) (W := 0) rfl rfl D10_25 (pc' := 28) rfl (by decide) (by decide) (by decide) (by decide) ?_ ?_
  ·
    intro T16 H17 c18
    refine G.ifNo H17 D10_28 (pc' := 31) rfl (by decide) ?_
    refine G.aload H17 D10_31 (pc' := 33) rfl rfl rfl ?_
    have K19 : Keep h0 h1_ [] := (Keep.trans (Keep.refl h0 []) K7 all0)
    exact G.retA H17 (t := (.object "bindery/bindings/BindingType")) rfl rfl rfl D10_33 (so := []) all0 (by decide) (by decide) ⟨c18, rfl, rfl, K19⟩
  ·
    intro T20 H21 c22
    exact absurd (lcs rfl (lcs rfl (lcs rfl (lcs rfl (lcs rfl (lcs rfl (lcs rfl (lcs rfl (lcs rfl (lcs rfl (lcs rfl (lcs cc1 rfl)))))))))))) c22
set_option maxRecDepth 65536 in
set_option maxHeartbeats 40000000 in
theorem m29_named (V : Env1 Z a0 n0 uu0 uu1 uu2 uu3 uu4 uu5 uu6 uu7 uu8 uu9 uu10 uu11) (p0 : Addr) (p1 : Addr) (c0 : ClassId) (x0 : Int32) (h0 : Heap) (hO : Old Z n0 h0) (f0 : Str Z h0 p0 p1 c0 [100, 105, 114, 101, 99, 116, 111, 114, 121, 45, 105, x0]) (cc1 : ¬ 110 = x0) :
    Met Z a0 ELs True n0 l (⟨"bindery/bindings/BindingType", "named", "(Ljava/lang/String;)Lbindery/bindings/BindingType;"⟩ : MethodName) prog_4_method_4_code 5 (Option.some (FieldType.object "bindery/bindings/BindingType")) ({ frames := 2, cells := 1, slots := 2, locals := 28 } : Room) #[(.ref p0)] h0 [] (fun v h so => (¬ [100, 105, 114, 101, 99, 116, 111, 114, 121, 45, 105, 110] = [100, 105, 114, 101, 99, 116, 111, 114, 121, 45, 105, x0] ∧ v = some .null ∧ so = [] ∧ Keep h0 h [])) := by
  refine Met.of (EWl V) (by first | decide +kernel | rfl) hO (L0 := #[.val (.ref p0), .unset, .unset, .unset, .unset]) rfl ?_
  intro p e s m below meth c T H
  show Go p e below _ (T.setTop (mkF m 0 #[.val (.ref p0), .unset, .unset, .unset, .unset] []))
  refine G.callS H (m2_values V h0 H.old) (wd41 V) (wd42 V) (wd36 V) (wd43 V) (by decide) (argsL := []) (rest := []) (W := 0) rfl rfl (lenOf (pd_1) rfl) rfl rfl D10_0 (pc' := 3) rfl (by decide) (by decide) (by decide) (by decide) all0 ?_
  intro T1 h1_ v2 s3 H1 Q4
  obtain ⟨a5, k6, rfl, rfl, K7, g8, F9, F10⟩ := Q4
  have na5 : n0 ≤ a5 := Nat.le_trans H.le g8
  show Go p e below _ (T1.setTop (mkF m 3 #[.val (.ref p0), .unset, .unset, .unset, .unset] [(.ref a5)]))
  refine G.astoreN H1 (L' := #[.val (.ref p0), .val (.ref a5), .unset, .unset, .unset]) D10_3 (pc' := 4) rfl rfl rfl ?_
  refine G.aloadN H1 D10_4 (pc' := 5) rfl rfl rfl ?_
  refine G.arrlen H1 F9 D10_5 (pc' := 6) rfl ?_
  refine G.istoreN H1 (L' := #[.val (.ref p0), .val (.ref a5), .val (.int 2), .unset, .unset]) D10_6 (pc' := 7) rfl rfl ?_
  refine G.iconst H1 D10_7 (pc' := 8) rfl (v := 0) rfl ?_
  refine G.istoreN H1 (L' := #[.val (.ref p0), .val (.ref a5), .val (.int 2), .val (.int 0), .unset]) D10_8 (pc' := 9) rfl rfl ?_
  refine G.iloadN H1 D10_9 (pc' := 10) rfl rfl ?_
  refine G.iloadN H1 D10_10 (pc' := 11) rfl rfl ?_
  refine G.icmpNo H1 D10_11 (pc' := 14) rfl (by decide) ?_
  refine G.aloadN H1 D10_14 (pc' := 15) rfl rfl rfl ?_
  refine G.iloadN H1 D10_15 (pc' := 16) rfl rfl ?_
  refine G.aaloadG H1 F9 rfl (j := 0) (v := (.ref uu1)) (by decide) rfl D10_16 (pc' := 17) rfl ?_
  refine G.astore H1 (L' := #[.val (.ref p0), .val (.ref a5), .val (.int 2), .val (.int 0), .val (.ref uu1)]) D10_17 (pc' := 19) rfl rfl rfl ?_
  refine G.aload H1 D10_19 (pc' := 21) rfl rfl rfl ?_
  have B11 := Fld.ext H1.old.2 (hv8 V)
  refine G.getF H1 (wd57 V) Via.refl B11 D10_21 (pc' := 24) rfl ?_
  intro T12 H13
  refine G.aloadN H13 D10_24 (pc' := 25) rfl rfl rfl ?_
  have B14 := Str.ext H13.old.2 (hv22 V)
  have F15 := (Str.keep f0 K7 nin0 nin0)
  refine G.strEq H13 (strwEq V) (wd2 V) (wd59 V) (wd60 V) (wd62 V) (wd61 V) B14 F15 (hv17 V) (hv18 V) (rest := []) (W := 0) rfl rfl D10_25 (pc' := 28) rfl (by decide) (by decide) (by decide) (by decide) ?_ ?_
  ·
    intro T16 H17 c18
    exact absurd (List.cons.inj (List.cons.inj (List.cons.inj (List.cons.inj (List.cons.inj (List.cons.inj (List.cons.inj (List.cons.inj (List.cons.inj (List.cons.inj (List.cons.inj (List.cons.inj c18).2).2).2).2).2).2).2).2).2).2).2).1 cc1
  ·
    intro T19 H20 c21
    refine G.ifYes H20 D10_28 (by decide) (by decide) (pc' := 34) rfl ?_
    refine G.iinc H20 (v := 1) (L' := #[.val (.ref p0), .val (.ref a5), .val (.int 2), .val (.int 1), .val (.ref uu1)]) D10_34 (pc' := 37) rfl rfl rfl rfl ?_
    refine G.goto H20 D10_37 (by decide) (pc' := 9) rfl ?_
    show Go p e below _ (T19.setTop (mkF m 9 #[.val (.ref p0), .val (.ref a5), .val (.int 2), .val (.int 1), .val (.ref uu1)] []))
    refine G.iloadN H20 D10_9 (pc' := 10) rfl rfl ?_
    refine G.iloadN H20 D10_10 (pc' := 11) rfl rfl ?_
    refine G.icmpNo H20 D10_11 (pc' := 14) rfl (by decide) ?_
    refine G.aloadN H20 D10_14 (pc' := 15) rfl rfl rfl ?_
    refine G.iloadN H20 D10_15 (pc' := 16) rfl rfl ?_
    refine G.aaloadG H20 F9 rfl (j := 1) (v := (.ref uu2)) (by decide) rfl D10_16 (pc' := 17) rfl ?_
    refine G.astore H20 (L' := #[.val (.ref p0), .val (.ref a5), .val (.int 2), .val (.int 1), .val (.ref uu2)]) D10_17 (pc' := 19) rfl rfl rfl ?_
    refine G.aload H20 D10_19 (pc' := 21) rfl rfl rfl ?_
    have B22 := Fld.ext H20.old.2 (hv6 V)
    refine G.getF H20 (wd57 V) Via.refl B22 D10_21 (pc' := 24) rfl ?_
    intro T23 H24
    refine G.aloadN H24 D10_24 (pc' := 25) rfl rfl rfl ?_
    have B25 := Str.ext H24.old.2 (hv21 V)
    refine G.strEq H24 (strwEq V) (wd2 V) (wd59 V) (wd60 V) (wd62 V) (wd61 V) B25 F15 (hv17 V) (hv18 V) (rest := []) (W := 0) rfl rfl D10_25 (pc' := 28) rfl (by decide) (by decide) (by decide) (by decide) ?_ ?_
    ·
      intro T26 H27 c28
      exact absurd c28 (by intro qq; simp at qq)
    ·
      intro T29 H30 c31
      refine G.ifYes H30 D10_28 (by decide) (by decide) (pc' := 34) rfl ?_
      refine G.iinc H30 (v := 2) (L' := #[.val (.ref p0), .val (.ref a5), .val (.int 2), .val (.int 2), .val (.ref uu2)]) D10_34 (pc' := 37) rfl rfl rfl rfl ?_
      refine G.goto H30 D10_37 (by decide) (pc' := 9) rfl ?_
      show Go p e below _ (T29.setTop (mkF m 9 #[.val (.ref p0), .val (.ref a5), .val (.int 2), .val (.int 2), .val (.ref uu2)] []))
      refine G.iloadN H30 D10_9 (pc' := 10) rfl rfl ?_
      refine G.iloadN H30 D10_10 (pc' := 11) rfl rfl ?_
      refine G.icmpYes H30 D10_11 (by decide) (by decide) (pc' := 40) rfl ?_
      refine G.aconstNull H30 D10_40 (pc' := 41) rfl ?_
      have K32 : Keep h0 h1_ [] := (Keep.trans (Keep.refl h0 []) K7 all0)
      exact G.retA H30 (t := (.object "bindery/bindings/BindingType")) rfl rfl rfl D10_41 (so := []) all0 (by decide) (by decide) ⟨c21, rfl, rfl, K32⟩
set_option maxRecDepth 65536 in
set_option maxHeartbeats 40000000 in
theorem cut30_97 (V : Env1 Z a0 n0 uu0 uu1 uu2 uu3 uu4 uu5 uu6 uu7 uu8 uu9 uu10 uu11) (x90097 : Int32) (x0 : Int32) (x1 : Int32) (x2 : Int32) (x3 : Int32) (p0 : Addr) (c0 : ClassId) (H : Hs p l e room_1 s m as' below meth c Z a0 ELs True x.cls n0 code maxLocals ret x.name T h0 1 12 []) (sp : x90097 = 0 ∨ x90097 = 1 ∨ x90097 = 2 ∨ x90097 = 3 ∨ x90097 = 4 ∨ x90097 = 5 ∨ x90097 = 6 ∨ x90097 = 7 ∨ x90097 = 8 ∨ x90097 = 9 ∨ x90097 = 10 ∨ x90097 = 11) (f1 : Arv Z h0 p0 c0 .char 12 [(.int 100), (.int 105), (.int 114), (.int 101), (.int 99), (.int 116), (.int 111), (.int 114), (.int 121), (.int 45), (.int 105), (.int 110)] (.int 0)) (g2 : n0 ≤ p0) :
    Go p e below (FinP s below Z ELs True n0 room_1.cells room_1.slots (fun v h so => v = some (.int 1))) (T.setTop (mkF m 97 #[.val (.int x0), .val (.int x1), .val (.int x2), .val (.int x3), .val (.int (x2 &&& 255)), .val (.int (x3 &&& 255)), .val (.int (x1 &&& 2147483647)), .val (.int (x0 &&& 7)), .unset, .unset, .val (.ref p0), .val (.int x90097), .unset] [])) := by
  rcases sp with rfl | rfl | rfl | rfl | rfl | rfl | rfl | rfl | rfl | rfl | rfl | rfl
  ·
    refine G.aload H at_97 (pc' := 99) rfl rfl rfl ?_
    refine G.iload H at_99 (pc' := 101) rfl rfl ?_
    refine G.caloadG H f1 (j := 0) (v := (.int 100)) (by decide) rfl at_101 (pc' := 102) rfl ?_
    refine G.istore H (L' := #[.val (.int x0), .val (.int x1), .val (.int x2), .val (.int x3), .val (.int (x2 &&& 255)), .val (.int (x3 &&& 255)), .val (.int (x1 &&& 2147483647)), .val (.int (x0 &&& 7)), .unset, .unset, .val (.ref p0), .val (.int 0), .val (.int 100)]) at_102 (pc' := 104) rfl rfl ?_
    refine G.aload H at_104 (pc' := 106) rfl rfl rfl ?_
    refine G.iload H at_106 (pc' := 108) rfl rfl ?_
    refine G.iload H at_108 (pc' := 110) rfl rfl ?_
    refine G.stC H f1 (by decide) (i := 0) rfl lB g2 (y := (x2 &&& 255)) (own_narC (own_u16 (own_and255 _))) at_110 (pc' := 111) rfl ?_
    intro T1 h1_ H1 W2 A3
    replace A3 : Arv Z h1_ p0 c0 .char 12 [(.int (x2 &&& 255)), (.int 105), (.int 114), (.int 101), (.int 99), (.int 116), (.int 111), (.int 114), (.int 121), (.int 45), (.int 105), (.int 110)] (.int 0) := A3
    refine G.new H1 (wd1 V) (wd2 V) (wd3 V) at_111 (pc' := 114) rfl (by decide) (by decide) ?_
    intro T4 h4_ a5 ga5 H4 E6 A7 D8
    have na5 := H1.nle ga5
    refine G.dup H4 at_114 (pc' := 115) rfl rfl ?_
    refine G.aload H4 at_115 (pc' := 117) rfl rfl rfl ?_
    have F9 := (Arv.ext A3 E6)
    have F10 : Fld Z h4_ a5 "java/lang/String" "value" "[B" .null := D8 (Or.inr (wd34 V)) (ty := (.array .byte)) (by decide)
    have F11 : Fld Z h4_ a5 "java/lang/String" "coder" "B" (.int 0) := D8 (Or.inr (wd32 V)) (ty := .byte) (by decide)
    refine G.newStr H4 (strw V) (wd2 V) (wd9 V) (wd10 V) (cs := [(x2 &&& 255), 105, 114, 101, 99, 116, 111, 114, 121, 45, 105, 110]) (n := 12) na5 A7 F10 F11 F9 (hv17 V) (hv18 V) rfl rfl (by decide) (by decide) (cbS (own_and255 _) (cbS (by decide) (cbS (by decide) (cbS (by decide) (cbS (by decide) (cbS (by decide) (cbS (by decide) (cbS (by decide) (cbS (by decide) (cbS (by decide) (cbS (by decide) (cbS (by decide) cb0)))))))))))) (Sf.mem (mG (i := 0) rfl)) (rest := [(.ref a5)]) (W := 1) rfl rfl at_117 (pc' := 120) rfl (by decide) (by decide) (by decide) (by decide) ?_
    intro T12 h12_ t13 k14 g17 H12 K15 S16
    have nt13 : n0 ≤ t13 := Nat.le_trans H4.le g17
    refine G.astore H12 (L' := #[.val (.int x0), .val (.int x1), .val (.int x2), .val (.int x3), .val (.int (x2 &&& 255)), .val (.int (x3 &&& 255)), .val (.int (x1 &&& 2147483647)), .val (.int (x0 &&& 7)), .val (.ref a5), .unset, .val (.ref p0), .val (.int 0), .val (.int 100)]) at_120 (pc' := 122) rfl rfl rfl ?_
    refine G.iload H12 at_122 (pc' := 124) rfl rfl ?_
    refine G.iload H12 at_124 (pc' := 126) rfl rfl ?_
    by_cases c18 : (x2 &&& 255) = 100
    ·
      refine G.icmpNo H12 at_126 (pc' := 129) rfl (XT.ii_ne_f c18) ?_
      refine G.getS H12 (wd35 V) Via.refl (Sta.ext H12.old.2 (hv2 V)) at_129 (pc' := 132) rfl ?_
      intro T19 H20
      refine G.goto H20 at_132 (by decide) (pc' := 136) rfl ?_
      refine G.astore H20 (L' := #[.val (.int x0), .val (.int x1), .val (.int x2), .val (.int x3), .val (.int (x2 &&& 255)), .val (.int (x3 &&& 255)), .val (.int (x1 &&& 2147483647)), .val (.int (x0 &&& 7)), .val (.ref a5), .val (.ref uu1), .val (.ref p0), .val (.int 0), .val (.int 100)]) at_136 (pc' := 138) rfl rfl rfl ?_
      refine G.goto H20 at_138 (by decide) (pc' := 922) rfl ?_
      refine G.aload H20 at_922 (pc' := 924) rfl rfl rfl ?_
      refine G.callS H20 (m6_named V a5 t13 k14 (x2 &&& 255) h12_ H20.old S16 (Eq.symm c18)) (wd38 V) (wd39 V) (wd36 V) (wd40 V) (by decide) (argsL := [(.ref a5)]) (rest := []) (W := 0) rfl rfl (lenOf (pd_2) rfl) rfl rfl at_924 (pc' := 927) rfl (by decide) (by decide) (by decide) (by decide) all0 ?_
      intro T21 h21_ v22 s23 H21 Q24
      obtain ⟨c25, rfl, rfl, K26⟩ := Q24
      show Go p e below _ (T21.setTop (mkF m 927 #[.val (.int x0), .val (.int x1), .val (.int x2), .val (.int x3), .val (.int (x2 &&& 255)), .val (.int (x3 &&& 255)), .val (.int (x1 &&& 2147483647)), .val (.int (x0 &&& 7)), .val (.ref a5), .val (.ref uu1), .val (.ref p0), .val (.int 0), .val (.int 100)] [(.ref uu1)]))
      refine G.aload H21 at_927 (pc' := 929) rfl rfl rfl ?_
      refine G.acmpNo H21 at_929 (pc' := 932) rfl rfl rfl (XT.aa_ne_f rfl) ?_
      refine G.iconst H21 at_932 (pc' := 933) rfl (v := 1) rfl ?_
      refine G.goto H21 at_933 (by decide) (pc' := 937) rfl ?_
      exact G.retN H21 (t := .boolean) rfl (by decide) at_937 (so := []) all0 (by decide) (by decide) rfl
    ·
      refine G.icmpYes H12 at_126 (XT.ii_ne_t c18) (by decide) (pc' := 135) rfl ?_
      refine G.aconstNull H12 at_135 (pc' := 136) rfl ?_
      refine G.astore H12 (L' := #[.val (.int x0), .val (.int x1), .val (.int x2), .val (.int x3), .val (.int (x2 &&& 255)), .val (.int (x3 &&& 255)), .val (.int (x1 &&& 2147483647)), .val (.int (x0 &&& 7)), .val (.ref a5), .val .null, .val (.ref p0), .val (.int 0), .val (.int 100)]) at_136 (pc' := 138) rfl rfl rfl ?_
      refine G.goto H12 at_138 (by decide) (pc' := 922) rfl ?_
      refine G.aload H12 at_922 (pc' := 924) rfl rfl rfl ?_
      refine G.callS H12 (m7_named V a5 t13 k14 (x2 &&& 255) h12_ H12.old S16 (fun q => c18 (Eq.symm q))) (wd38 V) (wd39 V) (wd36 V) (wd40 V) (by decide) (argsL := [(.ref a5)]) (rest := []) (W := 0) rfl rfl (lenOf (pd_2) rfl) rfl rfl at_924 (pc' := 927) rfl (by decide) (by decide) (by decide) (by decide) all0 ?_
      intro T27 h27_ v28 s29 H27 Q30
      obtain ⟨c31, rfl, rfl, K32⟩ := Q30
      show Go p e below _ (T27.setTop (mkF m 927 #[.val (.int x0), .val (.int x1), .val (.int x2), .val (.int x3), .val (.int (x2 &&& 255)), .val (.int (x3 &&& 255)), .val (.int (x1 &&& 2147483647)), .val (.int (x0 &&& 7)), .val (.ref a5), .val .null, .val (.ref p0), .val (.int 0), .val (.int 100)] [.null]))
      refine G.aload H27 at_927 (pc' := 929) rfl rfl rfl ?_
      refine G.acmpNo H27 at_929 (pc' := 932) rfl rfl rfl (XT.aa_ne_f rfl) ?_
      refine G.iconst H27 at_932 (pc' := 933) rfl (v := 1) rfl ?_
      refine G.goto H27 at_933 (by decide) (pc' := 937) rfl ?_
      exact G.retN H27 (t := .boolean) rfl (by decide) at_937 (so := []) all0 (by decide) (by decide) rfl
  ·
    refine G.aload H at_97 (pc' := 99) rfl rfl rfl ?_
    refine G.iload H at_99 (pc' := 101) rfl rfl ?_
    refine G.caloadG H f1 (j := 1) (v := (.int 105)) (by decide) rfl at_101 (pc' := 102) rfl ?_
    refine G.istore H (L' := #[.val (.int x0), .val (.int x1), .val (.int x2), .val (.int x3), .val (.int (x2 &&& 255)), .val (.int (x3 &&& 255)), .val (.int (x1 &&& 2147483647)), .val (.int (x0 &&& 7)), .unset, .unset, .val (.ref p0), .val (.int 1), .val (.int 105)]) at_102 (pc' := 104) rfl rfl ?_
    refine G.aload H at_104 (pc' := 106) rfl rfl rfl ?_
    refine G.iload H at_106 (pc' := 108) rfl rfl ?_
    refine G.iload H at_108 (pc' := 110) rfl rfl ?_
    refine G.stC H f1 (by decide) (i := 1) rfl lB g2 (y := (x2 &&& 255)) (own_narC (own_u16 (own_and255 _))) at_110 (pc' := 111) rfl ?_
    intro T33 h33_ H33 W34 A35
    replace A35 : Arv Z h33_ p0 c0 .char 12 [(.int 100), (.int (x2 &&& 255)), (.int 114), (.int 101), (.int 99), (.int 116), (.int 111), (.int 114), (.int 121), (.int 45), (.int 105), (.int 110)] (.int 0) := A35
    refine G.new H33 (wd1 V) (wd2 V) (wd3 V) at_111 (pc' := 114) rfl (by decide) (by decide) ?_
    intro T36 h36_ a37 ga37 H36 E38 A39 D40
    have na37 := H33.nle ga37
    refine G.dup H36 at_114 (pc' := 115) rfl rfl ?_
    refine G.aload H36 at_115 (pc' := 117) rfl rfl rfl ?_
    have F41 := (Arv.ext A35 E38)
    have F42 : Fld Z h36_ a37 "java/lang/String" "value" "[B" .null := D40 (Or.inr (wd34 V)) (ty := (.array .byte)) (by decide)
    have F43 : Fld Z h36_ a37 "java/lang/String" "coder" "B" (.int 0) := D40 (Or.inr (wd32 V)) (ty := .byte) (by decide)
    refine G.newStr H36 (strw V) (wd2 V) (wd9 V) (wd10 V) (cs := [100, (x2 &&& 255), 114, 101, 99, 116, 111, 114, 121, 45, 105, 110]) (n := 12) na37 A39 F42 F43 F41 (hv17 V) (hv18 V) rfl rfl (by decide) (by decide) (cbS (by decide) (cbS (own_and255 _) (cbS (by decide) (cbS (by decide) (cbS (by decide) (cbS (by decide) (cbS (by decide) (cbS (by decide) (cbS (by decide) (cbS (by decide) (cbS (by decide) (cbS (by decide) cb0)))))))))))) (Sf.mem (mG (i := 0) rfl)) (rest := [(.ref a37)]) (W := 1) rfl rfl at_117 (pc' := 120) rfl (by decide) (by decide) (by decide) (by decide) ?_
    intro T44 h44_ t45 k46 g49 H44 K47 S48
    have nt45 : n0 ≤ t45 := Nat.le_trans H36.le g49
    refine G.astore H44 (L' := #[.val (.int x0), .val (.int x1), .val (.int x2), .val (.int x3), .val (.int (x2 &&& 255)), .val (.int (x3 &&& 255)), .val (.int (x1 &&& 2147483647)), .val (.int (x0 &&& 7)), .val (.ref a37), .unset, .val (.ref p0), .val (.int 1), .val (.int 105)]) at_120 (pc' := 122) rfl rfl rfl ?_
    refine G.iload H44 at_122 (pc' := 124) rfl rfl ?_
    refine G.iload H44 at_124 (pc' := 126) rfl rfl ?_
    by_cases c50 : (x2 &&& 255) = 105
    ·
      refine G.icmpNo H44 at_126 (pc' := 129) rfl (XT.ii_ne_f c50) ?_
      refine G.getS H44 (wd35 V) Via.refl (Sta.ext H44.old.2 (hv2 V)) at_129 (pc' := 132) rfl ?_
      intro T51 H52
      refine G.goto H52 at_132 (by decide) (pc' := 136) rfl ?_
      refine G.astore H52 (L' := #[.val (.int x0), .val (.int x1), .val (.int x2), .val (.int x3), .val (.int (x2 &&& 255)), .val (.int (x3 &&& 255)), .val (.int (x1 &&& 2147483647)), .val (.int (x0 &&& 7)), .val (.ref a37), .val (.ref uu1), .val (.ref p0), .val (.int 1), .val (.int 105)]) at_136 (pc' := 138) rfl rfl rfl ?_
      refine G.goto H52 at_138 (by decide) (pc' := 922) rfl ?_
      refine G.aload H52 at_922 (pc' := 924) rfl rfl rfl ?_
      refine G.callS H52 (m8_named V a37 t45 k46 (x2 &&& 255) h44_ H52.old S48 (Eq.symm c50)) (wd38 V) (wd39 V) (wd36 V) (wd40 V) (by decide) (argsL := [(.ref a37)]) (rest := []) (W := 0) rfl rfl (lenOf (pd_2) rfl) rfl rfl at_924 (pc' := 927) rfl (by decide) (by decide) (by decide) (by decide) all0 ?_
      intro T53 h53_ v54 s55 H53 Q56
      obtain ⟨c57, rfl, rfl, K58⟩ := Q56
      show Go p e below _ (T53.setTop (mkF m 927 #[.val (.int x0), .val (.int x1), .val (.int x2), .val (.int x3), .val (.int (x2 &&& 255)), .val (.int (x3 &&& 255)), .val (.int (x1 &&& 2147483647)), .val (.int (x0 &&& 7)), .val (.ref a37), .val (.ref uu1), .val (.ref p0), .val (.int 1), .val (.int 105)] [(.ref uu1)]))
      refine G.aload H53 at_927 (pc' := 929) rfl rfl rfl ?_
      refine G.acmpNo H53 at_929 (pc' := 932) rfl rfl rfl (XT.aa_ne_f rfl) ?_
      refine G.iconst H53 at_932 (pc' := 933) rfl (v := 1) rfl ?_
      refine G.goto H53 at_933 (by decide) (pc' := 937) rfl ?_
      exact G.retN H53 (t := .boolean) rfl (by decide) at_937 (so := []) all0 (by decide) (by decide) rfl
    ·
      refine G.icmpYes H44 at_126 (XT.ii_ne_t c50) (by decide) (pc' := 135) rfl ?_
      refine G.aconstNull H44 at_135 (pc' := 136) rfl ?_
      refine G.astore H44 (L' := #[.val (.int x0), .val (.int x1), .val (.int x2), .val (.int x3), .val (.int (x2 &&& 255)), .val (.int (x3 &&& 255)), .val (.int (x1 &&& 2147483647)), .val (.int (x0 &&& 7)), .val (.ref a37), .val .null, .val (.ref p0), .val (.int 1), .val (.int 105)]) at_136 (pc' := 138) rfl rfl rfl ?_
      refine G.goto H44 at_138 (by decide) (pc' := 922) rfl ?_
      refine G.aload H44 at_922 (pc' := 924) rfl rfl rfl ?_
      refine G.callS H44 (m9_named V a37 t45 k46 (x2 &&& 255) h44_ H44.old S48 (fun q => c50 (Eq.symm q))) (wd38 V) (wd39 V) (wd36 V) (wd40 V) (by decide) (argsL := [(.ref a37)]) (rest := []) (W := 0) rfl rfl (lenOf (pd_2) rfl) rfl rfl at_924 (pc' := 927) rfl (by decide) (by decide) (by decide) (by decide) all0 ?_
      intro T59 h59_ v60 s61 H59 Q62
      obtain ⟨c63, rfl, rfl, K64⟩ := Q62
      show Go p e below _ (T59.setTop (mkF m 927 #[.val (.int x0), .val (.int x1), .val (.int x2), .val (.int x3), .val (.int (x2 &&& 255)), .val (.int (x3 &&& 255)), .val (.int (x1 &&& 2147483647)), .val (.int (x0 &&& 7)), .val (.ref a37), .val .null, .val (.ref p0), .val (.int 1), .val (.int 105)] [.null]))
      refine G.aload H59 at_927 (pc' := 929) rfl rfl rfl ?_
      refine G.acmpNo H59 at_929 (pc' := 932) rfl rfl rfl (XT.aa_ne_f rfl) ?_
      refine G.iconst H59 at_932 (pc' := 933) rfl (v := 1) rfl ?_
      refine G.goto H59 at_933 (by decide) (pc' := 937) rfl ?_
      exact G.retN H59 (t := .boolean) rfl (by decide) at_937 (so := []) all0 (by decide) (by decide) rfl
  ·
    refine G.aload H at_97 (pc' := 99) rfl rfl rfl ?_
    refine G.iload H at_99 (pc' := 101) rfl rfl ?_
    refine G.caloadG H f1 (j := 2) (v := (.int 114)) (by decide) rfl at_101 (pc' := 102) rfl ?_
    refine G.istore H (L' := #[.val (.int x0), .val (.int x1), .val (.int x2), .val (.int x3), .val (.int (x2 &&& 255)), .val (.int (x3 &&& 255)), .val (.int (x1 &&& 2147483647)), .val (.int (x0 &&& 7)), .unset, .unset, .val (.ref p0), .val (.int 2), .val (.int 114)]) at_102 (pc' := 104) rfl rfl ?_
    refine G.aload H at_104 (pc' := 106) rfl rfl rfl ?_
    refine G.iload H at_106 (pc' := 108) rfl rfl ?_
    refine G.iload H at_108 (pc' := 110) rfl rfl ?_
    refine G.stC H f1 (by decide) (i := 2) rfl lB g2 (y := (x2 &&& 255)) (own_narC (own_u16 (own_and255 _))) at_110 (pc' := 111) rfl ?_
    intro T65 h65_ H65 W66 A67
    replace A67 : Arv Z h65_ p0 c0 .char 12 [(.int 100), (.int 105), (.int (x2 &&& 255)), (.int 101), (.int 99), (.int 116), (.int 111), (.int 114), (.int 121), (.int 45), (.int 105), (.int 110)] (.int 0) := A67
    refine G.new H65 (wd1 V) (wd2 V) (wd3 V) at_111 (pc' := 114) rfl (by decide) (by decide) ?_
    intro T68 h68_ a69 ga69 H68 E70 A71 D72
    have na69 := H65.nle ga69
    refine G.dup H68 at_114 (pc' := 115) rfl rfl ?_
    refine G.aload H68 at_115 (pc' := 117) rfl rfl rfl ?_
    have F73 := (Arv.ext A67 E70)
    have F74 : Fld Z h68_ a69 "java/lang/String" "value" "[B" .null := D72 (Or.inr (wd34 V)) (ty := (.array .byte)) (by decide)
    have F75 : Fld Z h68_ a69 "java/lang/String" "coder" "B" (.int 0) := D72 (Or.inr (wd32 V)) (ty := .byte) (by decide)
    refine G.newStr H68 (strw V) (wd2 V) (wd9 V) (wd10 V) (cs := [100, 105, (x2 &&& 255), 101, 99, 116, 111, 114, 121, 45, 105, 110]) (n := 12) na69 A71 F74 F75 F73 (hv17 V) (hv18 V) rfl rfl (by decide) (by decide) (cbS (by decide) (cbS (by decide) (cbS (own_and255 _) (cbS (by decide) (cbS (by decide) (cbS (by decide) (cbS (by decide) (cbS (by decide) (cbS (by decide) (cbS (by decide) (cbS (by decide) (cbS (by decide) cb0)))))))))))) (Sf.mem (mG (i := 0) rfl)) (rest := [(.ref a69)]) (W := 1) rfl rfl at_117 (pc' := 120) rfl (by decide) (by decide) (by decide) (by decide) ?_
    intro T76 h76_ t77 k78 g81 H76 K79 S80
    have nt77 : n0 ≤ t77 := Nat.le_trans H68.le g81
    refine G.astore H76 (L' := #[.val (.int x0), .val (.int x1), .val (.int x2), .val (.int x3), .val (.int (x2 &&& 255)), .val (.int (x3 &&& 255)), .val (.int (x1 &&& 2147483647)), .val (.int (x0 &&& 7)), .val (.ref a69), .unset, .val (.ref p0), .val (.int 2), .val (.int 114)]) at_120 (pc' := 122) rfl rfl rfl ?_
    refine G.iload H76 at_122 (pc' := 124) rfl rfl ?_
    refine G.iload H76 at_124 (pc' := 126) rfl rfl ?_
    by_cases c82 : (x2 &&& 255) = 114
    ·
      refine G.icmpNo H76 at_126 (pc' := 129) rfl (XT.ii_ne_f c82) ?_
      refine G.getS H76 (wd35 V) Via.refl (Sta.ext H76.old.2 (hv2 V)) at_129 (pc' := 132) rfl ?_
      intro T83 H84
      refine G.goto H84 at_132 (by decide) (pc' := 136) rfl ?_
      refine G.astore H84 (L' := #[.val (.int x0), .val (.int x1), .val (.int x2), .val (.int x3), .val (.int (x2 &&& 255)), .val (.int (x3 &&& 255)), .val (.int (x1 &&& 2147483647)), .val (.int (x0 &&& 7)), .val (.ref a69), .val (.ref uu1), .val (.ref p0), .val (.int 2), .val (.int 114)]) at_136 (pc' := 138) rfl rfl rfl ?_
      refine G.goto H84 at_138 (by decide) (pc' := 922) rfl ?_
      refine G.aload H84 at_922 (pc' := 924) rfl rfl rfl ?_
      refine G.callS H84 (m10_named V a69 t77 k78 (x2 &&& 255) h76_ H84.old S80 (Eq.symm c82)) (wd38 V) (wd39 V) (wd36 V) (wd40 V) (by decide) (argsL := [(.ref a69)]) (rest := []) (W := 0) rfl rfl (lenOf (pd_2) rfl) rfl rfl at_924 (pc' := 927) rfl (by decide) (by decide) (by decide) (by decide) all0 ?_
      intro T85 h85_ v86 s87 H85 Q88
      obtain ⟨c89, rfl, rfl, K90⟩ := Q88
      show Go p e below _ (T85.setTop (mkF m 927 #[.val (.int x0), .val (.int x1), .val (.int x2), .val (.int x3), .val (.int (x2 &&& 255)), .val (.int (x3 &&& 255)), .val (.int (x1 &&& 2147483647)), .val (.int (x0 &&& 7)), .val (.ref a69), .val (.ref uu1), .val (.ref p0), .val (.int 2), .val (.int 114)] [(.ref uu1)]))
      refine G.aload H85 at_927 (pc' := 929) rfl rfl rfl ?_
      refine G.acmpNo H85 at_929 (pc' := 932) rfl rfl rfl (XT.aa_ne_f rfl) ?_
      refine G.iconst H85 at_932 (pc' := 933) rfl (v := 1) rfl ?_
      refine G.goto H85 at_933 (by decide) (pc' := 937) rfl ?_
      exact G.retN H85 (t := .boolean) rfl (by decide) at_937 (so := []) all0 (by decide) (by decide) rfl
    ·
      refine G.icmpYes H76 at_126 (XT.ii_ne_t c82) (by decide) (pc' := 135) rfl ?_
      refine G.aconstNull H76 at_135 (pc' := 136) rfl ?_
      refine G.astore H76 (L' := #[.val (.int x0), .val (.int x1), .val (.int x2), .val (.int x3), .val (.int (x2 &&& 255)), .val (.int (x3 &&& 255)), .val (.int (x1 &&& 2147483647)), .val (.int (x0 &&& 7)), .val (.ref a69), .val .null, .val (.ref p0), .val (.int 2), .val (.int 114)]) at_136 (pc' := 138) rfl rfl rfl ?_
      refine G.goto H76 at_138 (by decide) (pc' := 922) rfl ?_
      refine G.aload H76 at_922 (pc' := 924) rfl rfl rfl ?_
      refine G.callS H76 (m11_named V a69 t77 k78 (x2 &&& 255) h76_ H76.old S80 (fun q => c82 (Eq.symm q))) (wd38 V) (wd39 V) (wd36 V) (wd40 V) (by decide) (argsL := [(.ref a69)]) (rest := []) (W := 0) rfl rfl (lenOf (pd_2) rfl) rfl rfl at_924 (pc' := 927) rfl (by decide) (by decide) (by decide) (by decide) all0 ?_
      intro T91 h91_ v92 s93 H91 Q94
      obtain ⟨c95, rfl, rfl, K96⟩ := Q94
      show Go p e below _ (T91.setTop (mkF m 927 #[.val (.int x0), .val (.int x1), .val (.int x2), .val (.int x3), .val (.int (x2 &&& 255)), .val (.int (x3 &&& 255)), .val (.int (x1 &&& 2147483647)), .val (.int (x0 &&& 7)), .val (.ref a69), .val .null, .val (.ref p0), .val (.int 2), .val (.int 114)] [.null]))
      refine G.aload H91 at_927 (pc' := 929) rfl rfl rfl ?_
      refine G.acmpNo H91 at_929 (pc' := 932) rfl rfl rfl (XT.aa_ne_f rfl) ?_
      refine G.iconst H91 at_932 (pc' := 933) rfl (v := 1) rfl ?_
      refine G.goto H91 at_933 (by decide) (pc' := 937) rfl ?_
      exact G.retN H91 (t := .boolean) rfl (by decide) at_937 (so := []) all0 (by decide) (by decide) rfl
  ·
    refine G.aload H at_97 (pc' := 99) rfl rfl rfl ?_
    refine G.iload H at_99 (pc' := 101) rfl rfl ?_
    refine G.caloadG H f1 (j := 3) (v := (.int 101)) (by decide) rfl at_101 (pc' := 102) rfl ?_
    refine G.istore H (L' := #[.val (.int x0), .val (.int x1), .val (.int x2), .val (.int x3), .val (.int (x2 &&& 255)), .val (.int (x3 &&& 255)), .val (.int (x1 &&& 2147483647)), .val (.int (x0 &&& 7)), .unset, .unset, .val (.ref p0), .val (.int 3), .val (.int 101)]) at_102 (pc' := 104) rfl rfl ?_
    refine G.aload H at_104 (pc' := 106) rfl rfl rfl ?_
    refine G.iload H at_106 (pc' := 108) rfl rfl ?_
    refine G.iload H at_108 (pc' := 110) rfl rfl ?_
    refine G.stC H f1 (by decide) (i := 3) rfl lB g2 (y := (x2 &&& 255)) (own_narC (own_u16 (own_and255 _))) at_110 (pc' := 111) rfl ?_
    intro T97 h97_ H97 W98 A99
    replace A99 : Arv Z h97_ p0 c0 .char 12 [(.int 100), (.int 105), (.int 114), (.int (x2 &&& 255)), (.int 99), (.int 116), (.int 111), (.int 114), (.int 121), (.int 45), (.int 105), (.int 110)] (.int 0) := A99
    refine G.new H97 (wd1 V) (wd2 V) (wd3 V) at_111 (pc' := 114) rfl (by decide) (by decide) ?_
    intro T100 h100_ a101 ga101 H100 E102 A103 D104
    have na101 := H97.nle ga101
    refine G.dup H100 at_114 (pc' := 115) rfl rfl ?_
    refine G.aload H100 at_115 (pc' := 117) rfl rfl rfl ?_
    have F105 := (Arv.ext A99 E102)
    have F106 : Fld Z h100_ a101 "java/lang/String" "value" "[B" .null := D104 (Or.inr (wd34 V)) (ty := (.array .byte)) (by decide)
    have F107 : Fld Z h100_ a101 "java/lang/String" "coder" "B" (.int 0) := D104 (Or.inr (wd32 V)) (ty := .byte) (by decide)
    refine G.newStr H100 (strw V) (wd2 V) (wd9 V) (wd10 V) (cs := [100, 105, 114, (x2 &&& 255), 99, 116, 111, 114, 121, 45, 105, 110]) (n := 12) na101 A103 F106 F107 F105 (hv17 V) (hv18 V) rfl rfl (by decide) (by decide) (cbS (by decide) (cbS (by decide) (cbS (by decide) (cbS (own_and255 _) (cbS (by decide) (cbS (by decide) (cbS (by decide) (cbS (by decide) (cbS (by decide) (cbS (by decide) (cbS (by decide) (cbS (by decide) cb0)))))))))))) (Sf.mem (mG (i := 0) rfl)) (rest := [(.ref a101)]) (W := 1) rfl rfl at_117 (pc' := 120) rfl (by decide) (by decide) (by decide) (by decide) ?_
    intro T108 h108_ t109 k110 g113 H108 K111 S112
    have nt109 : n0 ≤ t109 := Nat.le_trans H100.le g113
    refine G.astore H108 (L' := #[.val (.int x0), .val (.int x1), .val (.int x2), .val (.int x3), .val (.int (x2 &&& 255)), .val (.int (x3 &&& 255)), .val (.int (x1 &&& 2147483647)), .val (.int (x0 &&& 7)), .val (.ref a101), .unset, .val (.ref p0), .val (.int 3), .val (.int 101)]) at_120 (pc' := 122) rfl rfl rfl ?_
    refine G.iload H108 at_122 (pc' := 124) rfl rfl ?_
    refine G.iload H108 at_124 (pc' := 126) rfl rfl ?_
    by_cases c114 : (x2 &&& 255) = 101
    ·
      refine G.icmpNo H108 at_126 (pc' := 129) rfl (XT.ii_ne_f c114) ?_
      refine G.getS H108 (wd35 V) Via.refl (Sta.ext H108.old.2 (hv2 V)) at_129 (pc' := 132) rfl ?_
      intro T115 H116
      refine G.goto H116 at_132 (by decide) (pc' := 136) rfl ?_
      refine G.astore H116 (L' := #[.val (.int x0), .val (.int x1), .val (.int x2), .val (.int x3), .val (.int (x2 &&& 255)), .val (.int (x3 &&& 255)), .val (.int (x1 &&& 2147483647)), .val (.int (x0 &&& 7)), .val (.ref a101), .val (.ref uu1), .val (.ref p0), .val (.int 3), .val (.int 101)]) at_136 (pc' := 138) rfl rfl rfl ?_
      refine G.goto H116 at_138 (by decide) (pc' := 922) rfl ?_
      refine G.aload H116 at_922 (pc' := 924) rfl rfl rfl ?_
      refine G.callS H116 (m12_named V a101 t109 k110 (x2 &&& 255) h108_ H116.old S112 (Eq.symm c114)) (wd38 V) (wd39 V) (wd36 V) (wd40 V) (by decide) (argsL := [(.ref a101)]) (rest := []) (W := 0) rfl rfl (lenOf (pd_2) rfl) rfl rfl at_924 (pc' := 927) rfl (by decide) (by decide) (by decide) (by decide) all0 ?_
      intro T117 h117_ v118 s119 H117 Q120
      obtain ⟨c121, rfl, rfl, K122⟩ := Q120
      show Go p e below _ (T117.setTop (mkF m 927 #[.val (.int x0), .val (.int x1), .val (.int x2), .val (.int x3), .val (.int (x2 &&& 255)), .val (.int (x3 &&& 255)), .val (.int (x1 &&& 2147483647)), .val (.int (x0 &&& 7)), .val (.ref a101), .val (.ref uu1), .val (.ref p0), .val (.int 3), .val (.int 101)] [(.ref uu1)]))
      refine G.aload H117 at_927 (pc' := 929) rfl rfl rfl ?_
      refine G.acmpNo H117 at_929 (pc' := 932) rfl rfl rfl (XT.aa_ne_f rfl) ?_
      refine G.iconst H117 at_932 (pc' := 933) rfl (v := 1) rfl ?_
      refine G.goto H117 at_933 (by decide) (pc' := 937) rfl ?_
      exact G.retN H117 (t := .boolean) rfl (by decide) at_937 (so := []) all0 (by decide) (by decide) rfl
    ·
      refine G.icmpYes H108 at_126 (XT.ii_ne_t c114) (by decide) (pc' := 135) rfl ?_
      refine G.aconstNull H108 at_135 (pc' := 136) rfl ?_
      refine G.astore H108 (L' := #[.val (.int x0), .val (.int x1), .val (.int x2), .val (.int x3), .val (.int (x2 &&& 255)), .val (.int (x3 &&& 255)), .val (.int (x1 &&& 2147483647)), .val (.int (x0 &&& 7)), .val (.ref a101), .val .null, .val (.ref p0), .val (.int 3), .val (.int 101)]) at_136 (pc' := 138) rfl rfl rfl ?_
      refine G.goto H108 at_138 (by decide) (pc' := 922) rfl ?_
      refine G.aload H108 at_922 (pc' := 924) rfl rfl rfl ?_
      refine G.callS H108 (m13_named V a101 t109 k110 (x2 &&& 255) h108_ H108.old S112 (fun q => c114 (Eq.symm q))) (wd38 V) (wd39 V) (wd36 V) (wd40 V) (by decide) (argsL := [(.ref a101)]) (rest := []) (W := 0) rfl rfl (lenOf (pd_2) rfl) rfl rfl at_924 (pc' := 927) rfl (by decide) (by decide) (by decide) (by decide) all0 ?_
      intro T123 h123_ v124 s125 H123 Q126
      obtain ⟨c127, rfl, rfl, K128⟩ := Q126
      show Go p e below _ (T123.setTop (mkF m 927 #[.val (.int x0), .val (.int x1), .val (.int x2), .val (.int x3), .val (.int (x2 &&& 255)), .val (.int (x3 &&& 255)), .val (.int (x1 &&& 2147483647)), .val (.int (x0 &&& 7)), .val (.ref a101), .val .null, .val (.ref p0), .val (.int 3), .val (.int 101)] [.null]))
      refine G.aload H123 at_927 (pc' := 929) rfl rfl rfl ?_
      refine G.acmpNo H123 at_929 (pc' := 932) rfl rfl rfl (XT.aa_ne_f rfl) ?_
      refine G.iconst H123 at_932 (pc' := 933) rfl (v := 1) rfl ?_
      refine G.goto H123 at_933 (by decide) (pc' := 937) rfl ?_
      exact G.retN H123 (t := .boolean) rfl (by decide) at_937 (so := []) all0 (by decide) (by decide) rfl
  ·
    refine G.aload H at_97 (pc' := 99) rfl rfl rfl ?_
    refine G.iload H at_99 (pc' := 101) rfl rfl ?_
    refine G.caloadG H f1 (j := 4) (v := (.int 99)) (by decide) rfl at_101 (pc' := 102) rfl ?_
    refine G.istore H (L' := #[.val (.int x0), .val (.int x1), .val (.int x2), .val (.int x3), .val (.int (x2 &&& 255)), .val (.int (x3 &&& 255)), .val (.int (x1 &&& 2147483647)), .val (.int (x0 &&& 7)), .unset, .unset, .val (.ref p0), .val (.int 4), .val (.int 99)]) at_102 (pc' := 104) rfl rfl ?_
    refine G.aload H at_104 (pc' := 106) rfl rfl rfl ?_
    refine G.iload H at_106 (pc' := 108) rfl rfl ?_
    refine G.iload H at_108 (pc' := 110) rfl rfl ?_
    refine G.stC H f1 (by decide) (i := 4) rfl lB g2 (y := (x2 &&& 255)) (own_narC (own_u16 (own_and255 _))) at_110 (pc' := 111) rfl ?_
    intro T129 h129_ H129 W130 A131
    replace A131 : Arv Z h129_ p0 c0 .char 12 [(.int 100), (.int 105), (.int 114), (.int 101), (.int (x2 &&& 255)), (.int 116), (.int 111), (.int 114), (.int 121), (.int 45), (.int 105), (.int 110)] (.int 0) := A131
    refine G.new H129 (wd1 V) (wd2 V) (wd3 V) at_111 (pc' := 114) rfl (by decide) (by decide) ?_
    intro T132 h132_ a133 ga133 H132 E134 A135 D136
    have na133 := H129.nle ga133
    refine G.dup H132 at_114 (pc' := 115) rfl rfl ?_
    refine G.aload H132 at_115 (pc' := 117) rfl rfl rfl ?_
    have F137 := (Arv.ext A131 E134)
    have F138 : Fld Z h132_ a133 "java/lang/String" "value" "[B" .null := D136 (Or.inr (wd34 V)) (ty := (.array .byte)) (by decide)
    have F139 : Fld Z h132_ a133 "java/lang/String" "coder" "B" (.int 0) := D136 (Or.inr (wd32 V)) (ty := .byte) (by decide)
    refine G.newStr H132 (strw V) (wd2 V) (wd9 V) (wd10 V) (cs := [100, 105, 114, 101, (x2 &&& 255), 116, 111, 114, 121, 45, 105, 110]) (n := 12) na133 A135 F138 F139 F137 (hv17 V) (hv18 V) rfl rfl (by decide) (by decide) (cbS (by decide) (cbS (by decide) (cbS (by decide) (cbS (by decide) (cbS (own_and255 _) (cbS (by decide) (cbS (by decide) (cbS (by decide) (cbS (by decide) (cbS (by decide) (cbS (by decide) (cbS (by decide) cb0)))))))))))) (Sf.mem (mG (i := 0) rfl)) (rest := [(.ref a133)]) (W := 1) rfl rfl at_117 (pc' := 120) rfl (by decide) (by decide) (by decide) (by decide) ?_
    intro T140 h140_ t141 k142 g145 H140 K143 S144
    have nt141 : n0 ≤ t141 := Nat.le_trans H132.le g145
    refine G.astore H140 (L' := #[.val (.int x0), .val (.int x1), .val (.int x2), .val (.int x3), .val (.int (x2 &&& 255)), .val (.int (x3 &&& 255)), .val (.int (x1 &&& 2147483647)), .val (.int (x0 &&& 7)), .val (.ref a133), .unset, .val (.ref p0), .val (.int 4), .val (.int 99)]) at_120 (pc' := 122) rfl rfl rfl ?_
    refine G.iload H140 at_122 (pc' := 124) rfl rfl ?_
    refine G.iload H140 at_124 (pc' := 126) rfl rfl ?_
    by_cases c146 : (x2 &&& 255) = 99
    ·
      refine G.icmpNo H140 at_126 (pc' := 129) rfl (XT.ii_ne_f c146) ?_
      refine G.getS H140 (wd35 V) Via.refl (Sta.ext H140.old.2 (hv2 V)) at_129 (pc' := 132) rfl ?_
      intro T147 H148
      refine G.goto H148 at_132 (by decide) (pc' := 136) rfl ?_
      refine G.astore H148 (L' := #[.val (.int x0), .val (.int x1), .val (.int x2), .val (.int x3), .val (.int (x2 &&& 255)), .val (.int (x3 &&& 255)), .val (.int (x1 &&& 2147483647)), .val (.int (x0 &&& 7)), .val (.ref a133), .val (.ref uu1), .val (.ref p0), .val (.int 4), .val (.int 99)]) at_136 (pc' := 138) rfl rfl rfl ?_
      refine G.goto H148 at_138 (by decide) (pc' := 922) rfl ?_
      refine G.aload H148 at_922 (pc' := 924) rfl rfl rfl ?_
      refine G.callS H148 (m14_named V a133 t141 k142 (x2 &&& 255) h140_ H148.old S144 (Eq.symm c146)) (wd38 V) (wd39 V) (wd36 V) (wd40 V) (by decide) (argsL := [(.ref a133)]) (rest := []) (W := 0) rfl rfl (lenOf (pd_2) rfl) rfl rfl at_924 (pc' := 927) rfl (by decide) (by decide) (by decide) (by decide) all0 ?_
      intro T149 h149_ v150 s151 H149 Q152
      obtain ⟨c153, rfl, rfl, K154⟩ := Q152
      show Go p e below _ (T149.setTop (mkF m 927 #[.val (.int x0), .val (.int x1), .val (.int x2), .val (.int x3), .val (.int (x2 &&& 255)), .val (.int (x3 &&& 255)), .val (.int (x1 &&& 2147483647)), .val (.int (x0 &&& 7)), .val (.ref a133), .val (.ref uu1), .val (.ref p0), .val (.int 4), .val (.int 99)] [(.ref uu1)]))
      refine G.aload H149 at_927 (pc' := 929) rfl rfl rfl ?_
      refine G.acmpNo H149 at_929 (pc' := 932) rfl rfl rfl (XT.aa_ne_f rfl) ?_
      refine G.iconst H149 at_932 (pc' := 933) rfl (v := 1) rfl ?_
      refine G.goto H149 at_933 (by decide) (pc' := 937) rfl ?_
      exact G.retN H149 (t := .boolean) rfl (by decide) at_937 (so := []) all0 (by decide) (by decide) rfl
    ·
      refine G.icmpYes H140 at_126 (XT.ii_ne_t c146) (by decide) (pc' := 135) rfl ?_
      refine G.aconstNull H140 at_135 (pc' := 136) rfl ?_
      refine G.astore H140 (L' := #[.val (.int x0), .val (.int x1), .val (.int x2), .val (.int x3), .val (.int (x2 &&& 255)), .val (.int (x3 &&& 255)), .val (.int (x1 &&& 2147483647)), .val (.int (x0 &&& 7)), .val (.ref a133), .val .null, .val (.ref p0), .val (.int 4), .val (.int 99)]) at_136 (pc' := 138) rfl rfl rfl ?_
      refine G.goto H140 at_138 (by decide) (pc' := 922) rfl ?_
      refine G.aload H140 at_922 (pc' := 924) rfl rfl rfl ?_
      refine G.callS H140 (m15_named V a133 t141 k142 (x2 &&& 255) h140_ H140.old S144 (fun q => c146 (Eq.symm q))) (wd38 V) (wd39 V) (wd36 V) (wd40 V) (by decide) (argsL := [(.ref a133)]) (rest := []) (W := 0) rfl rfl (lenOf (pd_2) rfl) rfl rfl at_924 (pc' := 927) rfl (by decide) (by decide) (by decide) (by decide) all0 ?_
      intro T155 h155_ v156 s157 H155 Q158
      obtain ⟨c159, rfl, rfl, K160⟩ := Q158
      show Go p e below _ (T155.setTop (mkF m 927 #[.val (.int x0), .val (.int x1), .val (.int x2), .val (.int x3), .val (.int (x2 &&& 255)), .val (.int (x3 &&& 255)), .val (.int (x1 &&& 2147483647)), .val (.int (x0 &&& 7)), .val (.ref a133), .val .null, .val (.ref p0), .val (.int 4), .val (.int 99)] [.null]))
      refine G.aload H155 at_927 (pc' := 929) rfl rfl rfl ?_
      refine G.acmpNo H155 at_929 (pc' := 932) rfl rfl rfl (XT.aa_ne_f rfl) ?_
      refine G.iconst H155 at_932 (pc' := 933) rfl (v := 1) rfl ?_
      refine G.goto H155 at_933 (by decide) (pc' := 937) rfl ?_
      exact G.retN H155 (t := .boolean) rfl (by decide) at_937 (so := []) all0 (by decide) (by decide) rfl
  ·
    refine G.aload H at_97 (pc' := 99) rfl rfl rfl ?_
    refine G.iload H at_99 (pc' := 101) rfl rfl ?_
    refine G.caloadG H f1 (j := 5) (v := (.int 116)) (by decide) rfl at_101 (pc' := 102) rfl ?_
    refine G.istore H (L' := #[.val (.int x0), .val (.int x1), .val (.int x2), .val (.int x3), .val (.int (x2 &&& 255)), .val (.int (x3 &&& 255)), .val (.int (x1 &&& 2147483647)), .val (.int (x0 &&& 7)), .unset, .unset, .val (.ref p0), .val (.int 5), .val (.int 116)]) at_102 (pc' := 104) rfl rfl ?_
    refine G.aload H at_104 (pc' := 106) rfl rfl rfl ?_
    refine G.iload H at_106 (pc' := 108) rfl rfl ?_
    refine G.iload H at_108 (pc' := 110) rfl rfl ?_
    refine G.stC H f1 (by decide) (i := 5) rfl lB g2 (y := (x2 &&& 255)) (own_narC (own_u16 (own_and255 _))) at_110 (pc' := 111) rfl ?_
    intro T161 h161_ H161 W162 A163
    replace A163 : Arv Z h161_ p0 c0 .char 12 [(.int 100), (.int 105), (.int 114), (.int 101), (.int 99), (.int (x2 &&& 255)), (.int 111), (.int 114), (.int 121), (.int 45), (.int 105), (.int 110)] (.int 0) := A163
    refine G.new H161 (wd1 V) (wd2 V) (wd3 V) at_111 (pc' := 114) rfl (by decide) (by decide) ?_
    intro T164 h164_ a165 ga165 H164 E166 A167 D168
    have na165 := H161.nle ga165
    refine G.dup H164 at_114 (pc' := 115) rfl rfl ?_
    refine G.aload H164 at_115 (pc' := 117) rfl rfl rfl ?_
    have F169 := (Arv.ext A163 E166)
    have F170 : Fld Z h164_ a165 "java/lang/String" "value" "[B" .null := D168 (Or.inr (wd34 V)) (ty := (.array .byte)) (by decide)
    have F171 : Fld Z h164_ a165 "java/lang/String" "coder" "B" (.int 0) := D168 (Or.inr (wd32 V)) (ty := .byte) (by decide)
    refine G.newStr H164 (strw V) (wd2 V) (wd9 V) (wd10 V) (cs := [100, 105, 114, 101, 99, (x2 &&& 255), 111, 114, 121, 45, 105, 110]) (n := 12) na165 A167 F170 F171 F169 (hv17 V) (hv18 V) rfl rfl (by decide) (by decide) (cbS (by decide) (cbS (by decide) (cbS (by decide) (cbS (by decide) (cbS (by decide) (cbS (own_and255 _) (cbS (by decide) (cbS (by decide) (cbS (by decide) (cbS (by decide) (cbS (by decide) (cbS (by decide) cb0)))))))))))) (Sf.mem (mG (i := 0) rfl)) (rest := [(.ref a165)]) (W := 1) rfl rfl at_117 (pc' := 120) rfl (by decide) (by decide) (by decide) (by decide) ?_
    intro T172 h172_ t173 k174 g177 H172 K175 S176
    have nt173 : n0 ≤ t173 := Nat.le_trans H164.le g177
    refine G.astore H172 (L' := #[.val (.int x0), .val (.int x1), .val (.int x2), .val (.int x3), .val (.int (x2 &&& 255)), .val (.int (x3 &&& 255)), .val (.int (x1 &&& 2147483647)), .val (.int (x0 &&& 7)), .val (.ref a165), .unset, .val (.ref p0), .val (.int 5), .val (.int 116)]) at_120 (pc' := 122) rfl rfl rfl ?_
    refine G.iload H172 at_122 (pc' := 124) rfl rfl ?_
    refine G.iload H172 at_124 (pc' := 126) rfl rfl ?_
    by_cases c178 : (x2 &&& 255) = 116
    ·
      refine G.icmpNo H172 at_126 (pc' := 129) rfl (XT.ii_ne_f c178) ?_
      refine G.getS H172 (wd35 V) Via.refl (Sta.ext H172.old.2 (hv2 V)) at_129 (pc' := 132) rfl ?_
      intro T179 H180
      refine G.goto H180 at_132 (by decide) (pc' := 136) rfl ?_
      refine G.astore H180 (L' := #[.val (.int x0), .val (.int x1), .val (.int x2), .val (.int x3), .val (.int (x2 &&& 255)), .val (.int (x3 &&& 255)), .val (.int (x1 &&& 2147483647)), .val (.int (x0 &&& 7)), .val (.ref a165), .val (.ref uu1), .val (.ref p0), .val (.int 5), .val (.int 116)]) at_136 (pc' := 138) rfl rfl rfl ?_
      refine G.goto H180 at_138 (by decide) (pc' := 922) rfl ?_
      refine G.aload H180 at_922 (pc' := 924) rfl rfl rfl ?_
      refine G.callS H180 (m16_named V a165 t173 k174 (x2 &&& 255) h172_ H180.old S176 (Eq.symm c178)) (wd38 V) (wd39 V) (wd36 V) (wd40 V) (by decide) (argsL := [(.ref a165)]) (rest := []) (W := 0) rfl rfl (lenOf (pd_2) rfl) rfl rfl at_924 (pc' := 927) rfl (by decide) (by decide) (by decide) (by decide) all0 ?_
      intro T181 h181_ v182 s183 H181 Q184
      obtain ⟨c185, rfl, rfl, K186⟩ := Q184
      show Go p e below _ (T181.setTop (mkF m 927 #[.val (.int x0), .val (.int x1), .val (.int x2), .val (.int x3), .val (.int (x2 &&& 255)), .val (.int (x3 &&& 255)), .val (.int (x1 &&& 2147483647)), .val (.int (x0 &&& 7)), .val (.ref a165), .val (.ref uu1), .val (.ref p0), .val (.int 5), .val (.int 116)] [(.ref uu1)]))
      refine G.aload H181 at_927 (pc' := 929) rfl rfl rfl ?_
      refine G.acmpNo H181 at_929 (pc' := 932) rfl rfl rfl (XT.aa_ne_f rfl) ?_
      refine G.iconst H181 at_932 (pc' := 933) rfl (v := 1) rfl ?_
      refine G.goto H181 at_933 (by decide) (pc' := 937) rfl ?_
      exact G.retN H181 (t := .boolean) rfl (by decide) at_937 (so := []) all0 (by decide) (by decide) rfl
    ·
      refine G.icmpYes H172 at_126 (XT.ii_ne_t c178) (by decide) (pc' := 135) rfl ?_
      refine G.aconstNull H172 at_135 (pc' := 136) rfl ?_
      refine G.astore H172 (L' := #[.val (.int x0), .val (.int x1), .val (.int x2), .val (.int x3), .val (.int (x2 &&& 255)), .val (.int (x3 &&& 255)), .val (.int (x1 &&& 2147483647)), .val (.int (x0 &&& 7)), .val (.ref a165), .val .null, .val (.ref p0), .val (.int 5), .val (.int 116)]) at_136 (pc' := 138) rfl rfl rfl ?_
      refine G.goto H172 at_138 (by decide) (pc' := 922) rfl ?_
      refine G.aload H172 at_922 (pc' := 924) rfl rfl rfl ?_
      refine G.callS H172 (m17_named V a165 t173 k174 (x2 &&& 255) h172_ H172.old S176 (fun q => c178 (Eq.symm q))) (wd38 V) (wd39 V) (wd36 V) (wd40 V) (by decide) (argsL := [(.ref a165)]) (rest := []) (W := 0) rfl rfl (lenOf (pd_2) rfl) rfl rfl at_924 (pc' := 927) rfl (by decide) (by decide) (by decide) (by decide) all0 ?_
      intro T187 h187_ v188 s189 H187 Q190
      obtain ⟨c191, rfl, rfl, K192⟩ := Q190
      show Go p e below _ (T187.setTop (mkF m 927 #[.val (.int x0), .val (.int x1), .val (.int x2), .val (.int x3), .val (.int (x2 &&& 255)), .val (.int (x3 &&& 255)), .val (.int (x1 &&& 2147483647)), .val (.int (x0 &&& 7)), .val (.ref a165), .val .null, .val (.ref p0), .val (.int 5), .val (.int 116)] [.null]))
      refine G.aload H187 at_927 (pc' := 929) rfl rfl rfl ?_
      refine G.acmpNo H187 at_929 (pc' := 932) rfl rfl rfl (XT.aa_ne_f rfl) ?_
      refine G.iconst H187 at_932 (pc' := 933) rfl (v := 1) rfl ?_
      refine G.goto H187 at_933 (by decide) (pc' := 937) rfl ?_
      exact G.retN H187 (t := .boolean) rfl (by decide) at_937 (so := []) all0 (by decide) (by decide) rfl
  ·
    refine G.aload H at_97 (pc' := 99) rfl rfl rfl ?_
    refine G.iload H at_99 (pc' := 101) rfl rfl ?_
    refine G.caloadG H f1 (j := 6) (v := (.int 111)) (by decide) rfl at_101 (pc' := 102) rfl ?_
    refine G.istore H (L' := #[.val (.int x0), .val (.int x1), .val (.int x2), .val (.int x3), .val (.int (x2 &&& 255)), .val (.int (x3 &&& 255)), .val (.int (x1 &&& 2147483647)), .val (.int (x0 &&& 7)), .unset, .unset, .val (.ref p0), .val (.int 6), .val (.int 111)]) at_102 (pc' := 104) rfl rfl ?_
    refine G.aload H at_104 (pc' := 106) rfl rfl rfl ?_
    refine G.iload H at_106 (pc' := 108) rfl rfl ?_
    refine G.iload H at_108 (pc' := 110) rfl rfl ?_
    refine G.stC H f1 (by decide) (i := 6) rfl lB g2 (y := (x2 &&& 255)) (own_narC (own_u16 (own_and255 _))) at_110 (pc' := 111) rfl ?_
    intro T193 h193_ H193 W194 A195
    replace A195 : Arv Z h193_ p0 c0 .char 12 [(.int 100), (.int 105), (.int 114), (.int 101), (.int 99), (.int 116), (.int (x2 &&& 255)), (.int 114), (.int 121), (.int 45), (.int 105), (.int 110)] (.int 0) := A195
    refine G.new H193 (wd1 V) (wd2 V) (wd3 V) at_111 (pc' := 114) rfl (by decide) (by decide) ?_
    intro T196 h196_ a197 ga197 H196 E198 A199 D200
    have na197 := H193.nle ga197
    refine G.dup H196 at_114 (pc' := 115) rfl rfl ?_
    refine G.aload H196 at_115 (pc' := 117) rfl rfl rfl ?_
    have F201 := (Arv.ext A195 E198)
    have F202 : Fld Z h196_ a197 "java/lang/String" "value" "[B" .null := D200 (Or.inr (wd34 V)) (ty := (.array .byte)) (by decide)
    have F203 : Fld Z h196_ a197 "java/lang/String" "coder" "B" (.int 0) := D200 (Or.inr (wd32 V)) (ty := .byte) (by decide)
    refine G.newStr H196 (strw V) (wd2 V) (wd9 V) (wd10 V) (cs := [100, 105, 114, 101, 99, 116, (x2 &&& 255), 114, 121, 45, 105, 110]) (n := 12) na197 A199 F202 F203 F201 (hv17 V) (hv18 V) rfl rfl (by decide) (by decide) (cbS (by decide) (cbS (by decide) (cbS (by decide) (cbS (by decide) (cbS (by decide) (cbS (by decide) (cbS (own_and255 _) (cbS (by decide) (cbS (by decide) (cbS (by decide) (cbS (by decide) (cbS (by decide) cb0)))))))))))) (Sf.mem (mG (i := 0) rfl)) (rest := [(.ref a197)]) (W := 1) rfl rfl at_117 (pc' := 120) rfl (by decide) (by decide) (by decide) (by decide) ?_
    intro T204 h204_ t205 k206 g209 H204 K207 S208
    have nt205 : n0 ≤ t205 := Nat.le_trans H196.le g209
    refine G.astore H204 (L' := #[.val (.int x0), .val (.int x1), .val (.int x2), .val (.int x3), .val (.int (x2 &&& 255)), .val (.int (x3 &&& 255)), .val (.int (x1 &&& 2147483647)), .val (.int (x0 &&& 7)), .val (.ref a197), .unset, .val (.ref p0), .val (.int 6), .val (.int 111)]) at_120 (pc' := 122) rfl rfl rfl ?_
    refine G.iload H204 at_122 (pc' := 124) rfl rfl ?_
    refine G.iload H204 at_124 (pc' := 126) rfl rfl ?_
    by_cases c210 : (x2 &&& 255) = 111
    ·
      refine G.icmpNo H204 at_126 (pc' := 129) rfl (XT.ii_ne_f c210) ?_
      refine G.getS H204 (wd35 V) Via.refl (Sta.ext H204.old.2 (hv2 V)) at_129 (pc' := 132) rfl ?_
      intro T211 H212
      refine G.goto H212 at_132 (by decide) (pc' := 136) rfl ?_
      refine G.astore H212 (L' := #[.val (.int x0), .val (.int x1), .val (.int x2), .val (.int x3), .val (.int (x2 &&& 255)), .val (.int (x3 &&& 255)), .val (.int (x1 &&& 2147483647)), .val (.int (x0 &&& 7)), .val (.ref a197), .val (.ref uu1), .val (.ref p0), .val (.int 6), .val (.int 111)]) at_136 (pc' := 138) rfl rfl rfl ?_
      refine G.goto H212 at_138 (by decide) (pc' := 922) rfl ?_
      refine G.aload H212 at_922 (pc' := 924) rfl rfl rfl ?_
      refine G.callS H212 (m18_named V a197 t205 k206 (x2 &&& 255) h204_ H212.old S208 (Eq.symm c210)) (wd38 V) (wd39 V) (wd36 V) (wd40 V) (by decide) (argsL := [(.ref a197)]) (rest := []) (W := 0) rfl rfl (lenOf (pd_2) rfl) rfl rfl at_924 (pc' := 927) rfl (by decide) (by decide) (by decide) (by decide) all0 ?_
      intro T213 h213_ v214 s215 H213 Q216
      obtain ⟨c217, rfl, rfl, K218⟩ := Q216
      show Go p e below _ (T213.setTop (mkF m 927 #[.val (.int x0), .val (.int x1), .val (.int x2), .val (.int x3), .val (.int (x2 &&& 255)), .val (.int (x3 &&& 255)), .val (.int (x1 &&& 2147483647)), .val (.int (x0 &&& 7)), .val (.ref a197), .val (.ref uu1), .val (.ref p0), .val (.int 6), .val (.int 111)] [(.ref uu1)]))
      refine G.aload H213 at_927 (pc' := 929) rfl rfl rfl ?_
      refine G.acmpNo H213 at_929 (pc' := 932) rfl rfl rfl (XT.aa_ne_f rfl) ?_
      refine G.iconst H213 at_932 (pc' := 933) rfl (v := 1) rfl ?_
      refine G.goto H213 at_933 (by decide) (pc' := 937) rfl ?_
      exact G.retN H213 (t := .boolean) rfl (by decide) at_937 (so := []) all0 (by decide) (by decide) rfl
    ·
      refine G.icmpYes H204 at_126 (XT.ii_ne_t c210) (by decide) (pc' := 135) rfl ?_
      refine G.aconstNull H204 at_135 (pc' := 136) rfl ?_
      refine G.astore H204 (L' := #[.val (.int x0), .val (.int x1), .val (.int x2), .val (.int x3), .val (.int (x2 &&& 255)), .val (.int (x3 &&& 255)), .val (.int (x1 &&& 2147483647)), .val (.int (x0 &&& 7)), .val (.ref a197), .val .null, .val (.ref p0), .val (.int 6), .val (.int 111)]) at_136 (pc' := 138) rfl rfl rfl ?_
      refine G.goto H204 at_138 (by decide) (pc' := 922) rfl ?_
      refine G.aload H204 at_922 (pc' := 924) rfl rfl rfl ?_
      refine G.callS H204 (m19_named V a197 t205 k206 (x2 &&& 255) h204_ H204.old S208 (fun q => c210 (Eq.symm q))) (wd38 V) (wd39 V) (wd36 V) (wd40 V) (by decide) (argsL := [(.ref a197)]) (rest := []) (W := 0) rfl rfl (lenOf (pd_2) rfl) rfl rfl at_924 (pc' := 927) rfl (by decide) (by decide) (by decide) (by decide) all0 ?_
      intro T219 h219_ v220 s221 H219 Q222
      obtain ⟨c223, rfl, rfl, K224⟩ := Q222
      show Go p e below _ (T219.setTop (mkF m 927 #[.val (.int x0), .val (.int x1), .val (.int x2), .val (.int x3), .val (.int (x2 &&& 255)), .val (.int (x3 &&& 255)), .val (.int (x1 &&& 2147483647)), .val (.int (x0 &&& 7)), .val (.ref a197), .val .null, .val (.ref p0), .val (.int 6), .val (.int 111)] [.null]))
      refine G.aload H219 at_927 (pc' := 929) rfl rfl rfl ?_
      refine G.acmpNo H219 at_929 (pc' := 932) rfl rfl rfl (XT.aa_ne_f rfl) ?_
      refine G.iconst H219 at_932 (pc' := 933) rfl (v := 1) rfl ?_
      refine G.goto H219 at_933 (by decide) (pc' := 937) rfl ?_
      exact G.retN H219 (t := .boolean) rfl (by decide) at_937 (so := []) all0 (by decide) (by decide) rfl
  ·
    refine G.aload H at_97 (pc' := 99) rfl rfl rfl ?_
    refine G.iload H at_99 (pc' := 101) rfl rfl ?_
    refine G.caloadG H f1 (j := 7) (v := (.int 114)) (by decide) rfl at_101 (pc' := 102) rfl ?_
    refine G.istore H (L' := #[.val (.int x0), .val (.int x1), .val (.int x2), .val (.int x3), .val (.int (x2 &&& 255)), .val (.int (x3 &&& 255)), .val (.int (x1 &&& 2147483647)), .val (.int (x0 &&& 7)), .unset, .unset, .val (.ref p0), .val (.int 7), .val (.int 114)]) at_102 (pc' := 104) rfl rfl ?_
    refine G.aload H at_104 (pc' := 106) rfl rfl rfl ?_
    refine G.iload H at_106 (pc' := 108) rfl rfl ?_
    refine G.iload H at_108 (pc' := 110) rfl rfl ?_
    refine G.stC H f1 (by decide) (i := 7) rfl lB g2 (y := (x2 &&& 255)) (own_narC (own_u16 (own_and255 _))) at_110 (pc' := 111) rfl ?_
    intro T225 h225_ H225 W226 A227
    replace A227 : Arv Z h225_ p0 c0 .char 12 [(.int 100), (.int 105), (.int 114), (.int 101), (.int 99), (.int 116), (.int 111), (.int (x2 &&& 255)), (.int 121), (.int 45), (.int 105), (.int 110)] (.int 0) := A227
    refine G.new H225 (wd1 V) (wd2 V) (wd3 V) at_111 (pc' := 114) rfl (by decide) (by decide) ?_
    intro T228 h228_ a229 ga229 H228 E230 A231 D232
    have na229 := H225.nle ga229
    refine G.dup H228 at_114 (pc' := 115) rfl rfl ?_
    refine G.aload H228 at_115 (pc' := 117) rfl rfl rfl ?_
    have F233 := (Arv.ext A227 E230)
    have F234 : Fld Z h228_ a229 "java/lang/String" "value" "[B" .null := D232 (Or.inr (wd34 V)) (ty := (.array .byte)) (by decide)
    have F235 : Fld Z h228_ a229 "java/lang/String" "coder" "B" (.int 0) := D232 (Or.inr (wd32 V)) (ty := .byte) (by decide)
    refine G.newStr H228 (strw V) (wd2 V) (wd9 V) (wd10 V) (cs := [100, 105, 114, 101, 99, 116, 111, (x2 &&& 255), 121, 45, 105, 110]) (n := 12) na229 A231 F234 F235 F233 (hv17 V) (hv18 V) rfl rfl (by decide) (by decide) (cbS (by decide) (cbS (by decide) (cbS (by decide) (cbS (by decide) (cbS (by decide) (cbS (by decide) (cbS (by decide) (cbS (own_and255 _) (cbS (by decide) (cbS (by decide) (cbS (by decide) (cbS (by decide) cb0)))))))))))) (Sf.mem (mG (i := 0) rfl)) (rest := [(.ref a229)]) (W := 1) rfl rfl at_117 (pc' := 120) rfl (by decide) (by decide) (by decide) (by decide) ?_
    intro T236 h236_ t237 k238 g241 H236 K239 S240
    have nt237 : n0 ≤ t237 := Nat.le_trans H228.le g241
    refine G.astore H236 (L' := #[.val (.int x0), .val (.int x1), .val (.int x2), .val (.int x3), .val (.int (x2 &&& 255)), .val (.int (x3 &&& 255)), .val (.int (x1 &&& 2147483647)), .val (.int (x0 &&& 7)), .val (.ref a229), .unset, .val (.ref p0), .val (.int 7), .val (.int 114)]) at_120 (pc' := 122) rfl rfl rfl ?_
    refine G.iload H236 at_122 (pc' := 124) rfl rfl ?_
    refine G.iload H236 at_124 (pc' := 126) rfl rfl ?_
    by_cases c242 : (x2 &&& 255) = 114
    ·
      refine G.icmpNo H236 at_126 (pc' := 129) rfl (XT.ii_ne_f c242) ?_
      refine G.getS H236 (wd35 V) Via.refl (Sta.ext H236.old.2 (hv2 V)) at_129 (pc' := 132) rfl ?_
      intro T243 H244
      refine G.goto H244 at_132 (by decide) (pc' := 136) rfl ?_
      refine G.astore H244 (L' := #[.val (.int x0), .val (.int x1), .val (.int x2), .val (.int x3), .val (.int (x2 &&& 255)), .val (.int (x3 &&& 255)), .val (.int (x1 &&& 2147483647)), .val (.int (x0 &&& 7)), .val (.ref a229), .val (.ref uu1), .val (.ref p0), .val (.int 7), .val (.int 114)]) at_136 (pc' := 138) rfl rfl rfl ?_
      refine G.goto H244 at_138 (by decide) (pc' := 922) rfl ?_
      refine G.aload H244 at_922 (pc' := 924) rfl rfl rfl ?_
      refine G.callS H244 (m20_named V a229 t237 k238 (x2 &&& 255) h236_ H244.old S240 (Eq.symm c242)) (wd38 V) (wd39 V) (wd36 V) (wd40 V) (by decide) (argsL := [(.ref a229)]) (rest := []) (W := 0) rfl rfl (lenOf (pd_2) rfl) rfl rfl at_924 (pc' := 927) rfl (by decide) (by decide) (by decide) (by decide) all0 ?_
      intro T245 h245_ v246 s247 H245 Q248
      obtain ⟨c249, rfl, rfl, K250⟩ := Q248
      show Go p e below _ (T245.setTop (mkF m 927 #[.val (.int x0), .val (.int x1), .val (.int x2), .val (.int x3), .val (.int (x2 &&& 255)), .val (.int (x3 &&& 255)), .val (.int (x1 &&& 2147483647)), .val (.int (x0 &&& 7)), .val (.ref a229), .val (.ref uu1), .val (.ref p0), .val (.int 7), .val (.int 114)] [(.ref uu1)]))
      refine G.aload H245 at_927 (pc' := 929) rfl rfl rfl ?_
      refine G.acmpNo H245 at_929 (pc' := 932) rfl rfl rfl (XT.aa_ne_f rfl) ?_
      refine G.iconst H245 at_932 (pc' := 933) rfl (v := 1) rfl ?_
      refine G.goto H245 at_933 (by decide) (pc' := 937) rfl ?_
      exact G.retN H245 (t := .boolean) rfl (by decide) at_937 (so := []) all0 (by decide) (by decide) rfl
    ·
      refine G.icmpYes H236 at_126 (XT.ii_ne_t c242) (by decide) (pc' := 135) rfl ?_
      refine G.aconstNull H236 at_135 (pc' := 136) rfl ?_
      refine G.astore H236 (L' := #[.val (.int x0), .val (.int x1), .val (.int x2), .val (.int x3), .val (.int (x2 &&& 255)), .val (.int (x3 &&& 255)), .val (.int (x1 &&& 2147483647)), .val (.int (x0 &&& 7)), .val (.ref a229), .val .null, .val (.ref p0), .val (.int 7), .val (.int 114)]) at_136 (pc' := 138) rfl rfl rfl ?_
      refine G.goto H236 at_138 (by decide) (pc' := 922) rfl ?_
      refine G.aload H236 at_922 (pc' := 924) rfl rfl rfl ?_
      refine G.callS H236 (m21_named V a229 t237 k238 (x2 &&& 255) h236_ H236.old S240 (fun q => c242 (Eq.symm q))) (wd38 V) (wd39 V) (wd36 V) (wd40 V) (by decide) (argsL := [(.ref a229)]) (rest := []) (W := 0) rfl rfl (lenOf (pd_2) rfl) rfl rfl at_924 (pc' := 927) rfl (by decide) (by decide) (by decide) (by decide) all0 ?_
      intro T251 h251_ v252 s253 H251 Q254
      obtain ⟨c255, rfl, rfl, K256⟩ := Q254
      show Go p e below _ (T251.setTop (mkF m 927 #[.val (.int x0), .val (.int x1), .val (.int x2), .val (.int x3), .val (.int (x2 &&& 255)), .val (.int (x3 &&& 255)), .val (.int (x1 &&& 2147483647)), .val (.int (x0 &&& 7)), .val (.ref a229), .val .null, .val (.ref p0), .val (.int 7), .val (.int 114)] [.null]))
      refine G.aload H251 at_927 (pc' := 929) rfl rfl rfl ?_
      refine G.acmpNo H251 at_929 (pc' := 932) rfl rfl rfl (XT.aa_ne_f rfl) ?_
      refine G.iconst H251 at_932 (pc' := 933) rfl (v := 1) rfl ?_
      refine G.goto H251 at_933 (by decide) (pc' := 937) rfl ?_
      exact G.retN H251 (t := .boolean) rfl (by decide) at_937 (so := []) all0 (by decide) (by decide) rfl
  ·
    refine G.aload H at_97 (pc' := 99) rfl rfl rfl ?_
    refine G.iload H at_99 (pc' := 101) rfl rfl ?_
    refine G.caloadG H f1 (j := 8) (v := (.int 121)) (by decide) rfl at_101 (pc' := 102) rfl ?_
    refine G.istore H (L' := #[.val (.int x0), .val (.int x1), .val (.int x2), .val (.int x3), .val (.int (x2 &&& 255)), .val (.int (x3 &&& 255)), .val (.int (x1 &&& 2147483647)), .val (.int (x0 &&& 7)), .unset, .unset, .val (.ref p0), .val (.int 8), .val (.int 121)]) at_102 (pc' := 104) rfl rfl ?_
    refine G.aload H at_104 (pc' := 106) rfl rfl rfl ?_
    refine G.iload H at_106 (pc' := 108) rfl rfl ?_
    refine G.iload H at_108 (pc' := 110) rfl rfl ?_
    refine G.stC H f1 (by decide) (i := 8) rfl lB g2 (y := (x2 &&& 255)) (own_narC (own_u16 (own_and255 _))) at_110 (pc' := 111) rfl ?_
    intro T257 h257_ H257 W258 A259
    replace A259 : Arv Z h257_ p0 c0 .char 12 [(.int 100), (.int 105), (.int 114), (.int 101), (.int 99), (.int 116), (.int 111), (.int 114), (.int (x2 &&& 255)), (.int 45), (.int 105), (.int 110)] (.int 0) := A259
    refine G.new H257 (wd1 V) (wd2 V) (wd3 V) at_111 (pc' := 114) rfl (by decide) (by decide) ?_
    intro T260 h260_ a261 ga261 H260 E262 A263 D264
    have na261 := H257.nle ga261
    refine G.dup H260 at_114 (pc' := 115) rfl rfl ?_
    refine G.aload H260 at_115 (pc' := 117) rfl rfl rfl ?_
    have F265 := (Arv.ext A259 E262)
    have F266 : Fld Z h260_ a261 "java/lang/String" "value" "[B" .null := D264 (Or.inr (wd34 V)) (ty := (.array .byte)) (by decide)
    have F267 : Fld Z h260_ a261 "java/lang/String" "coder" "B" (.int 0) := D264 (Or.inr (wd32 V)) (ty := .byte) (by decide)
    refine G.newStr H260 (strw V) (wd2 V) (wd9 V) (wd10 V) (cs := [100, 105, 114, 101, 99, 116, 111, 114, (x2 &&& 255), 45, 105, 110]) (n := 12) na261 A263 F266 F267 F265 (hv17 V) (hv18 V) rfl rfl (by decide) (by decide) (cbS (by decide) (cbS (by decide) (cbS (by decide) (cbS (by decide) (cbS (by decide) (cbS (by decide) (cbS (by decide) (cbS (by decide) (cbS (own_and255 _) (cbS (by decide) (cbS (by decide) (cbS (by decide) cb0)))))))))))) (Sf.mem (mG (i := 0) rfl)) (rest := [(.ref a261)]) (W := 1) rfl rfl at_117 (pc' := 120) rfl (by decide) (by decide) (by decide) (by decide) ?_
    intro T268 h268_ t269 k270 g273 H268 K271 S272
    have nt269 : n0 ≤ t269 := Nat.le_trans H260.le g273
    refine G.astore H268 (L' := #[.val (.int x0), .val (.int x1), .val (.int x2), .val (.int x3), .val (.int (x2 &&& 255)), .val (.int (x3 &&& 255)), .val (.int (x1 &&& 2147483647)), .val (.int (x0 &&& 7)), .val (.ref a261), .unset, .val (.ref p0), .val (.int 8), .val (.int 121)]) at_120 (pc' := 122) rfl rfl rfl ?_
    refine G.iload H268 at_122 (pc' := 124) rfl rfl ?_
    refine G.iload H268 at_124 (pc' := 126) rfl rfl ?_
    by_cases c274 : (x2 &&& 255) = 121
    ·
      refine G.icmpNo H268 at_126 (pc' := 129) rfl (XT.ii_ne_f c274) ?_
      refine G.getS H268 (wd35 V) Via.refl (Sta.ext H268.old.2 (hv2 V)) at_129 (pc' := 132) rfl ?_
      intro T275 H276
      refine G.goto H276 at_132 (by decide) (pc' := 136) rfl ?_
      refine G.astore H276 (L' := #[.val (.int x0), .val (.int x1), .val (.int x2), .val (.int x3), .val (.int (x2 &&& 255)), .val (.int (x3 &&& 255)), .val (.int (x1 &&& 2147483647)), .val (.int (x0 &&& 7)), .val (.ref a261), .val (.ref uu1), .val (.ref p0), .val (.int 8), .val (.int 121)]) at_136 (pc' := 138) rfl rfl rfl ?_
      refine G.goto H276 at_138 (by decide) (pc' := 922) rfl ?_
      refine G.aload H276 at_922 (pc' := 924) rfl rfl rfl ?_
      refine G.callS H276 (m22_named V a261 t269 k270 (x2 &&& 255) h268_ H276.old S272 (Eq.symm c274)) (wd38 V) (wd39 V) (wd36 V) (wd40 V) (by decide) (argsL := [(.ref a261)]) (rest := []) (W := 0) rfl rfl (lenOf (pd_2) rfl) rfl rfl at_924 (pc' := 927) rfl (by decide) (by decide) (by decide) (by decide) all0 ?_
      intro T277 h277_ v278 s279 H277 Q280
      obtain ⟨c281, rfl, rfl, K282⟩ := Q280
      show Go p e below _ (T277.setTop (mkF m 927 #[.val (.int x0), .val (.int x1), .val (.int x2), .val (.int x3), .val (.int (x2 &&& 255)), .val (.int (x3 &&& 255)), .val (.int (x1 &&& 2147483647)), .val (.int (x0 &&& 7)), .val (.ref a261), .val (.ref uu1), .val (.ref p0), .val (.int 8), .val (.int 121)] [(.ref uu1)]))
      refine G.aload H277 at_927 (pc' := 929) rfl rfl rfl ?_
      refine G.acmpNo H277 at_929 (pc' := 932) rfl rfl rfl (XT.aa_ne_f rfl) ?_
      refine G.iconst H277 at_932 (pc' := 933) rfl (v := 1) rfl ?_
      refine G.goto H277 at_933 (by decide) (pc' := 937) rfl ?_
      exact G.retN H277 (t := .boolean) rfl (by decide) at_937 (so := []) all0 (by decide) (by decide) rfl
    ·
      refine G.icmpYes H268 at_126 (XT.ii_ne_t c274) (by decide) (pc' := 135) rfl ?_
      refine G.aconstNull H268 at_135 (pc' := 136) rfl ?_
      refine G.astore H268 (L' := #[.val (.int x0), .val (.int x1), .val (.int x2), .val (.int x3), .val (.int (x2 &&& 255)), .val (.int (x3 &&& 255)), .val (.int (x1 &&& 2147483647)), .val (.int (x0 &&& 7)), .val (.ref a261), .val .null, .val (.ref p0), .val (.int 8), .val (.int 121)]) at_136 (pc' := 138) rfl rfl rfl ?_
      refine G.goto H268 at_138 (by decide) (pc' := 922) rfl ?_
      refine G.aload H268 at_922 (pc' := 924) rfl rfl rfl ?_
      refine G.callS H268 (m23_named V a261 t269 k270 (x2 &&& 255) h268_ H268.old S272 (fun q => c274 (Eq.symm q))) (wd38 V) (wd39 V) (wd36 V) (wd40 V) (by decide) (argsL := [(.ref a261)]) (rest := []) (W := 0) rfl rfl (lenOf (pd_2) rfl) rfl rfl at_924 (pc' := 927) rfl (by decide) (by decide) (by decide) (by decide) all0 ?_
      intro T283 h283_ v284 s285 H283 Q286
      obtain ⟨c287, rfl, rfl, K288⟩ := Q286
      show Go p e below _ (T283.setTop (mkF m 927 #[.val (.int x0), .val (.int x1), .val (.int x2), .val (.int x3), .val (.int (x2 &&& 255)), .val (.int (x3 &&& 255)), .val (.int (x1 &&& 2147483647)), .val (.int (x0 &&& 7)), .val (.ref a261), .val .null, .val (.ref p0), .val (.int 8), .val (.int 121)] [.null]))
      refine G.aload H283 at_927 (pc' := 929) rfl rfl rfl ?_
      refine G.acmpNo H283 at_929 (pc' := 932) rfl rfl rfl (XT.aa_ne_f rfl) ?_
      refine G.iconst H283 at_932 (pc' := 933) rfl (v := 1) rfl ?_
      refine G.goto H283 at_933 (by decide) (pc' := 937) rfl ?_
      exact G.retN H283 (t := .boolean) rfl (by decide) at_937 (so := []) all0 (by decide) (by decide) rfl
  ·
    refine G.aload H at_97 (pc' := 99) rfl rfl rfl ?_
    refine G.iload H at_99 (pc' := 101) rfl rfl ?_
    refine G.caloadG H f1 (j := 9) (v := (.int 45)) (by decide) rfl at_101 (pc' := 102) rfl ?_
    refine G.istore H (L' := #[.val (.int x0), .val (.int x1), .val (.int x2), .val (.int x3), .val (.int (x2 &&& 255)), .val (.int (x3 &&& 255)), .val (.int (x1 &&& 2147483647)), .val (.int (x0 &&& 7)), .unset, .unset, .val (.ref p0), .val (.int 9), .val (.int 45)]) at_102 (pc' := 104) rfl rfl ?_
    refine G.aload H at_104 (pc' := 106) rfl rfl rfl ?_
    refine G.iload H at_106 (pc' := 108) rfl rfl ?_
    refine G.iload H at_108 (pc' := 110) rfl rfl ?_
    refine G.stC H f1 (by decide) (i := 9) rfl lB g2 (y := (x2 &&& 255)) (own_narC (own_u16 (own_and255 _))) at_110 (pc' := 111) rfl ?_
    intro T289 h289_ H289 W290 A291
    replace A291 : Arv Z h289_ p0 c0 .char 12 [(.int 100), (.int 105), (.int 114), (.int 101), (.int 99), (.int 116), (.int 111), (.int 114), (.int 121), (.int (x2 &&& 255)), (.int 105), (.int 110)] (.int 0) := A291
    refine G.new H289 (wd1 V) (wd2 V) (wd3 V) at_111 (pc' := 114) rfl (by decide) (by decide) ?_
    intro T292 h292_ a293 ga293 H292 E294 A295 D296
    have na293 := H289.nle ga293
    refine G.dup H292 at_114 (pc' := 115) rfl rfl ?_
    refine G.aload H292 at_115 (pc' := 117) rfl rfl rfl ?_
    have F297 := (Arv.ext A291 E294)
    have F298 : Fld Z h292_ a293 "java/lang/String" "value" "[B" .null := D296 (Or.inr (wd34 V)) (ty := (.array .byte)) (by decide)
    have F299 : Fld Z h292_ a293 "java/lang/String" "coder" "B" (.int 0) := D296 (Or.inr (wd32 V)) (ty := .byte) (by decide)
    refine G.newStr H292 (strw V) (wd2 V) (wd9 V) (wd10 V) (cs := [100, 105, 114, 101, 99, 116, 111, 114, 121, (x2 &&& 255), 105, 110]) (n := 12) na293 A295 F298 F299 F297 (hv17 V) (hv18 V) rfl rfl (by decide) (by decide) (cbS (by decide) (cbS (by decide) (cbS (by decide) (cbS (by decide) (cbS (by decide) (cbS (by decide) (cbS (by decide) (cbS (by decide) (cbS (by decide) (cbS (own_and255 _) (cbS (by decide) (cbS (by decide) cb0)))))))))))) (Sf.mem (mG (i := 0) rfl)) (rest := [(.ref a293)]) (W := 1) rfl rfl at_117 (pc' := 120) rfl (by decide) (by decide) (by decide) (by decide) ?_
    intro T300 h300_ t301 k302 g305 H300 K303 S304
    have nt301 : n0 ≤ t301 := Nat.le_trans H292.le g305
    refine G.astore H300 (L' := #[.val (.int x0), .val (.int x1), .val (.int x2), .val (.int x3), .val (.int (x2 &&& 255)), .val (.int (x3 &&& 255)), .val (.int (x1 &&& 2147483647)), .val (.int (x0 &&& 7)), .val (.ref a293), .unset, .val (.ref p0), .val (.int 9), .val (.int 45)]) at_120 (pc' := 122) rfl rfl rfl ?_
    refine G.iload H300 at_122 (pc' := 124) rfl rfl ?_
    refine G.iload H300 at_124 (pc' := 126) rfl rfl ?_
    by_cases c306 : (x2 &&& 255) = 45
    ·
      refine G.icmpNo H300 at_126 (pc' := 129) rfl (XT.ii_ne_f c306) ?_
      refine G.getS H300 (wd35 V) Via.refl (Sta.ext H300.old.2 (hv2 V)) at_129 (pc' := 132) rfl ?_
      intro T307 H308
      refine G.goto H308 at_132 (by decide) (pc' := 136) rfl ?_
      refine G.astore H308 (L' := #[.val (.int x0), .val (.int x1), .val (.int x2), .val (.int x3), .val (.int (x2 &&& 255)), .val (.int (x3 &&& 255)), .val (.int (x1 &&& 2147483647)), .val (.int (x0 &&& 7)), .val (.ref a293), .val (.ref uu1), .val (.ref p0), .val (.int 9), .val (.int 45)]) at_136 (pc' := 138) rfl rfl rfl ?_
      refine G.goto H308 at_138 (by decide) (pc' := 922) rfl ?_
      refine G.aload H308 at_922 (pc' := 924) rfl rfl rfl ?_
      refine G.callS H308 (m24_named V a293 t301 k302 (x2 &&& 255) h300_ H308.old S304 (Eq.symm c306)) (wd38 V) (wd39 V) (wd36 V) (wd40 V) (by decide) (argsL := [(.ref a293)]) (rest := []) (W := 0) rfl rfl (lenOf (pd_2) rfl) rfl rfl at_924 (pc' := 927) rfl (by decide) (by decide) (by decide) (by decide) all0 ?_
      intro T309 h309_ v310 s311 H309 Q312
      obtain ⟨c313, rfl, rfl, K314⟩ := Q312
      show Go p e below _ (T309.setTop (mkF m 927 #[.val (.int x0), .val (.int x1), .val (.int x2), .val (.int x3), .val (.int (x2 &&& 255)), .val (.int (x3 &&& 255)), .val (.int (x1 &&& 2147483647)), .val (.int (x0 &&& 7)), .val (.ref a293), .val (.ref uu1), .val (.ref p0), .val (.int 9), .val (.int 45)] [(.ref uu1)]))
      refine G.aload H309 at_927 (pc' := 929) rfl rfl rfl ?_
      refine G.acmpNo H309 at_929 (pc' := 932) rfl rfl rfl (XT.aa_ne_f rfl) ?_
      refine G.iconst H309 at_932 (pc' := 933) rfl (v := 1) rfl ?_
      refine G.goto H309 at_933 (by decide) (pc' := 937) rfl ?_
      exact G.retN H309 (t := .boolean) rfl (by decide) at_937 (so := []) all0 (by decide) (by decide) rfl
    ·
      refine G.icmpYes H300 at_126 (XT.ii_ne_t c306) (by decide) (pc' := 135) rfl ?_
      refine G.aconstNull H300 at_135 (pc' := 136) rfl ?_
      refine G.astore H300 (L' := #[.val (.int x0), .val (.int x1), .val (.int x2), .val (.int x3), .val (.int (x2 &&& 255)), .val (.int (x3 &&& 255)), .val (.int (x1 &&& 2147483647)), .val (.int (x0 &&& 7)), .val (.ref a293), .val .null, .val (.ref p0), .val (.int 9), .val (.int 45)]) at_136 (pc' := 138) rfl rfl rfl ?_
      refine G.goto H300 at_138 (by decide) (pc' := 922) rfl ?_
      refine G.aload H300 at_922 (pc' := 924) rfl rfl rfl ?_
      refine G.callS H300 (m25_named V a293 t301 k302 (x2 &&& 255) h300_ H300.old S304 (fun q => c306 (Eq.symm q))) (wd38 V) (wd39 V) (wd36 V) (wd40 V) (by decide) (argsL := [(.ref a293)]) (rest := []) (W := 0) rfl rfl (lenOf (pd_2) rfl) rfl rfl at_924 (pc' := 927) rfl (by decide) (by decide) (by decide) (by decide) all0 ?_
      intro T315 h315_ v316 s317 H315 Q318
      obtain ⟨c319, rfl, rfl, K320⟩ := Q318
      show Go p e below _ (T315.setTop (mkF m 927 #[.val (.int x0), .val (.int x1), .val (.int x2), .val (.int x3), .val (.int (x2 &&& 255)), .val (.int (x3 &&& 255)), .val (.int (x1 &&& 2147483647)), .val (.int (x0 &&& 7)), .val (.ref a293), .val .null, .val (.ref p0), .val (.int 9), .val (.int 45)] [.null]))
      refine G.aload H315 at_927 (pc' := 929) rfl rfl rfl ?_
      refine G.acmpNo H315 at_929 (pc' := 932) rfl rfl rfl (XT.aa_ne_f rfl) ?_
      refine G.iconst H315 at_932 (pc' := 933) rfl (v := 1) rfl ?_
      refine G.goto H315 at_933 (by decide) (pc' := 937) rfl ?_
      exact G.retN H315 (t := .boolean) rfl (by decide) at_937 (so := []) all0 (by decide) (by decide) rfl
  ·
    refine G.aload H at_97 (pc' := 99) rfl rfl rfl ?_
    refine G.iload H at_99 (pc' := 101) rfl rfl ?_
    refine G.caloadG H f1 (j := 10) (v := (.int 105)) (by decide) rfl at_101 (pc' := 102) rfl ?_
    refine G.istore H (L' := #[.val (.int x0), .val (.int x1), .val (.int x2), .val (.int x3), .val (.int (x2 &&& 255)), .val (.int (x3 &&& 255)), .val (.int (x1 &&& 2147483647)), .val (.int (x0 &&& 7)), .unset, .unset, .val (.ref p0), .val (.int 10), .val (.int 105)]) at_102 (pc' := 104) rfl rfl ?_
    refine G.aload H at_104 (pc' := 106) rfl rfl rfl ?_
    refine G.iload H at_106 (pc' := 108) rfl rfl ?_
    refine G.iload H at_108 (pc' := 110) rfl rfl ?_
    refine G.stC H f1 (by decide) (i := 10) rfl lB g2 (y := (x2 &&& 255)) (own_narC (own_u16 (own_and255 _))) at_110 (pc' := 111) rfl ?_
    intro T321 h321_ H321 W322 A323
    replace A323 : Arv Z h321_ p0 c0 .char 12 [(.int 100), (.int 105), (.int 114), (.int 101), (.int 99), (.int 116), (.int 111), (.int 114), (.int 121), (.int 45), (.int (x2 &&& 255)), (.int 110)] (.int 0) := A323
    refine G.new H321 (wd1 V) (wd2 V) (wd3 V) at_111 (pc' := 114) rfl (by decide) (by decide) ?_
    intro T324 h324_ a325 ga325 H324 E326 A327 D328
    have na325 := H321.nle ga325
    refine G.dup H324 at_114 (pc' := 115) rfl rfl ?_
    refine G.aload H324 at_115 (pc' := 117) rfl rfl rfl ?_
    have F329 := (Arv.ext A323 E326)
    have F330 : Fld Z h324_ a325 "java/lang/String" "value" "[B" .null := D328 (Or.inr (wd34 V)) (ty := (.array .byte)) (by decide)
    have F331 : Fld Z h324_ a325 "java/lang/String" "coder" "B" (.int 0) := D328 (Or.inr (wd32 V)) (ty := .byte) (by decide)
    refine G.newStr H324 (strw V) (wd2 V) (wd9 V) (wd10 V) (cs := [100, 105, 114, 101, 99, 116, 111, 114, 121, 45, (x2 &&& 255), 110]) (n := 12) na325 A327 F330 F331 F329 (hv17 V) (hv18 V) rfl rfl (by decide) (by decide) (cbS (by decide) (cbS (by decide) (cbS (by decide) (cbS (by decide) (cbS (by decide) (cbS (by decide) (cbS (by decide) (cbS (by decide) (cbS (by decide) (cbS (by decide) (cbS (own_and255 _) (cbS (by decide) cb0)))))))))))) (Sf.mem (mG (i := 0) rfl)) (rest := [(.ref a325)]) (W := 1) rfl rfl at_117 (pc' := 120) rfl (by decide) (by decide) (by decide) (by decide) ?_
    intro T332 h332_ t333 k334 g337 H332 K335 S336
    have nt333 : n0 ≤ t333 := Nat.le_trans H324.le g337
    refine G.astore H332 (L' := #[.val (.int x0), .val (.int x1), .val (.int x2), .val (.int x3), .val (.int (x2 &&& 255)), .val (.int (x3 &&& 255)), .val (.int (x1 &&& 2147483647)), .val (.int (x0 &&& 7)), .val (.ref a325), .unset, .val (.ref p0), .val (.int 10), .val (.int 105)]) at_120 (pc' := 122) rfl rfl rfl ?_
    refine G.iload H332 at_122 (pc' := 124) rfl rfl ?_
    refine G.iload H332 at_124 (pc' := 126) rfl rfl ?_
    by_cases c338 : (x2 &&& 255) = 105
    ·
      refine G.icmpNo H332 at_126 (pc' := 129) rfl (XT.ii_ne_f c338) ?_
      refine G.getS H332 (wd35 V) Via.refl (Sta.ext H332.old.2 (hv2 V)) at_129 (pc' := 132) rfl ?_
      intro T339 H340
      refine G.goto H340 at_132 (by decide) (pc' := 136) rfl ?_
      refine G.astore H340 (L' := #[.val (.int x0), .val (.int x1), .val (.int x2), .val (.int x3), .val (.int (x2 &&& 255)), .val (.int (x3 &&& 255)), .val (.int (x1 &&& 2147483647)), .val (.int (x0 &&& 7)), .val (.ref a325), .val (.ref uu1), .val (.ref p0), .val (.int 10), .val (.int 105)]) at_136 (pc' := 138) rfl rfl rfl ?_
      refine G.goto H340 at_138 (by decide) (pc' := 922) rfl ?_
      refine G.aload H340 at_922 (pc' := 924) rfl rfl rfl ?_
      refine G.callS H340 (m26_named V a325 t333 k334 (x2 &&& 255) h332_ H340.old S336 (Eq.symm c338)) (wd38 V) (wd39 V) (wd36 V) (wd40 V) (by decide) (argsL := [(.ref a325)]) (rest := []) (W := 0) rfl rfl (lenOf (pd_2) rfl) rfl rfl at_924 (pc' := 927) rfl (by decide) (by decide) (by decide) (by decide) all0 ?_
      intro T341 h341_ v342 s343 H341 Q344
      obtain ⟨c345, rfl, rfl, K346⟩ := Q344
      show Go p e below _ (T341.setTop (mkF m 927 #[.val (.int x0), .val (.int x1), .val (.int x2), .val (.int x3), .val (.int (x2 &&& 255)), .val (.int (x3 &&& 255)), .val (.int (x1 &&& 2147483647)), .val (.int (x0 &&& 7)), .val (.ref a325), .val (.ref uu1), .val (.ref p0), .val (.int 10), .val (.int 105)] [(.ref uu1)]))
      refine G.aload H341 at_927 (pc' := 929) rfl rfl rfl ?_
      refine G.acmpNo H341 at_929 (pc' := 932) rfl rfl rfl (XT.aa_ne_f rfl) ?_
      refine G.iconst H341 at_932 (pc' := 933) rfl (v := 1) rfl ?_
      refine G.goto H341 at_933 (by decide) (pc' := 937) rfl ?_
      exact G.retN H341 (t := .boolean) rfl (by decide) at_937 (so := []) all0 (by decide) (by decide) rfl
    ·
      refine G.icmpYes H332 at_126 (XT.ii_ne_t c338) (by decide) (pc' := 135) rfl ?_
      refine G.aconstNull H332 at_135 (pc' := 136) rfl ?_
      refine G.astore H332 (L' := #[.val (.int x0), .val (.int x1), .val (.int x2), .val (.int x3), .val (.int (x2 &&& 255)), .val (.int (x3 &&& 255)), .val (.int (x1 &&& 2147483647)), .val (.int (x0 &&& 7)), .val (.ref a325), .val .null, .val (.ref p0), .val (.int 10), .val (.int 105)]) at_136 (pc' := 138) rfl rfl rfl ?_
      refine G.goto H332 at_138 (by decide) (pc' := 922) rfl ?_
      refine G.aload H332 at_922 (pc' := 924) rfl rfl rfl ?_
      refine G.callS H332 (m27_named V a325 t333 k334 (x2 &&& 255) h332_ H332.old S336 (fun q => c338 (Eq.symm q))) (wd38 V) (wd39 V) (wd36 V) (wd40 V) (by decide) (argsL := [(.ref a325)]) (rest := []) (W := 0) rfl rfl (lenOf (pd_2) rfl) rfl rfl at_924 (pc' := 927) rfl (by decide) (by decide) (by decide) (by decide) all0 ?_
      intro T347 h347_ v348 s349 H347 Q350
      obtain ⟨c351, rfl, rfl, K352⟩ := Q350
      show Go p e below _ (T347.setTop (mkF m 927 #[.val (.int x0), .val (.int x1), .val (.int x2), .val (.int x3), .val (.int (x2 &&& 255)), .val (.int (x3 &&& 255)), .val (.int (x1 &&& 2147483647)), .val (.int (x0 &&& 7)), .val (.ref a325), .val .null, .val (.ref p0), .val (.int 10), .val (.int 105)] [.null]))
      refine G.aload H347 at_927 (pc' := 929) rfl rfl rfl ?_
      refine G.acmpNo H347 at_929 (pc' := 932) rfl rfl rfl (XT.aa_ne_f rfl) ?_
      refine G.iconst H347 at_932 (pc' := 933) rfl (v := 1) rfl ?_
      refine G.goto H347 at_933 (by decide) (pc' := 937) rfl ?_
      exact G.retN H347 (t := .boolean) rfl (by decide) at_937 (so := []) all0 (by decide) (by decide) rfl
  ·
    refine G.aload H at_97 (pc' := 99) rfl rfl rfl ?_
    refine G.iload H at_99 (pc' := 101) rfl rfl ?_
    refine G.caloadG H f1 (j := 11) (v := (.int 110)) (by decide) rfl at_101 (pc' := 102) rfl ?_
    refine G.istore H (L' := #[.val (.int x0), .val (.int x1), .val (.int x2), .val (.int x3), .val (.int (x2 &&& 255)), .val (.int (x3 &&& 255)), .val (.int (x1 &&& 2147483647)), .val (.int (x0 &&& 7)), .unset, .unset, .val (.ref p0), .val (.int 11), .val (.int 110)]) at_102 (pc' := 104) rfl rfl ?_
    refine G.aload H at_104 (pc' := 106) rfl rfl rfl ?_
    refine G.iload H at_106 (pc' := 108) rfl rfl ?_
    refine G.iload H at_108 (pc' := 110) rfl rfl ?_
    refine G.stC H f1 (by decide) (i := 11) rfl lB g2 (y := (x2 &&& 255)) (own_narC (own_u16 (own_and255 _))) at_110 (pc' := 111) rfl ?_
    intro T353 h353_ H353 W354 A355
    replace A355 : Arv Z h353_ p0 c0 .char 12 [(.int 100), (.int 105), (.int 114), (.int 101), (.int 99), (.int 116), (.int 111), (.int 114), (.int 121), (.int 45), (.int 105), (.int (x2 &&& 255))] (.int 0) := A355
    refine G.new H353 (wd1 V) (wd2 V) (wd3 V) at_111 (pc' := 114) rfl (by decide) (by decide) ?_
    intro T356 h356_ a357 ga357 H356 E358 A359 D360
    have na357 := H353.nle ga357
    refine G.dup H356 at_114 (pc' := 115) rfl rfl ?_
    refine G.aload H356 at_115 (pc' := 117) rfl rfl rfl ?_
    have F361 := (Arv.ext A355 E358)
    have F362 : Fld Z h356_ a357 "java/lang/String" "value" "[B" .null := D360 (Or.inr (wd34 V)) (ty := (.array .byte)) (by decide)
    have F363 : Fld Z h356_ a357 "java/lang/String" "coder" "B" (.int 0) := D360 (Or.inr (wd32 V)) (ty := .byte) (by decide)
    refine G.newStr H356 (strw V) (wd2 V) (wd9 V) (wd10 V) (cs := [100, 105, 114, 101, 99, 116, 111, 114, 121, 45, 105, (x2 &&& 255)]) (n := 12) na357 A359 F362 F363 F361 (hv17 V) (hv18 V) rfl rfl (by decide) (by decide) (cbS (by decide) (cbS (by decide) (cbS (by decide) (cbS (by decide) (cbS (by decide) (cbS (by decide) (cbS (by decide) (cbS (by decide) (cbS (by decide) (cbS (by decide) (cbS (by decide) (cbS (own_and255 _) cb0)))))))))))) (Sf.mem (mG (i := 0) rfl)) (rest := [(.ref a357)]) (W := 1) rfl rfl at_117 (pc' := 120) rfl (by decide) (by decide) (by decide) (by decide) ?_
    intro T364 h364_ t365 k366 g369 H364 K367 S368
    have nt365 : n0 ≤ t365 := Nat.le_trans H356.le g369
    refine G.astore H364 (L' := #[.val (.int x0), .val (.int x1), .val (.int x2), .val (.int x3), .val (.int (x2 &&& 255)), .val (.int (x3 &&& 255)), .val (.int (x1 &&& 2147483647)), .val (.int (x0 &&& 7)), .val (.ref a357), .unset, .val (.ref p0), .val (.int 11), .val (.int 110)]) at_120 (pc' := 122) rfl rfl rfl ?_
    refine G.iload H364 at_122 (pc' := 124) rfl rfl ?_
    refine G.iload H364 at_124 (pc' := 126) rfl rfl ?_
    by_cases c370 : (x2 &&& 255) = 110
    ·
      refine G.icmpNo H364 at_126 (pc' := 129) rfl (XT.ii_ne_f c370) ?_
      refine G.getS H364 (wd35 V) Via.refl (Sta.ext H364.old.2 (hv2 V)) at_129 (pc' := 132) rfl ?_
      intro T371 H372
      refine G.goto H372 at_132 (by decide) (pc' := 136) rfl ?_
      refine G.astore H372 (L' := #[.val (.int x0), .val (.int x1), .val (.int x2), .val (.int x3), .val (.int (x2 &&& 255)), .val (.int (x3 &&& 255)), .val (.int (x1 &&& 2147483647)), .val (.int (x0 &&& 7)), .val (.ref a357), .val (.ref uu1), .val (.ref p0), .val (.int 11), .val (.int 110)]) at_136 (pc' := 138) rfl rfl rfl ?_
      refine G.goto H372 at_138 (by decide) (pc' := 922) rfl ?_
      refine G.aload H372 at_922 (pc' := 924) rfl rfl rfl ?_
      refine G.callS H372 (m28_named V a357 t365 k366 (x2 &&& 255) h364_ H372.old S368 (Eq.symm c370)) (wd38 V) (wd39 V) (wd36 V) (wd40 V) (by decide) (argsL := [(.ref a357)]) (rest := []) (W := 0) rfl rfl (lenOf (pd_2) rfl) rfl rfl at_924 (pc' := 927) rfl (by decide) (by decide) (by decide) (by decide) all0 ?_
      intro T373 h373_ v374 s375 H373 Q376
      obtain ⟨c377, rfl, rfl, K378⟩ := Q376
      show Go p e below _ (T373.setTop (mkF m 927 #[.val (.int x0), .val (.int x1), .val (.int x2), .val (.int x3), .val (.int (x2 &&& 255)), .val (.int (x3 &&& 255)), .val (.int (x1 &&& 2147483647)), .val (.int (x0 &&& 7)), .val (.ref a357), .val (.ref uu1), .val (.ref p0), .val (.int 11), .val (.int 110)] [(.ref uu1)]))
      refine G.aload H373 at_927 (pc' := 929) rfl rfl rfl ?_
      refine G.acmpNo H373 at_929 (pc' := 932) rfl rfl rfl (XT.aa_ne_f rfl) ?_
      refine G.iconst H373 at_932 (pc' := 933) rfl (v := 1) rfl ?_
      refine G.goto H373 at_933 (by decide) (pc' := 937) rfl ?_
      exact G.retN H373 (t := .boolean) rfl (by decide) at_937 (so := []) all0 (by decide) (by decide) rfl
    ·
      refine G.icmpYes H364 at_126 (XT.ii_ne_t c370) (by decide) (pc' := 135) rfl ?_
      refine G.aconstNull H364 at_135 (pc' := 136) rfl ?_
      refine G.astore H364 (L' := #[.val (.int x0), .val (.int x1), .val (.int x2), .val (.int x3), .val (.int (x2 &&& 255)), .val (.int (x3 &&& 255)), .val (.int (x1 &&& 2147483647)), .val (.int (x0 &&& 7)), .val (.ref a357), .val .null, .val (.ref p0), .val (.int 11), .val (.int 110)]) at_136 (pc' := 138) rfl rfl rfl ?_
      refine G.goto H364 at_138 (by decide) (pc' := 922) rfl ?_
      refine G.aload H364 at_922 (pc' := 924) rfl rfl rfl ?_
      refine G.callS H364 (m29_named V a357 t365 k366 (x2 &&& 255) h364_ H364.old S368 (fun q => c370 (Eq.symm q))) (wd38 V) (wd39 V) (wd36 V) (wd40 V) (by decide) (argsL := [(.ref a357)]) (rest := []) (W := 0) rfl rfl (lenOf (pd_2) rfl) rfl rfl at_924 (pc' := 927) rfl (by decide) (by decide) (by decide) (by decide) all0 ?_
      intro T379 h379_ v380 s381 H379 Q382
      obtain ⟨c383, rfl, rfl, K384⟩ := Q382
      show Go p e below _ (T379.setTop (mkF m 927 #[.val (.int x0), .val (.int x1), .val (.int x2), .val (.int x3), .val (.int (x2 &&& 255)), .val (.int (x3 &&& 255)), .val (.int (x1 &&& 2147483647)), .val (.int (x0 &&& 7)), .val (.ref a357), .val .null, .val (.ref p0), .val (.int 11), .val (.int 110)] [.null]))
      refine G.aload H379 at_927 (pc' := 929) rfl rfl rfl ?_
      refine G.acmpNo H379 at_929 (pc' := 932) rfl rfl rfl (XT.aa_ne_f rfl) ?_
      refine G.iconst H379 at_932 (pc' := 933) rfl (v := 1) rfl ?_
      refine G.goto H379 at_933 (by decide) (pc' := 937) rfl ?_
      exact G.retN H379 (t := .boolean) rfl (by decide) at_937 (so := []) all0 (by decide) (by decide) rfl
set_option maxRecDepth 65536 in
set_option maxHeartbeats 40000000 in
theorem m31_named (V : Env1 Z a0 n0 uu0 uu1 uu2 uu3 uu4 uu5 uu6 uu7 uu8 uu9 uu10 uu11) (p0 : Addr) (p1 : Addr) (c0 : ClassId) (x0 : Int32) (h0 : Heap) (hO : Old Z n0 h0) (f0 : Str Z h0 p0 p1 c0 [x0, 105, 114, 101, 99, 116, 111, 114, 121, 45, 111, 117, 116]) (cc1 : 100 = x0) :
    Met Z a0 ELs True n0 l (⟨"bindery/bindings/BindingType", "named", "(Ljava/lang/String;)Lbindery/bindings/BindingType;"⟩ : MethodName) prog_4_method_4_code 5 (Option.some (FieldType.object "bindery/bindings/BindingType")) ({ frames := 2, cells := 1, slots := 2, locals := 28 } : Room) #[(.ref p0)] h0 [] (fun v h so => ([100, 105, 114, 101, 99, 116, 111, 114, 121, 45, 111, 117, 116] = [x0, 105, 114, 101, 99, 116, 111, 114, 121, 45, 111, 117, 116] ∧ v = some (.ref uu2) ∧ so = [] ∧ Keep h0 h [])) := by
  refine Met.of (EWl V) (by first | decide +kernel | rfl) hO (L0 := #[.val (.ref p0), .unset, .unset, .unset, .unset]) rfl ?_
  intro p e s m below meth c T H
  show Go p e below _ (T.setTop (mkF m 0 #[.val (.ref p0), .unset, .unset, .unset, .unset] []))
  refine G.callS H (m2_values V h0 H.old) (wd41 V) (wd42 V) (wd36 V) (wd43 V) (by decide) (argsL := []) (rest := []) (W := 0) rfl rfl (lenOf (pd_1) rfl) rfl rfl D10_0 (pc' := 3) rfl (by decide) (by decide) (by decide) (by decide) all0 ?_
  intro T1 h1_ v2 s3 H1 Q4
  obtain ⟨a5, k6, rfl, rfl, K7, g8, F9, F10⟩ := Q4
  have na5 : n0 ≤ a5 := Nat.le_trans H.le g8
  show Go p e below _ (T1.setTop (mkF m 3 #[.val (.ref p0), .unset, .unset, .unset, .unset] [(.ref a5)]))
  refine G.astoreN H1 (L' := #[.val (.ref p0), .val (.ref a5), .unset, .unset, .unset]) D10_3 (pc' := 4) rfl rfl rfl ?_
  refine G.aloadN H1 D10_4 (pc' := 5) rfl rfl rfl ?_
  refine G.arrlen H1 F9 D10_5 (pc' := 6) rfl ?_
  refine G.istoreN H1 (L' := #[.val (.ref p0), .val (.ref a5), .val (.int 2), .unset, .unset]) D10_6 (pc' := 7) rfl rfl ?_
  refine G.iconst H1 D10_7 (pc' := 8) rfl (v := 0) rfl ?_
  refine G.istoreN H1 (L' := #[.val (.ref p0), .val (.ref a5), .val (.int 2), .val (.int 0), .unset]) D10_8 (pc' := 9) rfl rfl ?_
  refine G.iloadN H1 D10_9 (pc' := 10) rfl rfl ?_
  refine G.iloadN H1 D10_10 (pc' := 11) rfl rfl ?_
  refine G.icmpNo H1 D10_11 (pc' := 14) rfl (by decide) ?_
  refine G.aloadN H1 D10_14 (pc' := 15) rfl rfl rfl ?_
  refine G.iloadN H1 D10_15 (pc' := 16) rfl rfl ?_
  refine G.aaloadG H1 F9 rfl (j := 0) (v := (.ref uu1)) (by decide) rfl D10_16 (pc' := 17) rfl ?_
  refine G.astore H1 (L' := #[.val (.ref p0), .val (.ref a5), .val (.int 2), .val (.int 0), .val (.ref uu1)]) D10_17 (pc' := 19) rfl rfl rfl ?_
  refine G.aload H1 D10_19 (pc' := 21) rfl rfl rfl ?_
  have B11 := Fld.ext H1.old.2 (hv8 V)
  refine G.getF H1 (wd57 V) Via.refl B11 D10_21 (pc' := 24) rfl ?_
  intro T12 H13
  refine G.aloadN H13 D10_24 (pc' := 25) rfl rfl rfl ?_
  have B14 := Str.ext H13.old.2 (hv22 V)
  have F15 := (Str.keep f0 K7 nin0 nin0)
  refine G.strEq H13 (strwEq V) (wd2 V) (wd59 V) (wd60 V) (wd62 V) (wd61 V) B14 F15 (hv17 V) (hv18 V) (rest := []) (W := 0) rfl rfl D10_25 (pc' := 28) rfl (by decide) (by decide) (by decide) (by decide) ?_ ?_
  ·
    intro T16 H17 c18
    exact absurd c18 (by intro qq; simp at qq)
  ·
    intro T19 H20 c21
    refine G.ifYes H20 D10_28 (by decide) (by decide) (pc' := 34) rfl ?_
    refine G.iinc H20 (v := 1) (L' := #[.val (.ref p0), .val (.ref a5), .val (.int 2), .val (.int 1), .val (.ref uu1)]) D10_34 (pc' := 37) rfl rfl rfl rfl ?_
    refine G.goto H20 D10_37 (by decide) (pc' := 9) rfl ?_
    show Go p e below _ (T19.setTop (mkF m 9 #[.val (.ref p0), .val (.ref a5), .val (.int 2), .val (.int 1), .val (.ref uu1)] []))
    refine G.iloadN H20 D10_9 (pc' := 10) rfl rfl ?_
    refine G.iloadN H20 D10_10 (pc' := 11) rfl rfl ?_
    refine G.icmpNo H20 D10_11 (pc' := 14) rfl (by decide) ?_
    refine G.aloadN H20 D10_14 (pc' := 15) rfl rfl rfl ?_
    refine G.iloadN H20 D10_15 (pc' := 16) rfl rfl ?_
    refine G.aaloadG H20 F9 rfl (j := 1) (v := (.ref uu2)) (by decide) rfl D10_16 (pc' := 17) rfl ?_
    refine G.astore H20 (L' := #[.val (.ref p0), .val (.ref a5), .val (.int 2), .val (.int 1), .val (.ref uu2)]) D10_17 (pc' := 19) rfl rfl rfl ?_
    refine G.aload H20 D10_19 (pc' := 21) rfl rfl rfl ?_
    have B22 := Fld.ext H20.old.2 (hv6 V)
    refine G.getF H20 (wd57 V) Via.refl B22 D10_21 (pc' := 24) rfl ?_
    intro T23 H24
    refine G.aloadN H24 D10_24 (pc' := 25) rfl rfl rfl ?_
    have B25 := Str.ext H24.old.2 (hv21 V)
    refine G.strEq H24 (strwEq V) (wd2 V) (wd59 V) (wd60 V) (wd62 V) (wd61 V) B25 F15 (hv17 V) (hv18 V) (rest := []) (W := 0) rfl rfl D10_25 (pc' := 28) rfl (by decide) (by decide) (by decide) (by decide) ?_ ?_
    ·
      intro T26 H27 c28
      refine G.ifNo H27 D10_28 (pc' := 31) rfl (by decide) ?_
      refine G.aload H27 D10_31 (pc' := 33) rfl rfl rfl ?_
      have K29 : Keep h0 h1_ [] := (Keep.trans (Keep.refl h0 []) K7 all0)
      exact G.retA H27 (t := (.object "bindery/bindings/BindingType")) rfl rfl rfl D10_33 (so := []) all0 (by decide) (by decide) ⟨c28, rfl, rfl, K29⟩
    ·
      intro T30 H31 c32
      exact absurd (lcs cc1 (lcs rfl (lcs rfl (lcs rfl (lcs rfl (lcs rfl (lcs rfl (lcs rfl (lcs rfl (lcs rfl (lcs rfl (lcs rfl (lcs rfl rfl))))))))))))) c32
set_option maxRecDepth 65536 in
set_option maxHeartbeats 40000000 in
theorem m32_named (V : Env1 Z a0 n0 uu0 uu1 uu2 uu3 uu4 uu5 uu6 uu7 uu8 uu9 uu10 uu11) (p0 : Addr) (p1 : Addr) (c0 : ClassId) (x0 : Int32) (h0 : Heap) (hO : Old Z n0 h0) (f0 : Str Z h0 p0 p1 c0 [x0, 105, 114, 101, 99, 116, 111, 114, 121, 45, 111, 117, 116]) (cc1 : ¬ 100 = x0) :
    Met Z a0 ELs True n0 l (⟨"bindery/bindings/BindingType", "named", "(Ljava/lang/String;)Lbindery/bindings/BindingType;"⟩ : MethodName) prog_4_method_4_code 5 (Option.some (FieldType.object "bindery/bindings/BindingType")) ({ frames := 2, cells := 1, slots := 2, locals := 28 } : Room) #[(.ref p0)] h0 [] (fun v h so => (¬ [100, 105, 114, 101, 99, 116, 111, 114, 121, 45, 111, 117, 116] = [x0, 105, 114, 101, 99, 116, 111, 114, 121, 45, 111, 117, 116] ∧ v = some .null ∧ so = [] ∧ Keep h0 h [])) := by
  refine Met.of (EWl V) (by first | decide +kernel | rfl) hO (L0 := #[.val (.ref p0), .unset, .unset, .unset, .unset]) rfl ?_
  intro p e s m below meth c T H
  show Go p e below _ (T.setTop (mkF m 0 #[.val (.ref p0), .unset, .unset, .unset, .unset] []))
  refine G.callS H (m2_values V h0 H.old) (wd41 V) (wd42 V) (wd36 V) (wd43 V) (by decide) (argsL := []) (rest := []) (W := 0) rfl rfl (lenOf (pd_1) rfl) rfl rfl D10_0 (pc' := 3) rfl (by decide) (by decide) (by decide) (by decide) all0 ?_
  intro T1 h1_ v2 s3 H1 Q4
  obtain ⟨a5, k6, rfl, rfl, K7, g8, F9, F10⟩ := Q4
  have na5 : n0 ≤ a5 := Nat.le_trans H.le g8
  show Go p e below _ (T1.setTop (mkF m 3 #[.val (.ref p0), .unset, .unset, .unset, .unset] [(.ref a5)]))
  refine G.astoreN H1 (L' := #[.val (.ref p0), .val (.ref a5), .unset, .unset, .unset]) D10_3 (pc' := 4) rfl rfl rfl ?_
  refine G.aloadN H1 D10_4 (pc' := 5) rfl rfl rfl ?_
  refine G.arrlen H1 F9 D10_5 (pc' := 6) rfl ?_
  refine G.istoreN H1 (L' := #[.val (.ref p0), .val (.ref a5), .val (.int 2), .unset, .unset]) D10_6 (pc' := 7) rfl rfl ?_
  refine G.iconst H1 D10_7 (pc' := 8) rfl (v := 0) rfl ?_
  refine G.istoreN H1 (L' := #[.val (.ref p0), .val (.ref a5), .val (.int 2), .val (.int 0), .unset]) D10_8 (pc' := 9) rfl rfl ?_
  refine G.iloadN H1 D10_9 (pc' := 10) rfl rfl ?_
  refine G.iloadN H1 D10_10 (pc' := 11) rfl rfl ?_
  refine G.icmpNo H1 D10_11 (pc' := 14) rfl (by decide) ?_
  refine G.aloadN H1 D10_14 (pc' := 15) rfl rfl rfl ?_
  refine G.iloadN H1 D10_15 (pc' := 16) rfl rfl ?_
  refine G.aaloadG H1 F9 rfl (j := 0) (v := (.ref uu1)) (by decide) rfl D10_16 (pc' := 17) rfl ?_
  refine G.astore H1 (L' := #[.val (.ref p0), .val (.ref a5), .val (.int 2), .val (.int 0), .val (.ref uu1)]) D10_17 (pc' := 19) rfl rfl rfl ?_
  refine G.aload H1 D10_19 (pc' := 21) rfl rfl rfl ?_
  have B11 := Fld.ext H1.old.2 (hv8 V)
  refine G.getF H1 (wd57 V) Via.refl B11 D10_21 (pc' := 24) rfl ?_
  intro T12 H13
  refine G.aloadN H13 D10_24 (pc' := 25) rfl rfl rfl ?_
  have B14 := Str.ext H13.old.2 (hv22 V)
  have F15 := (Str.keep f0 K7 nin0 nin0)
  refine G.strEq H13 (strwEq V) (wd2 V) (wd59 V) (wd60 V) (wd62 V) (wd61 V) B14 F15 (hv17 V) (hv18 V) (rest := []) (W := 0) rfl rfl D10_25 (pc' := 28) rfl (by decide) (by decide) (by decide) (by decide) ?_ ?_
  ·
    intro T16 H17 c18
    exact absurd c18 (by intro qq; simp at qq)
  ·
    intro T19 H20 c21
    refine G.ifYes H20 D10_28 (by decide) (by decide) (pc' := 34) rfl ?_
    refine G.iinc H20 (v := 1) (L' := #[.val (.ref p0), .val (.ref a5), .val (.int 2), .val (.int 1), .val (.ref uu1)]) D10_34 (pc' := 37) rfl rfl rfl rfl ?_
    refine G.goto H20 D10_37 (by decide) (pc' := 9) rfl ?_
    show Go p e below _ (T19.setTop (mkF m 9 #[.val (.ref p0), .val (.ref a5), .val (.int 2), .val (.int 1), .val (.ref uu1)] []))
    refine G.iloadN H20 D10_9 (pc' := 10) rfl rfl ?_
    refine G.iloadN H20 D10_10 (pc' := 11) rfl rfl ?_
    refine G.icmpNo H20 D10_11 (pc' := 14) rfl (by decide) ?_
    refine G.aloadN H20 D10_14 (pc' := 15) rfl rfl rfl ?_
    refine G.iloadN H20 D10_15 (pc' := 16) rfl rfl ?_
    refine G.aaloadG H20 F9 rfl (j := 1) (v := (.ref uu2)) (by decide) rfl D10_16 (pc' := 17) rfl ?_
    refine G.astore H20 (L' := #[.val (.ref p0), .val (.ref a5), .val (.int 2), .val (.int 1), .val (.ref uu2)]) D10_17 (pc' := 19) rfl rfl rfl ?_
    refine G.aload H20 D10_19 (pc' := 21) rfl rfl rfl ?_
    have B22 := Fld.ext H20.old.2 (hv6 V)
    refine G.getF H20 (wd57 V) Via.refl B22 D10_21 (pc' := 24) rfl ?_
    intro T23 H24
    refine G.aloadN H24 D10_24 (pc' := 25) rfl rfl rfl ?_
    have B25 := Str.ext H24.old.2 (hv21 V)
    refine G.strEq H24 (strwEq V) (wd2 V) (wd59 V) (wd60 V) (wd62 V) (wd61 V) B25 F15 (hv17 V) (hv18 V) (rest := []) (W := 0) rfl rfl D10_25 (pc' := 28) rfl (by decide) (by decide) (by decide) (by decide) ?_ ?_
    ·
      intro T26 H27 c28
      exact absurd (List.cons.inj c28).1 cc1
    ·
      intro T29 H30 c31
      refine G.ifYes H30 D10_28 (by decide) (by decide) (pc' := 34) rfl ?_
      refine G.iinc H30 (v := 2) (L' := #[.val (.ref p0), .val (.ref a5), .val (.int 2), .val (.int 2), .val (.ref uu2)]) D10_34 (pc' := 37) rfl rfl rfl rfl ?_
      refine G.goto H30 D10_37 (by decide) (pc' := 9) rfl ?_
      show Go p e below _ (T29.setTop (mkF m 9 #[.val (.ref p0), .val (.ref a5), .val (.int 2), .val (.int 2), .val (.ref uu2)] []))
      refine G.iloadN H30 D10_9 (pc' := 10) rfl rfl ?_
      refine G.iloadN H30 D10_10 (pc' := 11) rfl rfl ?_
      refine G.icmpYes H30 D10_11 (by decide) (by decide) (pc' := 40) rfl ?_
      refine G.aconstNull H30 D10_40 (pc' := 41) rfl ?_
      have K32 : Keep h0 h1_ [] := (Keep.trans (Keep.refl h0 []) K7 all0)
      exact G.retA H30 (t := (.object "bindery/bindings/BindingType")) rfl rfl rfl D10_41 (so := []) all0 (by decide) (by decide) ⟨c31, rfl, rfl, K32⟩
set_option maxRecDepth 65536 in
set_option maxHeartbeats 40000000 in
theorem m33_named (V : Env1 Z a0 n0 uu0 uu1 uu2 uu3 uu4 uu5 uu6 uu7 uu8 uu9 uu10 uu11) (p0 : Addr) (p1 : Addr) (c0 : ClassId) (x0 : Int32) (h0 : Heap) (hO : Old Z n0 h0) (f0 : Str Z h0 p0 p1 c0 [100, x0, 114, 101, 99, 116, 111, 114, 121, 45, 111, 117, 116]) (cc1 : 105 = x0) :
    Met Z a0 ELs True n0 l (⟨"bindery/bindings/BindingType", "named", "(Ljava/lang/String;)Lbindery/bindings/BindingType;"⟩ : MethodName) prog_4_method_4_code 5 (Option.some (FieldType.object "bindery/bindings/BindingType")) ({ frames := 2, cells := 1, slots := 2, locals := 28 } : Room) #[(.ref p0)] h0 [] (fun v h so => ([100, 105, 114, 101, 99, 116, 111, 114, 121, 45, 111, 117, 116] = [100, x0, 114, 101, 99, 116, 111, 114, 121, 45, 111, 117, 116] ∧ v = some (.ref uu2) ∧ so = [] ∧ Keep h0 h [])) := by
  refine Met.of (EWl V) (by first | decide +kernel | rfl) hO (L0 := #[.val (.ref p0), .unset, .unset, .unset, .unset]) rfl ?_
  intro p e s m below meth c T H
  show Go p e below _ (T.setTop (mkF m 0 #[.val (.ref p0), .unset, .unset, .unset, .unset] []))
  refine G.callS H (m2_values V h0 H.old) (wd41 V) (wd42 V) (wd36 V) (wd43 V) (by decide) (argsL := []) (rest := []) (W := 0) rfl rfl (lenOf (pd_1) rfl) rfl rfl D10_0 (pc' := 3) rfl (by decide) (by decide) (by decide) (by decide) all0 ?_
  intro T1 h1_ v2 s3 H1 Q4
  obtain ⟨a5, k6, rfl, rfl, K7, g8, F9, F10⟩ := Q4
  have na5 : n0 ≤ a5 := Nat.le_trans H.le g8
  show Go p e below _ (T1.setTop (mkF m 3 #[.val (.ref p0), .unset, .unset, .unset, .unset] [(.ref a5)]))
  refine G.astoreN H1 (L' := #[.val (.ref p0), .val (.ref a5), .unset, .unset, .unset]) D10_3 (pc' := 4) rfl rfl rfl ?_
  refine G.aloadN H1 D10_4 (pc' := 5) rfl rfl rfl ?_
  refine G.arrlen H1 F9 D10_5 (pc' := 6) rfl ?_
  refine G.istoreN H1 (L' := #[.val (.ref p0), .val (.ref a5), .val (.int 2), .unset, .unset]) D10_6 (pc' := 7) rfl rfl ?_
  refine G.iconst H1 D10_7 (pc' := 8) rfl (v := 0) rfl ?_
  refine G.istoreN H1 (L' := #[.val (.ref p0), .val (.ref a5), .val (.int 2), .val (.int 0), .unset]) D10_8 (pc' := 9) rfl rfl ?_
  refine G.iloadN H1 D10_9 (pc' := 10) rfl rfl ?_
  refine G.iloadN H1 D10_10 (pc' := 11) rfl rfl ?_
  refine G.icmpNo H1 D10_11 (pc' := 14) rfl (by decide) ?_
  refine G.aloadN H1 D10_14 (pc' := 15) rfl rfl rfl ?_
  refine G.iloadN H1 D10_15 (pc' := 16) rfl rfl ?_
  refine G.aaloadG H1 F9 rfl (j := 0) (v := (.ref uu1)) (by decide) rfl D10_16 (pc' := 17) rfl ?_
  refine G.astore H1 (L' := #[.val (.ref p0), .val (.ref a5), .val (.int 2), .val (.int 0), .val (.ref uu1)]) D10_17 (pc' := 19) rfl rfl rfl ?_
  refine G.aload H1 D10_19 (pc' := 21) rfl rfl rfl ?_
  have B11 := Fld.ext H1.old.2 (hv8 V)
  refine G.getF H1 (wd57 V) Via.refl B11 D10_21 (pc' := 24) rfl ?_
  intro T12 H13
  refine G.aloadN H13 D10_24 (pc' := 25) rfl rfl rfl ?_
  have B14 := Str.ext H13.old.2 (hv22 V)
  have F15 := (Str.keep f0 K7 nin0 nin0)
  refine G.strEq H13 (strwEq V) (wd2 V) (wd59 V) (wd60 V) (wd62 V) (wd61 V) B14 F15 (hv17 V) (hv18 V) (rest := []) (W := 0) rfl rfl D10_25 (pc' := 28) rfl (by decide) (by decide) (by decide) (by decide) ?_ ?_
  ·
    intro T16 H17 c18
    exact absurd c18 (by intro qq; simp at qq)
  ·
    intro T19 H20 c21
    refine G.ifYes H20 D10_28 (by decide) (by decide) (pc' := 34) rfl ?_
    refine G.iinc H20 (v := 1) (L' := #[.val (.ref p0), .val (.ref a5), .val (.int 2), .val (.int 1), .val (.ref uu1)]) D10_34 (pc' := 37) rfl rfl rfl rfl ?_
    refine G.goto H20 D10_37 (by decide) (pc' := 9) rfl ?_
    show Go p e below _ (T19.setTop (mkF m 9 #[.val (.ref p0), .val (.ref a5), .val (.int 2), .val (.int 1), .val (.ref uu1)] []))
    refine G.iloadN H20 D10_9 (pc' := 10) rfl rfl ?_
    refine G.iloadN H20 D10_10 (pc' := 11) rfl rfl ?_
    refine G.icmpNo H20 D10_11 (pc' := 14) rfl (by decide) ?_
    refine G.aloadN H20 D10_14 (pc' := 15) rfl rfl rfl ?_
    refine G.iloadN H20 D10_15 (pc' := 16) rfl rfl ?_
    refine G.aaloadG H20 F9 rfl (j := 1) (v := (.ref uu2)) (by decide) rfl D10_16 (pc' := 17) rfl ?_
    refine G.astore H20 (L' := #[.val (.ref p0), .val (.ref a5), .val (.int 2), .val (.int 1), .val (.ref uu2)]) D10_17 (pc' := 19) rfl rfl rfl ?_
    refine G.aload H20 D10_19 (pc' := 21) rfl rfl rfl ?_
    have B22 := Fld.ext H20.old.2 (hv6 V)
    refine G.getF H20 (wd57 V) Via.refl B22 D10_21 (pc' := 24) rfl ?_
    intro T23 H24
    refine G.aloadN H24 D10_24 (pc' := 25) rfl rfl rfl ?_
    have B25 := Str.ext H24.old.2 (hv21 V)
    refine G.strEq H24 (strwEq V) (wd2 V) (wd59 V) (wd60 V) (wd62 V) (wd61 V) B25 F15 (hv17 V) (hv18 V) (rest := []) (W := 0) rfl rfl D10_25 (pc' := 28) rfl (by decide) (by decide) (by decide) (by decide) ?_ ?_
    ·
      intro T26 H27 c28
      refine G.ifNo H27 D10_28 (pc' := 31) rfl (by decide) ?_
      refine G.aload H27 D10_31 (pc' := 33) rfl rfl rfl ?_
      have K29 : Keep h0 h1_ [] := (Keep.trans (Keep.refl h0 []) K7 all0)
      exact G.retA H27 (t := (.object "bindery/bindings/BindingType")) rfl rfl rfl D10_33 (so := []) all0 (by decide) (by decide) ⟨c28, rfl, rfl, K29⟩
    ·
      intro T30 H31 c32
      exact absurd (lcs rfl (lcs cc1 (lcs rfl (lcs rfl (lcs rfl (lcs rfl (lcs rfl (lcs rfl (lcs rfl (lcs rfl (lcs rfl (lcs rfl (lcs rfl rfl))))))))))))) c32
set_option maxRecDepth 65536 in
set_option maxHeartbeats 40000000 in
theorem m34_named (V : Env1 Z a0 n0 uu0 uu1 uu2 uu3 uu4 uu5 uu6 uu7 uu8 uu9 uu10 uu11) (p0 : Addr) (p1 : Addr) (c0 : ClassId) (x0 : Int32) (h0 : Heap) (hO : Old Z n0 h0) (f0 : Str Z h0 p0 p1 c0 [100, x0, 114, 101, 99, 116, 111, 114, 121, 45, 111, 117, 116]) (cc1 : ¬ 105 = x0) :
    Met Z a0 ELs True n0 l (⟨"bindery/bindings/BindingType", "named", "(Ljava/lang/String;)Lbindery/bindings/BindingType;"⟩ : MethodName) prog_4_method_4_code 5 (Option.some (FieldType.object "bindery/bindings/BindingType")) ({ frames := 2, cells := 1, slots := 2, locals := 28 } : Room) #[(.ref p0)] h0 [] (fun v h so => (¬ [100, 105, 114, 101, 99, 116, 111, 114, 121, 45, 111, 117, 116] = [100, x0, 114, 101, 99, 116, 111, 114, 121, 45, 111, 117, 116] ∧ v = some .null ∧ so = [] ∧ Keep h0 h [])) := by
  refine Met.of (EWl V) (by first | decide +kernel | rfl) hO (L0 := #[.val (.ref p0), .unset, .unset, .unset, .unset]) rfl ?_
  intro p e s m below meth c T H
  show Go p e below _ (T.setTop (mkF m 0 #[.val (.ref p0), .unset, .unset, .unset, .unset] []))
  refine G.callS H (m2_values V h0 H.old) (wd41 V) (wd42 V) (wd36 V) (wd43 V) (by decide) (argsL := []) (rest := []) (W := 0) rfl rfl (lenOf (pd_1) rfl) rfl rfl D10_0 (pc' := 3) rfl (by decide) (by decide) (by decide) (by decide) all0 ?_
  intro T1 h1_ v2 s3 H1 Q4
  obtain ⟨a5, k6, rfl, rfl, K7, g8, F9, F10⟩ := Q4
  have na5 : n0 ≤ a5 := Nat.le_trans H.le g8
  show Go p e below _ (T1.setTop (mkF m 3 #[.val (.ref p0), .unset, .unset, .unset, .unset] [(.ref a5)]))
  refine G.astoreN H1 (L' := #[.val (.ref p0), .val (.ref a5), .unset, .unset, .unset]) D10_3 (pc' := 4) rfl rfl rfl ?_
  refine G.aloadN H1 D10_4 (pc' := 5) rfl rfl rfl ?_
  refine G.arrlen H1 F9 D10_5 (pc' := 6) rfl ?_
  refine G.istoreN H1 (L' := #[.val (.ref p0), .val (.ref a5), .val (.int 2), .unset, .unset]) D10_6 (pc' := 7) rfl rfl ?_
  refine G.iconst H1 D10_7 (pc' := 8) rfl (v := 0) rfl ?_
  refine G.istoreN H1 (L' := #[.val (.ref p0), .val (.ref a5), .val (.int 2), .val (.int 0), .unset]) D10_8 (pc' := 9) rfl rfl ?_
  refine G.iloadN H1 D10_9 (pc' := 10) rfl rfl ?_
  refine G.iloadN H1 D10_10 (pc' := 11) rfl rfl ?_
  refine G.icmpNo H1 D10_11 (pc' := 14) rfl (by decide) ?_
  refine G.aloadN H1 D10_14 (pc' := 15) rfl rfl rfl ?_
  refine G.iloadN H1 D10_15 (pc' := 16) rfl rfl ?_
  refine G.aaloadG H1 F9 rfl (j := 0) (v := (.ref uu1)) (by decide) rfl D10_16 (pc' := 17) rfl ?_
  refine G.astore H1 (L' := #[.val (.ref p0), .val (.ref a5), .val (.int 2), .val (.int 0), .val (.ref uu1)]) D10_17 (pc' := 19) rfl rfl rfl ?_
  refine G.aload H1 D10_19 (pc' := 21) rfl rfl rfl ?_
  have B11 := Fld.ext H1.old.2 (hv8 V)
  refine G.getF H1 (wd57 V) Via.refl B11 D10_21 (pc' := 24) rfl ?_
  intro T12 H13
  refine G.aloadN H13 D10_24 (pc' := 25) rfl rfl rfl ?_
  have B14 := Str.ext H13.old.2 (hv22 V)
  have F15 := (Str.keep f0 K7 nin0 nin0)
  refine G.strEq H13 (strwEq V) (wd2 V) (wd59 V) (wd60 V) (wd62 V) (wd61 V) B14 F15 (hv17 V) (hv18 V) (rest := []) (W := 0) rfl rfl D10_25 (pc' := 28) rfl (by decide) (by decide) (by decide) (by decide) ?_ ?_
  ·
    intro T16 H17 c18
    exact absurd c18 (by intro qq; simp at qq)
  ·
    intro T19 H20 c21
    refine G.ifYes H20 D10_28 (by decide) (by decide) (pc' := 34) rfl ?_
    refine G.iinc H20 (v := 1) (L' := #[.val (.ref p0), .val (.ref a5), .val (.int 2), .val (.int 1), .val (.ref uu1)]) D10_34 (pc' := 37) rfl rfl rfl rfl ?_
    refine G.goto H20 D10_37 (by decide) (pc' := 9) rfl ?_
    show Go p e below _ (T19.setTop (mkF m 9 #[.val (.ref p0), .val (.ref a5), .val (.int 2), .val (.int 1), .val (.ref uu1)] []))
    refine G.iloadN H20 D10_9 (pc' := 10) rfl rfl ?_
    refine G.iloadN H20 D10_10 (pc' := 11) rfl rfl ?_
    refine G.icmpNo H20 D10_11 (pc' := 14) rfl (by decide) ?_
    refine G.aloadN H20 D10_14 (pc' := 15) rfl rfl rfl ?_
    refine G.iloadN H20 D10_15 (pc' := 16) rfl rfl ?_
    refine G.aaloadG H20 F9 rfl (j := 1) (v := (.ref uu2)) (by decide) rfl D10_16 (pc' := 17) rfl ?_
    refine G.astore H20 (L' := #[.val (.ref p0), .val (.ref a5), .val (.int 2), .val (.int 1), .val (.ref uu2)]) D10_17 (pc' := 19) rfl rfl rfl ?_
    refine G.aload H20 D10_19 (pc' := 21) rfl rfl rfl ?_
    have B22 := Fld.ext H20.old.2 (hv6 V)
    refine G.getF H20 (wd57 V) Via.refl B22 D10_21 (pc' := 24) rfl ?_
    intro T23 H24
    refine G.aloadN H24 D10_24 (pc' := 25) rfl rfl rfl ?_
    have B25 := Str.ext H24.old.2 (hv21 V)
    refine G.strEq H24 (strwEq V) (wd2 V) (wd59 V) (wd60 V) (wd62 V) (wd61 V) B25 F15 (hv17 V) (hv18 V) (rest := []) (W := 0) rfl rfl D10_25 (pc' := 28) rfl (by decide) (by decide) (by decide) (by decide) ?_ ?_
    ·
      intro T26 H27 c28
      exact absurd (List.cons.inj (List.cons.inj c28).2).1 cc1
    ·
      intro T29 H30 c31
      refine G.ifYes H30 D10_28 (by decide) (by decide) (pc' := 34) rfl ?_
      refine G.iinc H30 (v := 2) (L' := #[.val (.ref p0), .val (.ref a5), .val (.int 2), .val (.int 2), .val (.ref uu2)]) D10_34 (pc' := 37) rfl rfl rfl rfl ?_
      refine G.goto H30 D10_37 (by decide) (pc' := 9) rfl ?_
      show Go p e below _ (T29.setTop (mkF m 9 #[.val (.ref p0), .val (.ref a5), .val (.int 2), .val (.int 2), .val (.ref uu2)] []))
      refine G.iloadN H30 D10_9 (pc' := 10) rfl rfl ?_
      refine G.iloadN H30 D10_10 (pc' := 11) rfl rfl ?_
      refine G.icmpYes H30 D10_11 (by decide) (by decide) (pc' := 40) rfl ?_
      refine G.aconstNull H30 D10_40 (pc' := 41) rfl ?_
      have K32 : Keep h0 h1_ [] := (Keep.trans (Keep.refl h0 []) K7 all0)
      exact G.retA H30 (t := (.object "bindery/bindings/BindingType")) rfl rfl rfl D10_41 (so := []) all0 (by decide) (by decide) ⟨c31, rfl, rfl, K32⟩
set_option maxRecDepth 65536 in
set_option maxHeartbeats 40000000 in
theorem m35_named (V : Env1 Z a0 n0 uu0 uu1 uu2 uu3 uu4 uu5 uu6 uu7 uu8 uu9 uu10 uu11) (p0 : Addr) (p1 : Addr) (c0 : ClassId) (x0 : Int32) (h0 : Heap) (hO : Old Z n0 h0) (f0 : Str Z h0 p0 p1 c0 [100, 105, x0, 101, 99, 116, 111, 114, 121, 45, 111, 117, 116]) (cc1 : 114 = x0) :
    Met Z a0 ELs True n0 l (⟨"bindery/bindings/BindingType", "named", "(Ljava/lang/String;)Lbindery/bindings/BindingType;"⟩ : MethodName) prog_4_method_4_code 5 (Option.some (FieldType.object "bindery/bindings/BindingType")) ({ frames := 2, cells := 1, slots := 2, locals := 28 } : Room) #[(.ref p0)] h0 [] (fun v h so => ([100, 105, 114, 101, 99, 116, 111, 114, 121, 45, 111, 117, 116] = [100, 105, x0, 101, 99, 116, 111, 114, 121, 45, 111, 117, 116] ∧ v = some (.ref uu2) ∧ so = [] ∧ Keep h0 h [])) := by
  refine Met.of (EWl V) (by first | decide +kernel | rfl) hO (L0 := #[.val (.ref p0), .unset, .unset, .unset, .unset]) rfl ?_
  intro p e s m below meth c T H
  show Go p e below _ (T.setTop (mkF m 0 #[.val (.ref p0), .unset, .unset, .unset, .unset] []))
  refine G.callS H (m2_values V h0 H.old) (wd41 V) (wd42 V) (wd36 V) (wd43 V) (by decide) (argsL := []) (rest := []) (W := 0) rfl rfl (lenOf (pd_1) rfl) rfl rfl D10_0 (pc' := 3) rfl (by decide) (by decide) (by decide) (by decide) all0 ?_
  intro T1 h1_ v2 s3 H1 Q4
  obtain ⟨a5, k6, rfl, rfl, K7, g8, F9, F10⟩ := Q4
  have na5 : n0 ≤ a5 := Nat.le_trans H.le g8
  show Go p e below _ (T1.setTop (mkF m 3 #[.val (.ref p0), .unset, .unset, .unset, .unset] [(.ref a5)]))
  refine G.astoreN H1 (L' := #[.val (.ref p0), .val (.ref a5), .unset, .unset, .unset]) D10_3 (pc' := 4) rfl rfl rfl ?_
  refine G.aloadN H1 D10_4 (pc' := 5) rfl rfl rfl ?_
  refine G.arrlen H1 F9 D10_5 (pc' := 6) rfl ?_
  refine G.istoreN H1 (L' := #[.val (.ref p0), .val (.ref a5), .val (.int 2), .unset, .unset]) D10_6 (pc' := 7) rfl rfl ?_
  refine G.iconst H1 D10_7 (pc' := 8) rfl (v := 0) rfl ?_
  refine G.istoreN H1 (L' := #[.val (.ref p0), .val (.ref a5), .val (.int 2), .val (.int 0), .unset]) D10_8 (pc' := 9) rfl rfl ?_
  refine G.iloadN H1 D10_9 (pc' := 10) rfl rfl ?_
  refine G.iloadN H1 D10_10 (pc' := 11) rfl rfl ?_
  refine G.icmpNo H1 D10_11 (pc' := 14) rfl (by decide) ?_
  refine G.aloadN H1 D10_14 (pc' := 15) rfl rfl rfl ?_
  refine G.iloadN H1 D10_15 (pc' := 16) rfl rfl ?_
  refine G.aaloadG H1 F9 rfl (j := 0) (v := (.ref uu1)) (by decide) rfl D10_16 (pc' := 17) rfl ?_
  refine G.astore H1 (L' := #[.val (.ref p0), .val (.ref a5), .val (.int 2), .val (.int 0), .val (.ref uu1)]) D10_17 (pc' := 19) rfl rfl rfl ?_
  refine G.aload H1 D10_19 (pc' := 21) rfl rfl rfl ?_
  have B11 := Fld.ext H1.old.2 (hv8 V)
  refine G.getF H1 (wd57 V) Via.refl B11 D10_21 (pc' := 24) rfl ?_
  intro T12 H13
  refine G.aloadN H13 D10_24 (pc' := 25) rfl rfl rfl ?_
  have B14 := Str.ext H13.old.2 (hv22 V)
  have F15 := (Str.keep f0 K7 nin0 nin0)
  refine G.strEq H13 (strwEq V) (wd2 V) (wd59 V) (wd60 V) (wd62 V) (wd61 V) B14 F15 (hv17 V) (hv18 V) (rest := []) (W := 0) rfl rfl D10_25 (pc' := 28) rfl (by decide) (by decide) (by decide) (by decide) ?_ ?_
  ·
    intro T16 H17 c18
    exact absurd c18 (by intro qq; simp at qq)
  ·
    intro T19 H20 c21
    refine G.ifYes H20 D10_28 (by decide) (by decide) (pc' := 34) rfl ?_
    refine G.iinc H20 (v := 1) (L' := #[.val (.ref p0), .val (.ref a5), .val (.int 2), .val (.int 1), .val (.ref uu1)]) D10_34 (pc' := 37) rfl rfl rfl rfl ?_
    refine G.goto H20 D10_37 (by decide) (pc' := 9) rfl ?_
    show Go p e below _ (T19.setTop (mkF m 9 #[.val (.ref p0), .val (.ref a5), .val (.int 2), .val (.int 1), .val (.ref uu1)] []))
    refine G.iloadN H20 D10_9 (pc' := 10) rfl rfl ?_
    refine G.iloadN H20 D10_10 (pc' := 11) rfl rfl ?_
    refine G.icmpNo H20 D10_11 (pc' := 14) rfl (by decide) ?_
    refine G.aloadN H20 D10_14 (pc' := 15) rfl rfl rfl ?_
    refine G.iloadN H20 D10_15 (pc' := 16) rfl rfl ?_
    refine G.aaloadG H20 F9 rfl (j := 1) (v := (.ref uu2)) (by decide) rfl D10_16 (pc' := 17) rfl ?_
    refine G.astore H20 (L' := #[.val (.ref p0), .val (.ref a5), .val (.int 2), .val (.int 1), .val (.ref uu2)]) D10_17 (pc' := 19) rfl rfl rfl ?_
    refine G.aload H20 D10_19 (pc' := 21) rfl rfl rfl ?_
    have B22 := Fld.ext H20.old.2 (hv6 V)
    refine G.getF H20 (wd57 V) Via.refl B22 D10_21 (pc' := 24) rfl ?_
    intro T23 H24
    refine G.aloadN H24 D10_24 (pc' := 25) rfl rfl rfl ?_
    have B25 := Str.ext H24.old.2 (hv21 V)
    refine G.strEq H24 (strwEq V) (wd2 V) (wd59 V) (wd60 V) (wd62 V) (wd61 V) B25 F15 (hv17 V) (hv18 V) (rest := []) (W := 0) rfl rfl D10_25 (pc' := 28) rfl (by decide) (by decide) (by decide) (by decide) ?_ ?_
    ·
      intro T26 H27 c28
      refine G.ifNo H27 D10_28 (pc' := 31) rfl (by decide) ?_
      refine G.aload H27 D10_31 (pc' := 33) rfl rfl rfl ?_
      have K29 : Keep h0 h1_ [] := (Keep.trans (Keep.refl h0 []) K7 all0)
      exact G.retA H27 (t := (.object "bindery/bindings/BindingType")) rfl rfl rfl D10_33 (so := []) all0 (by decide) (by decide) ⟨c28, rfl, rfl, K29⟩
    ·
      intro T30 H31 c32
      exact absurd (lcs rfl (lcs rfl (lcs cc1 (lcs rfl (lcs rfl (lcs rfl (lcs rfl (lcs rfl (lcs rfl (lcs rfl (lcs rfl (lcs rfl (lcs rfl rfl))))))))))))) c32
set_option maxRecDepth 65536 in
set_option maxHeartbeats 40000000 in
theorem m36_named (V : Env1 Z a0 n0 uu0 uu1 uu2 uu3 uu4 uu5 uu6 uu7 uu8 uu9 uu10 uu11) (p0 : Addr) (p1 : Addr) (c0 : ClassId) (x0 : Int32) (h0 : Heap) (hO : Old Z n0 h0) (f0 : Str Z h0 p0 p1 c0 [100, 105, x0, 101, 99, 116, 111, 114, 121, 45, 111, 117, 116]) (cc1 : ¬ 114 = x0) :
    Met Z a0 ELs True n0 l (⟨"bindery/bindings/BindingType", "named", "(Ljava/lang/String;)Lbindery/bindings/BindingType;"⟩ : MethodName) prog_4_method_4_code 5 (Option.some (FieldType.object "bindery/bindings/BindingType")) ({ frames := 2, cells := 1, slots := 2, locals := 28 } : Room) #[(.ref p0)] h0 [] (fun v h so => (¬ [100, 105, 114, 101, 99, 116, 111, 114, 121, 45, 111, 117, 116] = [100, 105, x0, 101, 99, 116, 111, 114, 121, 45, 111, 117, 116] ∧ v = some .null ∧ so = [] ∧ Keep h0 h [])) := by
  refine Met.of (EWl V) (by first | decide +kernel | rfl) hO (L0 := #[.val (.ref p0), .unset, .unset, .unset, .unset]) rfl ?_
  intro p e s m below meth c T H
  show Go p e below _ (T.setTop (mkF m 0 #[.val (.ref p0), .unset, .unset, .unset, .unset] []))
  refine G.callS H (m2_values V h0 H.old) (wd41 V) (wd42 V) (wd36 V) (wd43 V) (by decide) (argsL := []) (rest := []) (W := 0) rfl rfl (lenOf (pd_1) rfl) rfl rfl D10_0 (pc' := 3) rfl (by decide) (by decide) (by decide) (by decide) all0 ?_
  intro T1 h1_ v2 s3 H1 Q4
  obtain ⟨a5, k6, rfl, rfl, K7, g8, F9, F10⟩ := Q4
  have na5 : n0 ≤ a5 := Nat.le_trans H.le g8
  show Go p e below _ (T1.setTop (mkF m 3 #[.val (.ref p0), .unset, .unset, .unset, .unset] [(.ref a5)]))
  refine G.astoreN H1 (L' := #[.val (.ref p0), .val (.ref a5), .unset, .unset, .unset]) D10_3 (pc' := 4) rfl rfl rfl ?_
  refine G.aloadN H1 D10_4 (pc' := 5) rfl rfl rfl ?_
  refine G.arrlen H1 F9 D10_5 (pc' := 6) rfl ?_
  refine G.istoreN H1 (L' := #[.val (.ref p0), .val (.ref a5), .val (.int 2), .unset, .unset]) D10_6 (pc' := 7) rfl rfl ?_
  refine G.iconst H1 D10_7 (pc' := 8) rfl (v := 0) rfl ?_
  refine G.istoreN H1 (L' := #[.val (.ref p0), .val (.ref a5), .val (.int 2), .val (.int 0), .unset]) D10_8 (pc' := 9) rfl rfl ?_
  refine G.iloadN H1 D10_9 (pc' := 10) rfl rfl ?_
  refine G.iloadN H1 D10_10 (pc' := 11) rfl rfl ?_
  refine G.icmpNo H1 D10_11 (pc' := 14) rfl (by decide) ?_
  refine G.aloadN H1 D10_14 (pc' := 15) rfl rfl rfl ?_
  refine G.iloadN H1 D10_15 (pc' := 16) rfl rfl ?_
  refine G.aaloadG H1 F9 rfl (j := 0) (v := (.ref uu1)) (by decide) rfl D10_16 (pc' := 17) rfl ?_
  refine G.astore H1 (L' := #[.val (.ref p0), .val (.ref a5), .val (.int 2), .val (.int 0), .val (.ref uu1)]) D10_17 (pc' := 19) rfl rfl rfl ?_
  refine G.aload H1 D10_19 (pc' := 21) rfl rfl rfl ?_
  have B11 := Fld.ext H1.old.2 (hv8 V)
  refine G.getF H1 (wd57 V) Via.refl B11 D10_21 (pc' := 24) rfl ?_
  intro T12 H13
  refine G.aloadN H13 D10_24 (pc' := 25) rfl rfl rfl ?_
  have B14 := Str.ext H13.old.2 (hv22 V)
  have F15 := (Str.keep f0 K7 nin0 nin0)
  refine G.strEq H13 (strwEq V) (wd2 V) (wd59 V) (wd60 V) (wd62 V) (wd61 V) B14 F15 (hv17 V) (hv18 V) (rest := []) (W := 0) rfl rfl D10_25 (pc' := 28) rfl (by decide) (by decide) (by decide) (by decide) ?_ ?_
  ·
    intro T16 H17 c18
    exact absurd c18 (by intro qq; simp at qq)
  ·
    intro T19 H20 c21
    refine G.ifYes H20 D10_28 (by decide) (by decide) (pc' := 34) rfl ?_
    refine G.iinc H20 (v := 1) (L' := #[.val (.ref p0), .val (.ref a5), .val (.int 2), .val (.int 1), .val (.ref uu1)]) D10_34 (pc' := 37) rfl rfl rfl rfl ?_
    refine G.goto H20 D10_37 (by decide) (pc' := 9) rfl ?_
    show Go p e below _ (T19.setTop (mkF m 9 #[.val (.ref p0), .val (.ref a5), .val (.int 2), .val (.int 1), .val (.ref uu1)] []))
    refine G.iloadN H20 D10_9 (pc' := 10) rfl rfl ?_
    refine G.iloadN H20 D10_10 (pc' := 11) rfl rfl ?_
    refine G.icmpNo H20 D10_11 (pc' := 14) rfl (by decide) ?_
    refine G.aloadN H20 D10_14 (pc' := 15) rfl rfl rfl ?_
    refine G.iloadN H20 D10_15 (pc' := 16) rfl rfl ?_
    refine G.aaloadG H20 F9 rfl (j := 1) (v := (.ref uu2)) (by decide) rfl D10_16 (pc' := 17) rfl ?_
    refine G.astore H20 (L' := #[.val (.ref p0), .val (.ref a5), .val (.int 2), .val (.int 1), .val (.ref uu2)]) D10_17 (pc' := 19) rfl rfl rfl ?_
    refine G.aload H20 D10_19 (pc' := 21) rfl rfl rfl ?_
    have B22 := Fld.ext H20.old.2 (hv6 V)
    refine G.getF H20 (wd57 V) Via.refl B22 D10_21 (pc' := 24) rfl ?_
    intro T23 H24
    refine G.aloadN H24 D10_24 (pc' := 25) rfl rfl rfl ?_
    have B25 := Str.ext H24.old.2 (hv21 V)
    refine G.strEq H24 (strwEq V) (wd2 V) (wd59 V) (wd60 V) (wd62 V) (wd61 V) B25 F15 (hv17 V) (hv18 V) (rest := []) (W := 0) rfl rfl D10_25 (pc' := 28) rfl (by decide) (by decide) (by decide) (by decide) ?_ ?_
    ·
      intro T26 H27 c28
      exact absurd (List.cons.inj (List.cons.inj (List.cons.inj c28).2).2).1 cc1
    ·
      intro T29 H30 c31
      refine G.ifYes H30 D10_28 (by decide) (by decide) (pc' := 34) rfl ?_
      refine G.iinc H30 (v := 2) (L' := #[.val (.ref p0), .val (.ref a5), .val (.int 2), .val (.int 2), .val (.ref uu2)]) D10_34 (pc' := 37) rfl rfl rfl rfl ?_
      refine G.goto H30 D10_37 (by decide) (pc' := 9) rfl ?_
      show Go p e below _ (T29.setTop (mkF m 9 #[.val (.ref p0), .val (.ref a5), .val (.int 2), .val (.int 2), .val (.ref uu2)] []))
      refine G.iloadN H30 D10_9 (pc' := 10) rfl rfl ?_
      refine G.iloadN H30 D10_10 (pc' := 11) rfl rfl ?_
      refine G.icmpYes H30 D10_11 (by decide) (by decide) (pc' := 40) rfl ?_
      refine G.aconstNull H30 D10_40 (pc' := 41) rfl ?_
      have K32 : Keep h0 h1_ [] := (Keep.trans (Keep.refl h0 []) K7 all0)
      exact G.retA H30 (t := (.object "bindery/bindings/BindingType")) rfl rfl rfl D10_41 (so := []) all0 (by decide) (by decide) ⟨c31, rfl, rfl, K32⟩
set_option maxRecDepth 65536 in
set_option maxHeartbeats 40000000 in
theorem m37_named (V : Env1 Z a0 n0 uu0 uu1 uu2 uu3 uu4 uu5 uu6 uu7 uu8 uu9 uu10 uu11) (p0 : Addr) (p1 : Addr) (c0 : ClassId) (x0 : Int32) (h0 : Heap) (hO : Old Z n0 h0) (f0 : Str Z h0 p0 p1 c0 [100, 105, 114, x0, 99, 116, 111, 114, 121, 45, 111, 117, 116]) (cc1 : 101 = x0) :
    Met Z a0 ELs True n0 l (⟨"bindery/bindings/BindingType", "named", "(Ljava/lang/String;)Lbindery/bindings/BindingType;"⟩ : MethodName) prog_4_method_4_code 5 (Option.some (FieldType.object "bindery/bindings/BindingType")) ({ frames := 2, cells := 1, slots := 2, locals := 28 } : Room) #[(.ref p0)] h0 [] (fun v h so => ([100, 105, 114, 101, 99, 116, 111, 114, 121, 45, 111, 117, 116] = [100, 105, 114, x0, 99, 116, 111, 114, 121, 45, 111, 117, 116] ∧ v = some (.ref uu2) ∧ so = [] ∧ Keep h0 h [])) := by
  refine Met.of (EWl V) (by first | decide +kernel | rfl) hO (L0 := #[.val (.ref p0), .unset, .unset, .unset, .unset]) rfl ?_
  intro p e s m below meth c T H
  show Go p e below _ (T.setTop (mkF m 0 #[.val (.ref p0), .unset, .unset, .unset, .unset] []))
  refine G.callS H (m2_values V h0 H.old) (wd41 V) (wd42 V) (wd36 V) (wd43 V) (by decide) (argsL := []) (rest := []) (W := 0) rfl rfl (lenOf (pd_1) rfl) rfl rfl D10_0 (pc' := 3) rfl (by decide) (by decide) (by decide) (by decide) all0 ?_
  intro T1 h1_ v2 s3 H1 Q4
  obtain ⟨a5, k6, rfl, rfl, K7, g8, F9, F10⟩ := Q4
  have na5 : n0 ≤ a5 := Nat.le_trans H.le g8
  show Go p e below _ (T1.setTop (mkF m 3 #[.val (.ref p0), .unset, .unset, .unset, .unset] [(.ref a5)]))
  refine G.astoreN H1 (L' := #[.val (.ref p0), .val (.ref a5), .unset, .unset, .unset]) D10_3 (pc' := 4) rfl rfl rfl ?_
  refine G.aloadN H1 D10_4 (pc' := 5) rfl rfl rfl ?_
  refine G.arrlen H1 F9 D10_5 (pc' := 6) rfl ?_
  refine G.istoreN H1 (L' := #[.val (.ref p0), .val (.ref a5), .val (.int 2), .unset, .unset]) D10_6 (pc' := 7) rfl rfl ?_
  refine G.iconst H1 D10_7 (pc' := 8) rfl (v := 0) rfl ?_
  refine G.istoreN H1 (L' := #[.val (.ref p0), .val (.ref a5), .val (.int 2), .val (.int 0), .unset]) D10_8 (pc' := 9) rfl rfl ?_
  refine G.iloadN H1 D10_9 (pc' := 10) rfl rfl ?_
  refine G.iloadN H1 D10_10 (pc' := 11) rfl rfl ?_
  refine G.icmpNo H1 D10_11 (pc' := 14) rfl (by decide) ?_
  refine G.aloadN H1 D10_14 (pc' := 15) rfl rfl rfl ?_
  refine G.iloadN H1 D10_15 (pc' := 16) rfl rfl ?_
  refine G.aaloadG H1 F9 rfl (j := 0) (v := (.ref uu1)) (by decide) rfl D10_16 (pc' := 17) rfl ?_
  refine G.astore H1 (L' := #[.val (.ref p0), .val (.ref a5), .val (.int 2), .val (.int 0), .val (.ref uu1)]) D10_17 (pc' := 19) rfl rfl rfl ?_
  refine G.aload H1 D10_19 (pc' := 21) rfl rfl rfl ?_
  have B11 := Fld.ext H1.old.2 (hv8 V)
  refine G.getF H1 (wd57 V) Via.refl B11 D10_21 (pc' := 24) rfl ?_
  intro T12 H13
  refine G.aloadN H13 D10_24 (pc' := 25) rfl rfl rfl ?_
  have B14 := Str.ext H13.old.2 (hv22 V)
  have F15 := (Str.keep f0 K7 nin0 nin0)
  refine G.strEq H13 (strwEq V) (wd2 V) (wd59 V) (wd60 V) (wd62 V) (wd61 V) B14 F15 (hv17 V) (hv18 V) (rest := []) (W := 0) rfl rfl D10_25 (pc' := 28) rfl (by decide) (by decide) (by decide) (by decide) ?_ ?_
  ·
    intro T16 H17 c18
    exact absurd c18 (by intro qq; simp at qq)
  ·
    intro T19 H20 c21
    refine G.ifYes H20 D10_28 (by decide) (by decide) (pc' := 34) rfl ?_
    refine G.iinc H20 (v := 1) (L' := #[.val (.ref p0), .val (.ref a5), .val (.int 2), .val (.int 1), .val (.ref uu1)]) D10_34 (pc' := 37) rfl rfl rfl rfl ?_
    refine G.goto H20 D10_37 (by decide) (pc' := 9) rfl ?_
    show Go p e below _ (T19.setTop (mkF m 9 #[.val (.ref p0), .val (.ref a5), .val (.int 2), .val (.int 1), .val (.ref uu1)] []))
    refine G.iloadN H20 D10_9 (pc' := 10) rfl rfl ?_
    refine G.iloadN H20 D10_10 (pc' := 11) rfl rfl ?_
    refine G.icmpNo H20 D10_11 (pc' := 14) rfl (by decide) ?_
    refine G.aloadN H20 D10_14 (pc' := 15) rfl rfl rfl ?_
    refine G.iloadN H20 D10_15 (pc' := 16) rfl rfl ?_
    refine G.aaloadG H20 F9 rfl (j := 1) (v := (.ref uu2)) (by decide) rfl D10_16 (pc' := 17) rfl ?_
    refine G.astore H20 (L' := #[.val (.ref p0), .val (.ref a5), .val (.int 2), .val (.int 1), .val (.ref uu2)]) D10_17 (pc' := 19) rfl rfl rfl ?_
    refine G.aload H20 D10_19 (pc' := 21) rfl rfl rfl ?_
    have B22 := Fld.ext H20.old.2 (hv6 V)
    refine G.getF H20 (wd57 V) Via.refl B22 D10_21 (pc' := 24) rfl ?_
    intro T23 H24
    refine G.aloadN H24 D10_24 (pc' := 25) rfl rfl rfl ?_
    have B25 := Str.ext H24.old.2 (hv21 V)
    refine G.strEq H24 (strwEq V) (wd2 V) (wd59 V) (wd60 V) (wd62 V) (wd61 V) B25 F15 (hv17 V) (hv18 V) (rest := []) (W := 0) rfl rfl D10_25 (pc' := 28) rfl (by decide) (by decide) (by decide) (by decide) ?_ ?_
    ·
      intro T26 H27 c28
      refine G.ifNo H27 D10_28 (pc' := 31) rfl (by decide) ?_
      refine G.aload H27 D10_31 (pc' := 33) rfl rfl rfl ?_
      have K29 : Keep h0 h1_ [] := (Keep.trans (Keep.refl h0 []) K7 all0)
      exact G.retA H27 (t := (.object "bindery/bindings/BindingType")) rfl rfl rfl D10_33 (so := []) all0 (by decide) (by decide) ⟨c28, rfl, rfl, K29⟩
    ·
      intro T30 H31 c32
      exact absurd (lcs rfl (lcs rfl (lcs rfl (lcs cc1 (lcs rfl (lcs rfl (lcs rfl (lcs rfl (lcs rfl (lcs rfl (lcs rfl (lcs rfl (lcs rfl rfl))))))))))))) c32
set_option maxRecDepth 65536 in
set_option maxHeartbeats 40000000 in
theorem m38_named (V : Env1 Z a0 n0 uu0 uu1 uu2 uu3 uu4 uu5 uu6 uu7 uu8 uu9 uu10 uu11) (p0 : Addr) (p1 : Addr) (c0 : ClassId) (x0 : Int32) (h0 : Heap) (hO : Old Z n0 h0) (f0 : Str Z h0 p0 p1 c0 [100, 105, 114, x0, 99, 116, 111, 114, 121, 45, 111, 117, 116]) (cc1 : ¬ 101 = x0) :
    Met Z a0 ELs True n0 l (⟨"bindery/bindings/BindingType", "named", "(Ljava/lang/String;)Lbindery/bindings/BindingType;"⟩ : MethodName) prog_4_method_4_code 5 (Option.some (FieldType.object "bindery/bindings/BindingType")) ({ frames := 2, cells := 1, slots := 2, locals := 28 } : Room) #[(.ref p0)] h0 [] (fun v h so => (¬ [100, 105, 114, 101, 99, 116, 111, 114, 121, 45, 111, 117, 116] = [100, 105, 114, x0, 99, 116, 111, 114, 121, 45, 111, 117, 116] ∧ v = some .null ∧ so = [] ∧ Keep h0 h [])) := by
  refine Met.of (EWl V) (by first | decide +kernel | rfl) hO (L0 := #[.val (.ref p0), .unset, .unset, .unset, .unset]) rfl ?_
  intro p e s m below meth c T H
  show Go p e below _ (T.setTop (mkF m 0 #[.val (.ref p0), .unset, .unset, .unset, .unset] []))
  refine G.callS H (m2_values V h0 H.old) (wd41 V) (wd42 V) (wd36 V) (wd43 V) (by decide) (argsL := []) (rest := []) (W := 0) rfl rfl (lenOf (pd_1) rfl) rfl rfl D10_0 (pc' := 3) rfl (by decide) (by decide) (by decide) (by decide) all0 ?_
  intro T1 h1_ v2 s3 H1 Q4
  obtain ⟨a5, k6, rfl, rfl, K7, g8, F9, F10⟩ := Q4
  have na5 : n0 ≤ a5 := Nat.le_trans H.le g8
  show Go p e below _ (T1.setTop (mkF m 3 #[.val (.ref p0), .unset, .unset, .unset, .unset] [(.ref a5)]))
  refine G.astoreN H1 (L' := #[.val (.ref p0), .val (.ref a5), .unset, .unset, .unset]) D10_3 (pc' := 4) rfl rfl rfl ?_
  refine G.aloadN H1 D10_4 (pc' := 5) rfl rfl rfl ?_
  refine G.arrlen H1 F9 D10_5 (pc' := 6) rfl ?_
  refine G.istoreN H1 (L' := #[.val (.ref p0), .val (.ref a5), .val (.int 2), .unset, .unset]) D10_6 (pc' := 7) rfl rfl ?_
  refine G.iconst H1 D10_7 (pc' := 8) rfl (v := 0) rfl ?_
  refine G.istoreN H1 (L' := #[.val (.ref p0), .val (.ref a5), .val (.int 2), .val (.int 0), .unset]) D10_8 (pc' := 9) rfl rfl ?_
  refine G.iloadN H1 D10_9 (pc' := 10) rfl rfl ?_
  refine G.iloadN H1 D10_10 (pc' := 11) rfl rfl ?_
  refine G.icmpNo H1 D10_11 (pc' := 14) rfl (by decide) ?_
  refine G.aloadN H1 D10_14 (pc' := 15) rfl rfl rfl ?_
  refine G.iloadN H1 D10_15 (pc' := 16) rfl rfl ?_
  refine G.aaloadG H1 F9 rfl (j := 0) (v := (.ref uu1)) (by decide) rfl D10_16 (pc' := 17) rfl ?_
  refine G.astore H1 (L' := #[.val (.ref p0), .val (.ref a5), .val (.int 2), .val (.int 0), .val (.ref uu1)]) D10_17 (pc' := 19) rfl rfl rfl ?_
  refine G.aload H1 D10_19 (pc' := 21) rfl rfl rfl ?_
  have B11 := Fld.ext H1.old.2 (hv8 V)
  refine G.getF H1 (wd57 V) Via.refl B11 D10_21 (pc' := 24) rfl ?_
  intro T12 H13
  refine G.aloadN H13 D10_24 (pc' := 25) rfl rfl rfl ?_
  have B14 := Str.ext H13.old.2 (hv22 V)
  have F15 := (Str.keep f0 K7 nin0 nin0)
  refine G.strEq H13 (strwEq V) (wd2 V) (wd59 V) (wd60 V) (wd62 V) (wd61 V) B14 F15 (hv17 V) (hv18 V) (rest := []) (W := 0) rfl rfl D10_25 (pc' := 28) rfl (by decide) (by decide) (by decide) (by decide) ?_ ?_
  ·
    intro T16 H17 c18
    exact absurd c18 (by intro qq; simp at qq)
  ·
    intro T19 H20 c21
    refine G.ifYes H20 D10_28 (by decide) (by decide) (pc' := 34) rfl ?_
    refine G.iinc H20 (v := 1) (L' := #[.val (.ref p0), .val (.ref a5), .val (.int 2), .val (.int 1), .val (.ref uu1)]) D10_34 (pc' := 37) rfl rfl rfl rfl ?_
    refine G.goto H20 D10_37 (by decide) (pc' := 9) rfl ?_
    show Go p e below _ (T19.setTop (mkF m 9 #[.val (.ref p0), .val (.ref a5), .val (.int 2), .val (.int 1), .val (.ref uu1)] []))
    refine G.iloadN H20 D10_9 (pc' := 10) rfl rfl ?_
    refine G.iloadN H20 D10_10 (pc' := 11) rfl rfl ?_
    refine G.icmpNo H20 D10_11 (pc' := 14) rfl (by decide) ?_
    refine G.aloadN H20 D10_14 (pc' := 15) rfl rfl rfl ?_
    refine G.iloadN H20 D10_15 (pc' := 16) rfl rfl ?_
    refine G.aaloadG H20 F9 rfl (j := 1) (v := (.ref uu2)) (by decide) rfl D10_16 (pc' := 17) rfl ?_
    refine G.astore H20 (L' := #[.val (.ref p0), .val (.ref a5), .val (.int 2), .val (.int 1), .val (.ref uu2)]) D10_17 (pc' := 19) rfl rfl rfl ?_
    refine G.aload H20 D10_19 (pc' := 21) rfl rfl rfl ?_
    have B22 := Fld.ext H20.old.2 (hv6 V)
    refine G.getF H20 (wd57 V) Via.refl B22 D10_21 (pc' := 24) rfl ?_
    intro T23 H24
    refine G.aloadN H24 D10_24 (pc' := 25) rfl rfl rfl ?_
    have B25 := Str.ext H24.old.2 (hv21 V)
    refine G.strEq H24 (strwEq V) (wd2 V) (wd59 V) (wd60 V) (wd62 V) (wd61 V) B25 F15 (hv17 V) (hv18 V) (rest := []) (W := 0) rfl rfl D10_25 (pc' := 28) rfl (by decide) (by decide) (by decide) (by decide) ?_ ?_
    ·
      intro T26 H27 c28
      exact absurd (List.cons.inj (List.cons.inj (List.cons.inj (List.cons.inj c28).2).2).2).1 cc1
    ·
      intro T29 H30 c31
      refine G.ifYes H30 D10_28 (by decide) (by decide) (pc' := 34) rfl ?_
      refine G.iinc H30 (v := 2) (L' := #[.val (.ref p0), .val (.ref a5), .val (.int 2), .val (.int 2), .val (.ref uu2)]) D10_34 (pc' := 37) rfl rfl rfl rfl ?_
      refine G.goto H30 D10_37 (by decide) (pc' := 9) rfl ?_
      show Go p e below _ (T29.setTop (mkF m 9 #[.val (.ref p0), .val (.ref a5), .val (.int 2), .val (.int 2), .val (.ref uu2)] []))
      refine G.iloadN H30 D10_9 (pc' := 10) rfl rfl ?_
      refine G.iloadN H30 D10_10 (pc' := 11) rfl rfl ?_
      refine G.icmpYes H30 D10_11 (by decide) (by decide) (pc' := 40) rfl ?_
      refine G.aconstNull H30 D10_40 (pc' := 41) rfl ?_
      have K32 : Keep h0 h1_ [] := (Keep.trans (Keep.refl h0 []) K7 all0)
      exact G.retA H30 (t := (.object "bindery/bindings/BindingType")) rfl rfl rfl D10_41 (so := []) all0 (by decide) (by decide) ⟨c31, rfl, rfl, K32⟩
set_option maxRecDepth 65536 in
set_option maxHeartbeats 40000000 in
theorem m39_named (V : Env1 Z a0 n0 uu0 uu1 uu2 uu3 uu4 uu5 uu6 uu7 uu8 uu9 uu10 uu11) (p0 : Addr) (p1 : Addr) (c0 : ClassId) (x0 : Int32) (h0 : Heap) (hO : Old Z n0 h0) (f0 : Str Z h0 p0 p1 c0 [100, 105, 114, 101, x0, 116, 111, 114, 121, 45, 111, 117, 116]) (cc1 : 99 = x0) :
    Met Z a0 ELs True n0 l (⟨"bindery/bindings/BindingType", "named", "(Ljava/lang/String;)Lbindery/bindings/BindingType;"⟩ : MethodName) prog_4_method_4_code 5 (Option.some (FieldType.object "bindery/bindings/BindingType")) ({ frames := 2, cells := 1, slots := 2, locals := 28 } : Room) #[(.ref p0)] h0 [] (fun v h so => ([100, 105, 114, 101, 99, 116, 111, 114, 121, 45, 111, 117, 116] = [100, 105, 114, 101, x0, 116, 111, 114, 121, 45, 111, 117, 116] ∧ v = some (.ref uu2) ∧ so = [] ∧ Keep h0 h [])) := by
  refine Met.of (EWl V) (by first | decide +kernel | rfl) hO (L0 := #[.val (.ref p0), .unset, .unset, .unset, .unset]) rfl ?_
  intro p e s m below meth c T H
  show Go p e below _ (T.setTop (mkF m 0 #[.val (.ref p0), .unset, .unset, .unset, .unset] []))
  refine G.callS H (m2_values V h0 H.old) (wd41 V) (wd42 V) (wd36 V) (wd43 V) (by decide) (argsL := []) (rest := []) (W := 0) rfl rfl (lenOf (pd_1) rfl) rfl rfl D10_0 (pc' := 3) rfl (by decide) (by decide) (by decide) (by decide) all0 ?_
  intro T1 h1_ v2 s3 H1 Q4
  obtain ⟨a5, k6, rfl, rfl, K7, g8, F9, F10⟩ := Q4
  have na5 : n0 ≤ a5 := Nat.le_trans H.le g8
  show Go p e below _ (T1.setTop (mkF m 3 #[.val (.ref p0), .unset, .unset, .unset, .unset] [(.ref a5)]))
  refine G.astoreN H1 (L' := #[.val (.ref p0), .val (.ref a5), .unset, .unset, .unset]) D10_3 (pc' := 4) rfl rfl rfl ?_
  refine G.aloadN H1 D10_4 (pc' := 5) rfl rfl rfl ?_
  refine G.arrlen H1 F9 D10_5 (pc' := 6) rfl ?_
  refine G.istoreN H1 (L' := #[.val (.ref p0), .val (.ref a5), .val (.int 2), .unset, .unset]) D10_6 (pc' := 7) rfl rfl ?_
  refine G.iconst H1 D10_7 (pc' := 8) rfl (v := 0) rfl ?_
  refine G.istoreN H1 (L' := #[.val (.ref p0), .val (.ref a5), .val (.int 2), .val (.int 0), .unset]) D10_8 (pc' := 9) rfl rfl ?_
  refine G.iloadN H1 D10_9 (pc' := 10) rfl rfl ?_
  refine G.iloadN H1 D10_10 (pc' := 11) rfl rfl ?_
  refine G.icmpNo H1 D10_11 (pc' := 14) rfl (by decide) ?_
  refine G.aloadN H1 D10_14 (pc' := 15) rfl rfl rfl ?_
  refine G.iloadN H1 D10_15 (pc' := 16) rfl rfl ?_
  refine G.aaloadG H1 F9 rfl (j := 0) (v := (.ref uu1)) (by decide) rfl D10_16 (pc' := 17) rfl ?_
  refine G.astore H1 (L' := #[.val (.ref p0), .val (.ref a5), .val (.int 2), .val (.int 0), .val (.ref uu1)]) D10_17 (pc' := 19) rfl rfl rfl ?_
  refine G.aload H1 D10_19 (pc' := 21) rfl rfl rfl ?_
  have B11 := Fld.ext H1.old.2 (hv8 V)
  refine G.getF H1 (wd57 V) Via.refl B11 D10_21 (pc' := 24) rfl ?_
  intro T12 H13
  refine G.aloadN H13 D10_24 (pc' := 25) rfl rfl rfl ?_
  have B14 := Str.ext H13.old.2 (hv22 V)
  have F15 := (Str.keep f0 K7 nin0 nin0)
  refine G.strEq H13 (strwEq V) (wd2 V) (wd59 V) (wd60 V) (wd62 V) (wd61 V) B14 F15 (hv17 V) (hv18 V) (rest := []) (W := 0) rfl rfl D10_25 (pc' := 28) rfl (by decide) (by decide) (by decide) (by decide) ?_ ?_
  ·
    intro T16 H17 c18
    exact absurd c18 (by intro qq; simp at qq)
  ·
    intro T19 H20 c21
    refine G.ifYes H20 D10_28 (by decide) (by decide) (pc' := 34) rfl ?_
    refine G.iinc H20 (v := 1) (L' := #[.val (.ref p0), .val (.ref a5), .val (.int 2), .val (.int 1), .val (.ref uu1)]) D10_34 (pc' := 37) rfl rfl rfl rfl ?_
    refine G.goto H20 D10_37 (by decide) (pc' := 9) rfl ?_
    show Go p e below _ (T19.setTop (mkF m 9 #[.val (.ref p0), .val (.ref a5), .val (.int 2), .val (.int 1), .val (.ref uu1)] []))
    refine G.iloadN H20 D10_9 (pc' := 10) rfl rfl ?_
    refine G.iloadN H20 D10_10 (pc' := 11) rfl rfl ?_
    refine G.icmpNo H20 D10_11 (pc' := 14) rfl (by decide) ?_
    refine G.aloadN H20 D10_14 (pc' := 15) rfl rfl rfl ?_
    refine G.iloadN H20 D10_15 (pc' := 16) rfl rfl ?_
    refine G.aaloadG H20 F9 rfl (j := 1) (v := (.ref uu2)) (by decide) rfl D10_16 (pc' := 17) rfl ?_
    refine G.astore H20 (L' := #[.val (.ref p0), .val (.ref a5), .val (.int 2), .val (.int 1), .val (.ref uu2)]) D10_17 (pc' := 19) rfl rfl rfl ?_
    refine G.aload H20 D10_19 (pc' := 21) rfl rfl rfl ?_
    have B22 := Fld.ext H20.old.2 (hv6 V)
    refine G.getF H20 (wd57 V) Via.refl B22 D10_21 (pc' := 24) rfl ?_
    intro T23 H24
    refine G.aloadN H24 D10_24 (pc' := 25) rfl rfl rfl ?_
    have B25 := Str.ext H24.old.2 (hv21 V)
    refine G.strEq H24 (strwEq V) (wd2 V) (wd59 V) (wd60 V) (wd62 V) (wd61 V) B25 F15 (hv17 V) (hv18 V) (rest := []) (W := 0) rfl rfl D10_25 (pc' := 28) rfl (by decide) (by decide) (by decide) (by decide) ?_ ?_
    ·
      intro T26 H27 c28
      refine G.ifNo H27 D10_28 (pc' := 31) rfl (by decide) ?_
      refine G.aload H27 D10_31 (pc' := 33) rfl rfl rfl ?_
      have K29 : Keep h0 h1_ [] := (Keep.trans (Keep.refl h0 []) K7 all0)
      exact G.retA H27 (t := (.object "bindery/bindings/BindingType")) rfl rfl rfl D10_33 (so := []) all0 (by decide) (by decide) ⟨c28, rfl, rfl, K29⟩
    ·
      intro T30 H31 c32
      exact absurd (lcs rfl (lcs rfl (lcs rfl (lcs rfl (lcs cc1 (lcs rfl (lcs rfl (lcs rfl (lcs rfl (lcs rfl (lcs rfl (lcs rfl (lcs rfl rfl))))))))))))) c32
set_option maxRecDepth 65536 in
set_option maxHeartbeats 40000000 in
theorem m40_named (V : Env1 Z a0 n0 uu0 uu1 uu2 uu3 uu4 uu5 uu6 uu7 uu8 uu9 uu10 uu11) (p0 : Addr) (p1 : Addr) (c0 : ClassId) (x0 : Int32) (h0 : Heap) (hO : Old Z n0 h0) (f0 : Str Z h0 p0 p1 c0 [100, 105, 114, 101, x0, 116, 111, 114, 121, 45, 111, 117, 116]) (cc1 : ¬ 99 = x0) :
    Met Z a0 ELs True n0 l (⟨"bindery/bindings/BindingType", "named", "(Ljava/lang/String;)Lbindery/bindings/BindingType;"⟩ : MethodName) prog_4_method_4_code 5 (Option.some (FieldType.object "bindery/bindings/BindingType")) ({ frames := 2, cells := 1, slots := 2, locals := 28 } : Room) #[(.ref p0)] h0 [] (fun v h so => (¬ [100, 105, 114, 101, 99, 116, 111, 114, 121, 45, 111, 117, 116] = [100, 105, 114, 101, x0, 116, 111, 114, 121, 45, 111, 117, 116] ∧ v = some .null ∧ so = [] ∧ Keep h0 h [])) := by
  refine Met.of (EWl V) (by first | decide +kernel | rfl) hO (L0 := #[.val (.ref p0), .unset, .unset, .unset, .unset]) rfl ?_
  intro p e s m below meth c T H
  show Go p e below _ (T.setTop (mkF m 0 #[.val (.ref p0), .unset, .unset, .unset, .unset] []))
  refine G.callS H (m2_values V h0 H.old) (wd41 V) (wd42 V) (wd36 V) (wd43 V) (by decide) (argsL := []) (rest := []) (W := 0) rfl rfl (lenOf (pd_1) rfl) rfl rfl D10_0 (pc' := 3) rfl (by decide) (by decide) (by decide) (by decide) all0 ?_
  intro T1 h1_ v2 s3 H1 Q4
  obtain ⟨a5, k6, rfl, rfl, K7, g8, F9, F10⟩ := Q4
  have na5 : n0 ≤ a5 := Nat.le_trans H.le g8
  show Go p e below _ (T1.setTop (mkF m 3 #[.val (.ref p0), .unset, .unset, .unset, .unset] [(.ref a5)]))
  refine G.astoreN H1 (L' := #[.val (.ref p0), .val (.ref a5), .unset, .unset, .unset]) D10_3 (pc' := 4) rfl rfl rfl ?_
  refine G.aloadN H1 D10_4 (pc' := 5) rfl rfl rfl ?_
  refine G.arrlen H1 F9 D10_5 (pc' := 6) rfl ?_
  refine G.istoreN H1 (L' := #[.val (.ref p0), .val (.ref a5), .val (.int 2), .unset, .unset]) D10_6 (pc' := 7) rfl rfl ?_
  refine G.iconst H1 D10_7 (pc' := 8) rfl (v := 0) rfl ?_
  refine G.istoreN H1 (L' := #[.val (.ref p0), .val (.ref a5), .val (.int 2), .val (.int 0), .unset]) D10_8 (pc' := 9) rfl rfl ?_
  refine G.iloadN H1 D10_9 (pc' := 10) rfl rfl ?_
  refine G.iloadN H1 D10_10 (pc' := 11) rfl rfl ?_
  refine G.icmpNo H1 D10_11 (pc' := 14) rfl (by decide) ?_
  refine G.aloadN H1 D10_14 (pc' := 15) rfl rfl rfl ?_
  refine G.iloadN H1 D10_15 (pc' := 16) rfl rfl ?_
  refine G.aaloadG H1 F9 rfl (j := 0) (v := (.ref uu1)) (by decide) rfl D10_16 (pc' := 17) rfl ?_
  refine G.astore H1 (L' := #[.val (.ref p0), .val (.ref a5), .val (.int 2), .val (.int 0), .val (.ref uu1)]) D10_17 (pc' := 19) rfl rfl rfl ?_
  refine G.aload H1 D10_19 (pc' := 21) rfl rfl rfl ?_
  have B11 := Fld.ext H1.old.2 (hv8 V)
  refine G.getF H1 (wd57 V) Via.refl B11 D10_21 (pc' := 24) rfl ?_
  intro T12 H13
  refine G.aloadN H13 D10_24 (pc' := 25) rfl rfl rfl ?_
  have B14 := Str.ext H13.old.2 (hv22 V)
  have F15 := (Str.keep f0 K7 nin0 nin0)
  refine G.strEq H13 (strwEq V) (wd2 V) (wd59 V) (wd60 V) (wd62 V) (wd61 V) B14 F15 (hv17 V) (hv18 V) (rest := []) (W := 0) rfl rfl D10_25 (pc' := 28) rfl (by decide) (by decide) (by decide) (by decide) ?_ ?_
  ·
    intro T16 H17 c18
    exact absurd c18 (by intro qq; simp at qq)
  ·
    intro T19 H20 c21
    refine G.ifYes H20 D10_28 (by decide) (by decide) (pc' := 34) rfl ?_
    refine G.iinc H20 (v := 1) (L' := #[.val (.ref p0), .val (.ref a5), .val (.int 2), .val (.int 1), .val (.ref uu1)]) D10_34 (pc' := 37) rfl rfl rfl rfl ?_
    refine G.goto H20 D10_37 (by decide) (pc' := 9) rfl ?_
    show Go p e below _ (T19.setTop (mkF m 9 #[.val (.ref p0), .val (.ref a5), .val (.int 2), .val (.int 1), .val (.ref uu1)] []))
    refine G.iloadN H20 D10_9 (pc' := 10) rfl rfl ?_
    refine G.iloadN H20 D10_10 (pc' := 11) rfl rfl ?_
    refine G.icmpNo H20 D10_11 (pc' := 14) rfl (by decide) ?_
    refine G.aloadN H20 D10_14 (pc' := 15) rfl rfl rfl ?_
    refine G.iloadN H20 D10_15 (pc' := 16) rfl rfl ?_
    refine G.aaloadG H20 F9 rfl (j := 1) (v := (.ref uu2)) (by decide) rfl D10_16 (pc' := 17) rfl ?_
    refine G.astore H20 (L' := #[.val (.ref p0), .val (.ref a5), .val (.int 2), .val (.int 1), .val (.ref uu2)]) D10_17 (pc' := 19) rfl rfl rfl ?_
    refine G.aload H20 D10_19 (pc' := 21) rfl rfl rfl ?_
    have B22 := Fld.ext H20.old.2 (hv6 V)
    refine G.getF H20 (wd57 V) Via.refl B22 D10_21 (pc' := 24) rfl ?_
    intro T23 H24
    refine G.aloadN H24 D10_24 (pc' := 25) rfl rfl rfl ?_
    have B25 := Str.ext H24.old.2 (hv21 V)
    refine G.strEq H24 (strwEq V) (wd2 V) (wd59 V) (wd60 V) (wd62 V) (wd61 V) B25 F15 (hv17 V) (hv18 V) (rest := []) (W := 0) rfl rfl D10_25 (pc' := 28) rfl (by decide) (by decide) (by decide) (by decide) ?_ ?_
    ·
      intro T26 H27 c28
      exact absurd (List.cons.inj (List.cons.inj (List.cons.inj (List.cons.inj (List.cons.inj c28).2).2).2).2).1 cc1
    ·
      intro T29 H30 c31
      refine G.ifYes H30 D10_28 (by decide) (by decide) (pc' := 34) rfl ?_
      refine G.iinc H30 (v := 2) (L' := #[.val (.ref p0), .val (.ref a5), .val (.int 2), .val (.int 2), .val (.ref uu2)]) D10_34 (pc' := 37) rfl rfl rfl rfl ?_
      refine G.goto H30 D10_37 (by decide) (pc' := 9) rfl ?_
      show Go p e below _ (T29.setTop (mkF m 9 #[.val (.ref p0), .val (.ref a5), .val (.int 2), .val (.int 2), .val (.ref uu2)] []))
      refine G.iloadN H30 D10_9 (pc' := 10) rfl rfl ?_
      refine G.iloadN H30 D10_10 (pc' := 11) rfl rfl ?_
      refine G.icmpYes H30 D10_11 (by decide) (by decide) (pc' := 40) rfl ?_
      refine G.aconstNull H30 D10_40 (pc' := 41) rfl ?_
      have K32 : Keep h0 h1_ [] := (Keep.trans (Keep.refl h0 []) K7 all0)
      exact G.retA H30 (t := (.object "bindery/bindings/BindingType")) rfl rfl rfl D10_41 (so := []) all0 (by decide) (by decide) ⟨c31, rfl, rfl, K32⟩
set_option maxRecDepth 65536 in
set_option maxHeartbeats 40000000 in
theorem m41_named (V : Env1 Z a0 n0 uu0 uu1 uu2 uu3 uu4 uu5 uu6 uu7 uu8 uu9 uu10 uu11) (p0 : Addr) (p1 : Addr) (c0 : ClassId) (x0 : Int32) (h0 : Heap) (hO : Old Z n0 h0) (f0 : Str Z h0 p0 p1 c0 [100, 105, 114, 101, 99, x0, 111, 114, 121, 45, 111, 117, 116]) (cc1 : 116 = x0) :
    Met Z a0 ELs True n0 l (⟨"bindery/bindings/BindingType", "named", "(Ljava/lang/String;)Lbindery/bindings/BindingType;"⟩ : MethodName) prog_4_method_4_code 5 (Option.some (FieldType.object "bindery/bindings/BindingType")) ({ frames := 2, cells := 1, slots := 2, locals := 28 } : Room) #[(.ref p0)] h0 [] (fun v h so => ([100, 105, 114, 101, 99, 116, 111, 114, 121, 45, 111, 117, 116] = [100, 105, 114, 101, 99, x0, 111, 114, 121, 45, 111, 117, 116] ∧ v = some (.ref uu2) ∧ so = [] ∧ Keep h0 h [])) := by
  refine Met.of (EWl V) (by first | decide +kernel | rfl) hO (L0 := #[.val (.ref p0), .unset, .unset, .unset, .unset]) rfl ?_
  intro p e s m below meth c T H
  show Go p e below _ (T.setTop (mkF m 0 #[.val (.ref p0), .unset, .unset, .unset, .unset] []))
  refine G.callS H (m2_values V h0 H.old) (wd41 V) (wd42 V) (wd36 V) (wd43 V) (by decide) (argsL := []) (rest := []) (W := 0) rfl rfl (lenOf (pd_1) rfl) rfl rfl D10_0 (pc' := 3) rfl (by decide) (by decide) (by decide) (by decide) all0 ?_
  intro T1 h1_ v2 s3 H1 Q4
  obtain ⟨a5, k6, rfl, rfl, K7, g8, F9, F10⟩ := Q4
  have na5 : n0 ≤ a5 := Nat.le_trans H.le g8
  show Go p e below _ (T1.setTop (mkF m 3 #[.val (.ref p0), .unset, .unset, .unset, .unset] [(.ref a5)]))
  refine G.astoreN H1 (L' := #[.val (.ref p0), .val (.ref a5), .unset, .unset, .unset]) D10_3 (pc' := 4) rfl rfl rfl ?_
  refine G.aloadN H1 D10_4 (pc' := 5) rfl rfl rfl ?_
  refine G.arrlen H1 F9 D10_5 (pc' := 6) rfl ?_
  refine G.istoreN H1 (L' := #[.val (.ref p0), .val (.ref a5), .val (.int 2), .unset, .unset]) D10_6 (pc' := 7) rfl rfl ?_
  refine G.iconst H1 D10_7 (pc' := 8) rfl (v := 0) rfl ?_
  refine G.istoreN H1 (L' := #[.val (.ref p0), .val (.ref a5), .val (.int 2), .val (.int 0), .unset]) D10_8 (pc' := 9) rfl rfl ?_
  refine G.iloadN H1 D10_9 (pc' := 10) rfl rfl ?_
  refine G.iloadN H1 D10_10 (pc' := 11) rfl rfl ?_
  refine G.icmpNo H1 D10_11 (pc' := 14) rfl (by decide) ?_
  refine G.aloadN H1 D10_14 (pc' := 15) rfl rfl rfl ?_
  refine G.iloadN H1 D10_15 (pc' := 16) rfl rfl ?_
  refine G.aaloadG H1 F9 rfl (j := 0) (v := (.ref uu1)) (by decide) rfl D10_16 (pc' := 17) rfl ?_
  refine G.astore H1 (L' := #[.val (.ref p0), .val (.ref a5), .val (.int 2), .val (.int 0), .val (.ref uu1)]) D10_17 (pc' := 19) rfl rfl rfl ?_
  refine G.aload H1 D10_19 (pc' := 21) rfl rfl rfl ?_
  have B11 := Fld.ext H1.old.2 (hv8 V)
  refine G.getF H1 (wd57 V) Via.refl B11 D10_21 (pc' := 24) rfl ?_
  intro T12 H13
  refine G.aloadN H13 D10_24 (pc' := 25) rfl rfl rfl ?_
  have B14 := Str.ext H13.old.2 (hv22 V)
  have F15 := (Str.keep f0 K7 nin0 nin0)
  refine G.strEq H13 (strwEq V) (wd2 V) (wd59 V) (wd60 V) (wd62 V) (wd61 V) B14 F15 (hv17 V) (hv18 V) (rest := []) (W := 0) rfl rfl D10_25 (pc' := 28) rfl (by decide) (by decide) (by decide) (by decide) ?_ ?_
  ·
    intro T16 H17 c18
    exact absurd c18 (by intro qq; simp at qq)
  ·
    intro T19 H20 c21
    refine G.ifYes H20 D10_28 (by decide) (by decide) (pc' := 34) rfl ?_
    refine G.iinc H20 (v := 1) (L' := #[.val (.ref p0), .val (.ref a5), .val (.int 2), .val (.int 1), .val (.ref uu1)]) D10_34 (pc' := 37) rfl rfl rfl rfl ?_
    refine G.goto H20 D10_37 (by decide) (pc' := 9) rfl ?_
    show Go p e below _ (T19.setTop (mkF m 9 #[.val (.ref p0), .val (.ref a5), .val (.int 2), .val (.int 1), .val (.ref uu1)] []))
    refine G.iloadN H20 D10_9 (pc' := 10) rfl rfl ?_
    refine G.iloadN H20 D10_10 (pc' := 11) rfl rfl ?_
    refine G.icmpNo H20 D10_11 (pc' := 14) rfl (by decide) ?_
    refine G.aloadN H20 D10_14 (pc' := 15) rfl rfl rfl ?_
    refine G.iloadN H20 D10_15 (pc' := 16) rfl rfl ?_
    refine G.aaloadG H20 F9 rfl (j := 1) (v := (.ref uu2)) (by decide) rfl D10_16 (pc' := 17) rfl ?_
    refine G.astore H20 (L' := #[.val (.ref p0), .val (.ref a5), .val (.int 2), .val (.int 1), .val (.ref uu2)]) D10_17 (pc' := 19) rfl rfl rfl ?_
    refine G.aload H20 D10_19 (pc' := 21) rfl rfl rfl ?_
    have B22 := Fld.ext H20.old.2 (hv6 V)
    refine G.getF H20 (wd57 V) Via.refl B22 D10_21 (pc' := 24) rfl ?_
    intro T23 H24
    refine G.aloadN H24 D10_24 (pc' := 25) rfl rfl rfl ?_
    have B25 := Str.ext H24.old.2 (hv21 V)
    refine G.strEq H24 (strwEq V) (wd2 V) (wd59 V) (wd60 V) (wd62 V) (wd61 V) B25 F15 (hv17 V) (hv18 V) (rest := []) (W := 0) rfl rfl D10_25 (pc' := 28) rfl (by decide) (by decide) (by decide) (by decide) ?_ ?_
    ·
      intro T26 H27 c28
      refine G.ifNo H27 D10_28 (pc' := 31) rfl (by decide) ?_
      refine G.aload H27 D10_31 (pc' := 33) rfl rfl rfl ?_
      have K29 : Keep h0 h1_ [] := (Keep.trans (Keep.refl h0 []) K7 all0)
      exact G.retA H27 (t := (.object "bindery/bindings/BindingType")) rfl rfl rfl D10_33 (so := []) all0 (by decide) (by decide) ⟨c28, rfl, rfl, K29⟩
    ·
      intro T30 H31 c32
      exact absurd (lcs rfl (lcs rfl (lcs rfl (lcs rfl (lcs rfl (lcs cc1 (lcs rfl (lcs rfl (lcs rfl (lcs rfl (lcs rfl (lcs rfl (lcs rfl rfl))))))))))))) c32
set_option maxRecDepth 65536 in
set_option maxHeartbeats 40000000 in
theorem m42_named (V : Env1 Z a0 n0 uu0 uu1 uu2 uu3 uu4 uu5 uu6 uu7 uu8 uu9 uu10 uu11) (p0 : Addr) (p1 : Addr) (c0 : ClassId) (x0 : Int32) (h0 : Heap) (hO : Old Z n0 h0) (f0 : Str Z h0 p0 p1 c0 [100, 105, 114, 101, 99, x0, 111, 114, 121, 45, 111, 117, 116]) (cc1 : ¬ 116 = x0) :
    Met Z a0 ELs True n0 l (⟨"bindery/bindings/BindingType", "named", "(Ljava/lang/String;)Lbindery/bindings/BindingType;"⟩ : MethodName) prog_4_method_4_code 5 (Option.some (FieldType.object "bindery/bindings/BindingType")) ({ frames := 2, cells := 1, slots := 2, locals := 28 } : Room) #[(.ref p0)] h0 [] (fun v h so => (¬ [100, 105, 114, 101, 99, 116, 111, 114, 121, 45, 111, 117, 116] = [100, 105, 114, 101, 99, x0, 111, 114, 121, 45, 111, 117, 116] ∧ v = some .null ∧ so = [] ∧ Keep h0 h [])) := by
  refine Met.of (EWl V) (by first | decide +kernel | rfl) hO (L0 := #[.val (.ref p0), .unset, .unset, .unset, .unset]) rfl ?_
  intro p e s m below meth c T H
  show Go p e below _ (T.setTop (mkF m 0 #[.val (.ref p0), .unset, .unset, .unset, .unset] []))
  refine G.callS H (m2_values V h0 H.old) (wd41 V) (wd42 V) (wd36 V) (wd43 V) (by decide) (argsL := []) (rest := []) (W := 0) rfl rfl (lenOf (pd_1) rfl) rfl rfl D10_0 (pc' := 3) rfl (by decide) (by decide) (by decide) (by decide) all0 ?_
  intro T1 h1_ v2 s3 H1 Q4
  obtain ⟨a5, k6, rfl, rfl, K7, g8, F9, F10⟩ := Q4
  have na5 : n0 ≤ a5 := Nat.le_trans H.le g8
  show Go p e below _ (T1.setTop (mkF m 3 #[.val (.ref p0), .unset, .unset, .unset, .unset] [(.ref a5)]))
  refine G.astoreN H1 (L' := #[.val (.ref p0), .val (.ref a5), .unset, .unset, .unset]) D10_3 (pc' := 4) rfl rfl rfl ?_
  refine G.aloadN H1 D10_4 (pc' := 5) rfl rfl rfl ?_
  refine G.arrlen H1 F9 D10_5 (pc' := 6) rfl ?_
  refine G.istoreN H1 (L' := #[.val (.ref p0), .val (.ref a5), .val (.int 2), .unset, .unset]) D10_6 (pc' := 7) rfl rfl ?_
  refine G.iconst H1 D10_7 (pc' := 8) rfl (v := 0) rfl ?_
  refine G.istoreN H1 (L' := #[.val (.ref p0), .val (.ref a5), .val (.int 2), .val (.int 0), .unset]) D10_8 (pc' := 9) rfl rfl ?_
  refine G.iloadN H1 D10_9 (pc' := 10) rfl rfl ?_
  refine G.iloadN H1 D10_10 (pc' := 11) rfl rfl ?_
  refine G.icmpNo H1 D10_11 (pc' := 14) rfl (by decide) ?_
  refine G.aloadN H1 D10_14 (pc' := 15) rfl rfl rfl ?_
  refine G.iloadN H1 D10_15 (pc' := 16) rfl rfl ?_
  refine G.aaloadG H1 F9 rfl (j := 0) (v := (.ref uu1)) (by decide) rfl D10_16 (pc' := 17) rfl ?_
  refine G.astore H1 (L' := #[.val (.ref p0), .val (.ref a5), .val (.int 2), .val (.int 0), .val (.ref uu1)]) D10_17 (pc' := 19) rfl rfl rfl ?_
  refine G.aload H1 D10_19 (pc' := 21) rfl rfl rfl ?_
  have B11 := Fld.ext H1.old.2 (hv8 V)
  refine G.getF H1 (wd57 V) Via.refl B11 D10_21 (pc' := 24) rfl ?_
  intro T12 H13
  refine G.aloadN H13 D10_24 (pc' := 25) rfl rfl rfl ?_
  have B14 := Str.ext H13.old.2 (hv22 V)
  have F15 := (Str.keep f0 K7 nin0 nin0)
  refine G.strEq H13 (strwEq V) (wd2 V) (wd59 V) (wd60 V) (wd62 V) (wd61 V) B14 F15 (hv17 V) (hv18 V) (rest := []) (W := 0) rfl rfl D10_25 (pc' := 28) rfl (by decide) (by decide) (by decide) (by decide) ?_ ?_
  ·
    intro T16 H17 c18
    exact absurd c18 (by intro qq; simp at qq)
  ·
    intro T19 H20 c21
    refine G.ifYes H20 D10_28 (by decide) (by decide) (pc' := 34) rfl ?_
    refine G.iinc H20 (v := 1) (L' := #[.val (.ref p0), .val (.ref a5), .val (.int 2), .val (.int 1), .val (.ref uu1)]) D10_34 (pc' := 37) rfl rfl rfl rfl ?_
    refine G.goto H20 D10_37 (by decide) (pc' := 9) rfl ?_
    show Go p e below _ (T19.setTop (mkF m 9 #[.val (.ref p0), .val (.ref a5), .val (.int 2), .val (.int 1), .val (.ref uu1)] []))
    refine G.iloadN H20 D10_9 (pc' := 10) rfl rfl ?_
    refine G.iloadN H20 D10_10 (pc' := 11) rfl rfl ?_
    refine G.icmpNo H20 D10_11 (pc' := 14) rfl (by decide) ?_
    refine G.aloadN H20 D10_14 (pc' := 15) rfl rfl rfl ?_
    refine G.iloadN H20 D10_15 (pc' := 16) rfl rfl ?_
    refine G.aaloadG H20 F9 rfl (j := 1) (v := (.ref uu2)) (by decide) rfl D10_16 (pc' := 17) rfl ?_
    refine G.astore H20 (L' := #[.val (.ref p0), .val (.ref a5), .val (.int 2), .val (.int 1), .val (.ref uu2)]) D10_17 (pc' := 19) rfl rfl rfl ?_
    refine G.aload H20 D10_19 (pc' := 21) rfl rfl rfl ?_
    have B22 := Fld.ext H20.old.2 (hv6 V)
    refine G.getF H20 (wd57 V) Via.refl B22 D10_21 (pc' := 24) rfl ?_
    intro T23 H24
    refine G.aloadN H24 D10_24 (pc' := 25) rfl rfl rfl ?_
    have B25 := Str.ext H24.old.2 (hv21 V)
    refine G.strEq H24 (strwEq V) (wd2 V) (wd59 V) (wd60 V) (wd62 V) (wd61 V) B25 F15 (hv17 V) (hv18 V) (rest := []) (W := 0) rfl rfl D10_25 (pc' := 28) rfl (by decide) (by decide) (by decide) (by decide) ?_ ?_
    ·
      intro T26 H27 c28
      exact absurd (List.cons.inj (List.cons.inj (List.cons.inj (List.cons.inj (List.cons.inj (List.cons.inj c28).2).2).2).2).2).1 cc1
    ·
      intro T29 H30 c31
      refine G.ifYes H30 D10_28 (by decide) (by decide) (pc' := 34) rfl ?_
      refine G.iinc H30 (v := 2) (L' := #[.val (.ref p0), .val (.ref a5), .val (.int 2), .val (.int 2), .val (.ref uu2)]) D10_34 (pc' := 37) rfl rfl rfl rfl ?_
      refine G.goto H30 D10_37 (by decide) (pc' := 9) rfl ?_
      show Go p e below _ (T29.setTop (mkF m 9 #[.val (.ref p0), .val (.ref a5), .val (.int 2), .val (.int 2), .val (.ref uu2)] []))
      refine G.iloadN H30 D10_9 (pc' := 10) rfl rfl ?_
      refine G.iloadN H30 D10_10 (pc' := 11) rfl rfl ?_
      refine G.icmpYes H30 D10_11 (by decide) (by decide) (pc' := 40) rfl ?_
      refine G.aconstNull H30 D10_40 (pc' := 41) rfl ?_
      have K32 : Keep h0 h1_ [] := (Keep.trans (Keep.refl h0 []) K7 all0)
      exact G.retA H30 (t := (.object "bindery/bindings/BindingType")) rfl rfl rfl D10_41 (so := []) all0 (by decide) (by decide) ⟨c31, rfl, rfl, K32⟩
set_option maxRecDepth 65536 in
set_option maxHeartbeats 40000000 in
theorem m43_named (V : Env1 Z a0 n0 uu0 uu1 uu2 uu3 uu4 uu5 uu6 uu7 uu8 uu9 uu10 uu11) (p0 : Addr) (p1 : Addr) (c0 : ClassId) (x0 : Int32) (h0 : Heap) (hO : Old Z n0 h0) (f0 : Str Z h0 p0 p1 c0 [100, 105, 114, 101, 99, 116, x0, 114, 121, 45, 111, 117, 116]) (cc1 : 111 = x0) :
    Met Z a0 ELs True n0 l (⟨"bindery/bindings/BindingType", "named", "(Ljava/lang/String;)Lbindery/bindings/BindingType;"⟩ : MethodName) prog_4_method_4_code 5 (Option.some (FieldType.object "bindery/bindings/BindingType")) ({ frames := 2, cells := 1, slots := 2, locals := 28 } : Room) #[(.ref p0)] h0 [] (fun v h so => ([100, 105, 114, 101, 99, 116, 111, 114, 121, 45, 111, 117, 116] = [100, 105, 114, 101, 99, 116, x0, 114, 121, 45, 111, 117, 116] ∧ v = some (.ref uu2) ∧ so = [] ∧ Keep h0 h [])) := by
  refine Met.of (EWl V) (by first | decide +kernel | rfl) hO (L0 := #[.val (.ref p0), .unset, .unset, .unset, .unset]) rfl ?_
  intro p e s m below meth c T H
  show Go p e below _ (T.setTop (mkF m 0 #[.val (.ref p0), .unset, .unset, .unset, .unset] []))
  refine G.callS H (m2_values V h0 H.old) (wd41 V) (wd42 V) (wd36 V) (wd43 V) (by decide) (argsL := []) (rest := []) (W := 0) rfl rfl (lenOf (pd_1) rfl) rfl rfl D10_0 (pc' := 3) rfl (by decide) (by decide) (by decide) (by decide) all0 ?_
  intro T1 h1_ v2 s3 H1 Q4
  obtain ⟨a5, k6, rfl, rfl, K7, g8, F9, F10⟩ := Q4
  have na5 : n0 ≤ a5 := Nat.le_trans H.le g8
  show Go p e below _ (T1.setTop (mkF m 3 #[.val (.ref p0), .unset, .unset, .unset, .unset] [(.ref a5)]))
  refine G.astoreN H1 (L' := #[.val (.ref p0), .val (.ref a5), .unset, .unset, .unset]) D10_3 (pc' := 4) rfl rfl rfl ?_
  refine G.aloadN H1 D10_4 (pc' := 5) rfl rfl rfl ?_
  refine G.arrlen H1 F9 D10_5 (pc' := 6) rfl ?_
  refine G.istoreN H1 (L' := #[.val (.ref p0), .val (.ref a5), .val (.int 2), .unset, .unset]) D10_6 (pc' := 7) rfl rfl ?_
  refine G.iconst H1 D10_7 (pc' := 8) rfl (v := 0) rfl ?_
  refine G.istoreN H1 (L' := #[.val (.ref p0), .val (.ref a5), .val (.int 2), .val (.int 0), .unset]) D10_8 (pc' := 9) rfl rfl ?_
  refine G.iloadN H1 D10_9 (pc' := 10) rfl rfl ?_
  refine G.iloadN H1 D10_10 (pc' := 11) rfl rfl ?_
  refine G.icmpNo H1 D10_11 (pc' := 14) rfl (by decide) ?_
  refine G.aloadN H1 D10_14 (pc' := 15) rfl rfl rfl ?_
  refine G.iloadN H1 D10_15 (pc' := 16) rfl rfl ?_
  refine G.aaloadG H1 F9 rfl (j := 0) (v := (.ref uu1)) (by decide) rfl D10_16 (pc' := 17) rfl ?_
  refine G.astore H1 (L' := #[.val (.ref p0), .val (.ref a5), .val (.int 2), .val (.int 0), .val (.ref uu1)]) D10_17 (pc' := 19) rfl rfl rfl ?_
  refine G.aload H1 D10_19 (pc' := 21) rfl rfl rfl ?_
  have B11 := Fld.ext H1.old.2 (hv8 V)
  refine G.getF H1 (wd57 V) Via.refl B11 D10_21 (pc' := 24) rfl ?_
  intro T12 H13
  refine G.aloadN H13 D10_24 (pc' := 25) rfl rfl rfl ?_
  have B14 := Str.ext H13.old.2 (hv22 V)
  have F15 := (Str.keep f0 K7 nin0 nin0)
  refine G.strEq H13 (strwEq V) (wd2 V) (wd59 V) (wd60 V) (wd62 V) (wd61 V) B14 F15 (hv17 V) (hv18 V) (rest := []) (W := 0) rfl rfl D10_25 (pc' := 28) rfl (by decide) (by decide) (by decide) (by decide) ?_ ?_
  ·
    intro T16 H17 c18
    exact absurd c18 (by intro qq; simp at qq)
  ·
    intro T19 H20 c21
    refine G.ifYes H20 D10_28 (by decide) (by decide) (pc' := 34) rfl ?_
    refine G.iinc H20 (v := 1) (L' := #[.val (.ref p0), .val (.ref a5), .val (.int 2), .val (.int 1), .val (.ref uu1)]) D10_34 (pc' := 37) rfl rfl rfl rfl ?_
    refine G.goto H20 D10_37 (by decide) (pc' := 9) rfl ?_
    show Go p e below _ (T19.setTop (mkF m 9 #[.val (.ref p0), .val (.ref a5), .val (.int 2), .val (.int 1), .val (.ref uu1)] []))
    refine G.iloadN H20 D10_9 (pc' := 10) rfl rfl ?_
    refine G.iloadN H20 D10_10 (pc' := 11) rfl rfl ?_
    refine G.icmpNo H20 D10_11 (pc' := 14) rfl (by decide) ?_
    refine G.aloadN H20 D10_14 (pc' := 15) rfl rfl rfl ?_
    refine G.iloadN H20 D10_15 (pc' := 16) rfl rfl ?_
    refine G.aaloadG H20 F9 rfl (j := 1) (v := (.ref uu2)) (by decide) rfl D10_16 (pc' := 17) rfl ?_
    refine G.astore H20 (L' := #[.val (.ref p0), .val (.ref a5), .val (.int 2), .val (.int 1), .val (.ref uu2)]) D10_17 (pc' := 19) rfl rfl rfl ?_
    refine G.aload H20 D10_19 (pc' := 21) rfl rfl rfl ?_
    have B22 := Fld.ext H20.old.2 (hv6 V)
    refine G.getF H20 (wd57 V) Via.refl B22 D10_21 (pc' := 24) rfl ?_
    intro T23 H24
    refine G.aloadN H24 D10_24 (pc' := 25) rfl rfl rfl ?_
    have B25 := Str.ext H24.old.2 (hv21 V)
    refine G.strEq H24 (strwEq V) (wd2 V) (wd59 V) (wd60 V) (wd62 V) (wd61 V) B25 F15 (hv17 V) (hv18 V) (rest := []) (W := 0) rfl rfl D10_25 (pc' := 28) rfl (by decide) (by decide) (by decide) (by decide) ?_ ?_
    ·
      intro T26 H27 c28
      refine G.ifNo H27 D10_28 (pc' := 31) rfl (by decide) ?_
      refine G.aload H27 D10_31 (pc' := 33) rfl rfl rfl ?_
      have K29 : Keep h0 h1_ [] := (Keep.trans (Keep.refl h0 []) K7 all0)
      exact G.retA H27 (t := (.object "bindery/bindings/BindingType")) rfl rfl rfl D10_33 (so := []) all0 (by decide) (by decide) ⟨c28, rfl, rfl, K29⟩
    ·
      intro T30 H31 c32
      exact absurd (lcs rfl (lcs rfl (lcs rfl (lcs rfl (lcs rfl (lcs rfl (lcs cc1 (lcs rfl (lcs rfl (lcs rfl (lcs rfl (lcs rfl (lcs rfl rfl))))))))))))) c32
set_option maxRecDepth 65536 in
set_option maxHeartbeats 40000000 in
theorem m44_named (V : Env1 Z a0 n0 uu0 uu1 uu2 uu3 uu4 uu5 uu6 uu7 uu8 uu9 uu10 uu11) (p0 : Addr) (p1 : Addr) (c0 : ClassId) (x0 : Int32) (h0 : Heap) (hO : Old Z n0 h0) (f0 : Str Z h0 p0 p1 c0 [100, 105, 114, 101, 99, 116, x0, 114, 121, 45, 111, 117, 116]) (cc1 : ¬ 111 = x0) :
    Met Z a0 ELs True n0 l (⟨"bindery/bindings/BindingType", "named", "(Ljava/lang/String;)Lbindery/bindings/BindingType;"⟩ : MethodName) prog_4_method_4_code 5 (Option.some (FieldType.object "bindery/bindings/BindingType")) ({ frames := 2, cells := 1, slots := 2, locals := 28 } : Room) #[(.ref p0)] h0 [] (fun v h so => (¬ [100, 105, 114, 101, 99, 116, 111, 114, 121, 45, 111, 117, 116] = [100, 105, 114, 101, 99, 116, x0, 114, 121, 45, 111, 117, 116] ∧ v = some .null ∧ so = [] ∧ Keep h0 h [])) := by
  refine Met.of (EWl V) (by first | decide +kernel | rfl) hO (L0 := #[.val (.ref p0), .unset, .unset, .unset, .unset]) rfl ?_
  intro p e s m below meth c T H
  show Go p e below _ (T.setTop (mkF m 0 #[.val (.ref p0), .unset, .unset, .unset, .unset] []))
  refine G.callS H (m2_values V h0 H.old) (wd41 V) (wd42 V) (wd36 V) (wd43 V) (by decide) (argsL := []) (rest := []) (W := 0) rfl rfl (lenOf (pd_1) rfl) rfl rfl D10_0 (pc' := 3) rfl (by decide) (by decide) (by decide) (by decide) all0 ?_
  intro T1 h1_ v2 s3 H1 Q4
  obtain ⟨a5, k6, rfl, rfl, K7, g8, F9, F10⟩ := Q4
  have na5 : n0 ≤ a5 := Nat.le_trans H.le g8
  show Go p e below _ (T1.setTop (mkF m 3 #[.val (.ref p0), .unset, .unset, .unset, .unset] [(.ref a5)]))
  refine G.astoreN H1 (L' := #[.val (.ref p0), .val (.ref a5), .unset, .unset, .unset]) D10_3 (pc' := 4) rfl rfl rfl ?_
  refine G.aloadN H1 D10_4 (pc' := 5) rfl rfl rfl ?_
  refine G.arrlen H1 F9 D10_5 (pc' := 6) rfl ?_
  refine G.istoreN H1 (L' := #[.val (.ref p0), .val (.ref a5), .val (.int 2), .unset, .unset]) D10_6 (pc' := 7) rfl rfl ?_
  refine G.iconst H1 D10_7 (pc' := 8) rfl (v := 0) rfl ?_
  refine G.istoreN H1 (L' := #[.val (.ref p0), .val (.ref a5), .val (.int 2), .val (.int 0), .unset]) D10_8 (pc' := 9) rfl rfl ?_
  refine G.iloadN H1 D10_9 (pc' := 10) rfl rfl ?_
  refine G.iloadN H1 D10_10 (pc' := 11) rfl rfl ?_
  refine G.icmpNo H1 D10_11 (pc' := 14) rfl (by decide) ?_
  refine G.aloadN H1 D10_14 (pc' := 15) rfl rfl rfl ?_
  refine G.iloadN H1 D10_15 (pc' := 16) rfl rfl ?_
  refine G.aaloadG H1 F9 rfl (j := 0) (v := (.ref uu1)) (by decide) rfl D10_16 (pc' := 17) rfl ?_
  refine G.astore H1 (L' := #[.val (.ref p0), .val (.ref a5), .val (.int 2), .val (.int 0), .val (.ref uu1)]) D10_17 (pc' := 19) rfl rfl rfl ?_
  refine G.aload H1 D10_19 (pc' := 21) rfl rfl rfl ?_
  have B11 := Fld.ext H1.old.2 (hv8 V)
  refine G.getF H1 (wd57 V) Via.refl B11 D10_21 (pc' := 24) rfl ?_
  intro T12 H13
  refine G.aloadN H13 D10_24 (pc' := 25) rfl rfl rfl ?_
  have B14 := Str.ext H13.old.2 (hv22 V)
  have F15 := (Str.keep f0 K7 nin0 nin0)
  refine G.strEq H13 (strwEq V) (wd2 V) (wd59 V) (wd60 V) (wd62 V) (wd61 V) B14 F15 (hv17 V) (hv18 V) (rest := []) (W := 0) rfl rfl D10_25 (pc' := 28) rfl (by decide) (by decide) (by decide) (by decide) ?_ ?_
  ·
    intro T16 H17 c18
    exact absurd c18 (by intro qq; simp at qq)
  ·
    intro T19 H20 c21
    refine G.ifYes H20 D10_28 (by decide) (by decide) (pc' := 34) rfl ?_
    refine G.iinc H20 (v := 1) (L' := #[.val (.ref p0), .val (.ref a5), .val (.int 2), .val (.int 1), .val (.ref uu1)]) D10_34 (pc' := 37) rfl rfl rfl rfl ?_
    refine G.goto H20 D10_37 (by decide) (pc' := 9) rfl ?_
    show Go p e below _ (T19.setTop (mkF m 9 #[.val (.ref p0), .val (.ref a5), .val (.int 2), .val (.int 1), .val (.ref uu1)] []))
    refine G.iloadN H20 D10_9 (pc' := 10) rfl rfl ?_
    refine G.iloadN H20 D10_10 (pc' := 11) rfl rfl ?_
    refine G.icmpNo H20 D10_11 (pc' := 14) rfl (by decide) ?_
    refine G.aloadN H20 D10_14 (pc' := 15) rfl rfl rfl ?_
    refine G.iloadN H20 D10_15 (pc' := 16) rfl rfl ?_
    refine G.aaloadG H20 F9 rfl (j := 1) (v := (.ref uu2)) (by decide) rfl D10_16 (pc' := 17) rfl ?_
    refine G.astore H20 (L' := #[.val (.ref p0), .val (.ref a5), .val (.int 2), .val (.int 1), .val (.ref uu2)]) D10_17 (pc' := 19) rfl rfl rfl ?_
    refine G.aload H20 D10_19 (pc' := 21) rfl rfl rfl ?_
    have B22 := Fld.ext H20.old.2 (hv6 V)
    refine G.getF H20 (wd57 V) Via.refl B22 D10_21 (pc' := 24) rfl ?_
    intro T23 H24
    refine G.aloadN H24 D10_24 (pc' := 25) rfl rfl rfl ?_
    have B25 := Str.ext H24.old.2 (hv21 V)
    refine G.strEq H24 (strwEq V) (wd2 V) (wd59 V) (wd60 V) (wd62 V) (wd61 V) B25 F15 (hv17 V) (hv18 V) (rest := []) (W := 0) rfl rfl D10_25 (pc' := 28) rfl (by decide) (by decide) (by decide) (by decide) ?_ ?_
    ·
      intro T26 H27 c28
      exact absurd (List.cons.inj (List.cons.inj (List.cons.inj (List.cons.inj (List.cons.inj (List.cons.inj (List.cons.inj c28).2).2).2).2).2).2).1 cc1
    ·
      intro T29 H30 c31
      refine G.ifYes H30 D10_28 (by decide) (by decide) (pc' := 34) rfl ?_
      refine G.iinc H30 (v := 2) (L' := #[.val (.ref p0), .val (.ref a5), .val (.int 2), .val (.int 2), .val (.ref uu2)]) D10_34 (pc' := 37) rfl rfl rfl rfl ?_
      refine G.goto H30 D10_37 (by decide) (pc' := 9) rfl ?_
      show Go p e below _ (T29.setTop (mkF m 9 #[.val (.ref p0), .val (.ref a5), .val (.int 2), .val (.int 2), .val (.ref uu2)] []))
      refine G.iloadN H30 D10_9 (pc' := 10) rfl rfl ?_
      refine G.iloadN H30 D10_10 (pc' := 11) rfl rfl ?_
      refine G.icmpYes H30 D10_11 (by decide) (by decide) (pc' := 40) rfl ?_
      refine G.aconstNull H30 D10_40 (pc' := 41) rfl ?_
      have K32 : Keep h0 h1_ [] := (Keep.trans (Keep.refl h0 []) K7 all0)
      exact G.retA H30 (t := (.object "bindery/bindings/BindingType")) rfl rfl rfl D10_41 (so := []) all0 (by decide) (by decide) ⟨c31, rfl, rfl, K32⟩
set_option maxRecDepth 65536 in
set_option maxHeartbeats 40000000 in
theorem m45_named (V : Env1 Z a0 n0 uu0 uu1 uu2 uu3 uu4 uu5 uu6 uu7 uu8 uu9 uu10 uu11) (p0 : Addr) (p1 : Addr) (c0 : ClassId) (x0 : Int32) (h0 : Heap) (hO : Old Z n0 h0) (f0 : Str Z h0 p0 p1 c0 [100, 105, 114, 101, 99, 116, 111, x0, 121, 45, 111, 117, 116]) (cc1 : 114 = x0) :
    Met Z a0 ELs True n0 l (⟨"bindery/bindings/BindingType", "named", "(Ljava/lang/String;)Lbindery/bindings/BindingType;"⟩ : MethodName) prog_4_method_4_code 5 (Option.some (FieldType.object "bindery/bindings/BindingType")) ({ frames := 2, cells := 1, slots := 2, locals := 28 } : Room) #[(.ref p0)] h0 [] (fun v h so => ([100, 105, 114, 101, 99, 116, 111, 114, 121, 45, 111, 117, 116] = [100, 105, 114, 101, 99, 116, 111, x0, 121, 45, 111, 117, 116] ∧ v = some (.ref uu2) ∧ so = [] ∧ Keep h0 h [])) := by
  refine Met.of (EWl V) (by first | decide +kernel | rfl) hO (L0 := #[.val (.ref p0), .unset, .unset, .unset, .unset]) rfl ?_
  intro p e s m below meth c T H
  show Go p e below _ (T.setTop (mkF m 0 #[.val (.ref p0), .unset, .unset, .unset, .unset] []))
  refine G.callS H (m2_values V h0 H.old) (wd41 V) (wd42 V) (wd36 V) (wd43 V) (by decide) (argsL := []) (rest := []) (W := 0) rfl rfl (lenOf (pd_1) rfl) rfl rfl D10_0 (pc' := 3) rfl (by decide) (by decide) (by decide) (by decide) all0 ?_
  intro T1 h1_ v2 s3 H1 Q4
  obtain ⟨a5, k6, rfl, rfl, K7, g8, F9, F10⟩ := Q4
  have na5 : n0 ≤ a5 := Nat.le_trans H.le g8
  show Go p e below _ (T1.setTop (mkF m 3 #[.val (.ref p0), .unset, .unset, .unset, .unset] [(.ref a5)]))
  refine G.astoreN H1 (L' := #[.val (.ref p0), .val (.ref a5), .unset, .unset, .unset]) D10_3 (pc' := 4) rfl rfl rfl ?_
  refine G.aloadN H1 D10_4 (pc' := 5) rfl rfl rfl ?_
  refine G.arrlen H1 F9 D10_5 (pc' := 6) rfl ?_
  refine G.istoreN H1 (L' := #[.val (.ref p0), .val (.ref a5), .val (.int 2), .unset, .unset]) D10_6 (pc' := 7) rfl rfl ?_
  refine G.iconst H1 D10_7 (pc' := 8) rfl (v := 0) rfl ?_
  refine G.istoreN H1 (L' := #[.val (.ref p0), .val (.ref a5), .val (.int 2), .val (.int 0), .unset]) D10_8 (pc' := 9) rfl rfl ?_
  refine G.iloadN H1 D10_9 (pc' := 10) rfl rfl ?_
  refine G.iloadN H1 D10_10 (pc' := 11) rfl rfl ?_
  refine G.icmpNo H1 D10_11 (pc' := 14) rfl (by decide) ?_
  refine G.aloadN H1 D10_14 (pc' := 15) rfl rfl rfl ?_
  refine G.iloadN H1 D10_15 (pc' := 16) rfl rfl ?_
  refine G.aaloadG H1 F9 rfl (j := 0) (v := (.ref uu1)) (by decide) rfl D10_16 (pc' := 17) rfl ?_
  refine G.astore H1 (L' := #[.val (.ref p0), .val (.ref a5), .val (.int 2), .val (.int 0), .val (.ref uu1)]) D10_17 (pc' := 19) rfl rfl rfl ?_
  refine G.aload H1 D10_19 (pc' := 21) rfl rfl rfl ?_
  have B11 := Fld.ext H1.old.2 (hv8 V)
  refine G.getF H1 (wd57 V) Via.refl B11 D10_21 (pc' := 24) rfl ?_
  intro T12 H13
  refine G.aloadN H13 D10_24 (pc' := 25) rfl rfl rfl ?_
  have B14 := Str.ext H13.old.2 (hv22 V)
  have F15 := (Str.keep f0 K7 nin0 nin0)
  refine G.strEq H13 (strwEq V) (wd2 V) (wd59 V) (wd60 V) (wd62 V) (wd61 V) B14 F15 (hv17 V) (hv18 V) (rest := []) (W := 0) rfl rfl D10_25 (pc' := 28) rfl (by decide) (by decide) (by decide) (by decide) ?_ ?_
  ·
    intro T16 H17 c18
    exact absurd c18 (by intro qq; simp at qq)
  ·
    intro T19 H20 c21
    refine G.ifYes H20 D10_28 (by decide) (by decide) (pc' := 34) rfl ?_
    refine G.iinc H20 (v := 1) (L' := #[.val (.ref p0), .val (.ref a5), .val (.int 2), .val (.int 1), .val (.ref uu1)]) D10_34 (pc' := 37) rfl rfl rfl rfl ?_
    refine G.goto H20 D10_37 (by decide) (pc' := 9) rfl ?_
    show Go p e below _ (T19.setTop (mkF m 9 #[.val (.ref p0), .val (.ref a5), .val (.int 2), .val (.int 1), .val (.ref uu1)] []))
    refine G.iloadN H20 D10_9 (pc' := 10) rfl rfl ?_
    refine G.iloadN H20 D10_10 (pc' := 11) rfl rfl ?_
    refine G.icmpNo H20 D10_11 (pc' := 14) rfl (by decide) ?_
    refine G.aloadN H20 D10_14 (pc' := 15) rfl rfl rfl ?_
    refine G.iloadN H20 D10_15 (pc' := 16) rfl rfl ?_
    refine G.aaloadG H20 F9 rfl (j := 1) (v := (.ref uu2)) (by decide) rfl D10_16 (pc' := 17) rfl ?_
    refine G.astore H20 (L' := #[.val (.ref p0), .val (.ref a5), .val (.int 2), .val (.int 1), .val (.ref uu2)]) D10_17 (pc' := 19) rfl rfl rfl ?_
    refine G.aload H20 D10_19 (pc' := 21) rfl rfl rfl ?_
    have B22 := Fld.ext H20.old.2 (hv6 V)
    refine G.getF H20 (wd57 V) Via.refl B22 D10_21 (pc' := 24) rfl ?_
    intro T23 H24
    refine G.aloadN H24 D10_24 (pc' := 25) rfl rfl rfl ?_
    have B25 := Str.ext H24.old.2 (hv21 V)
    refine G.strEq H24 (strwEq V) (wd2 V) (wd59 V) (wd60 V) (wd62 V) (wd61 V) B25 F15 (hv17 V) (hv18 V) (rest := []) (W := 0) rfl rfl D10_25 (pc' := 28) rfl (by decide) (by decide) (by decide) (by decide) ?_ ?_
    ·
      intro T26 H27 c28
      refine G.ifNo H27 D10_28 (pc' := 31) rfl (by decide) ?_
      refine G.aload H27 D10_31 (pc' := 33) rfl rfl rfl ?_
      have K29 : Keep h0 h1_ [] := (Keep.trans (Keep.refl h0 []) K7 all0)
      exact G.retA H27 (t := (.object "bindery/bindings/BindingType")) rfl rfl rfl D10_33 (so := []) all0 (by decide) (by decide) ⟨c28, rfl, rfl, K29⟩
    ·
      intro T30 H31 c32
      exact absurd (lcs rfl (lcs rfl (lcs rfl (lcs rfl (lcs rfl (lcs rfl (lcs rfl (lcs cc1 (lcs rfl (lcs rfl (lcs rfl (lcs rfl (lcs rfl rfl))))))))))))) c32
set_option maxRecDepth 65536 in
set_option maxHeartbeats 40000000 in
theorem m46_named (V : Env1 Z a0 n0 uu0 uu1 uu2 uu3 uu4 uu5 uu6 uu7 uu8 uu9 uu10 uu11) (p0 : Addr) (p1 : Addr) (c0 : ClassId) (x0 : Int32) (h0 : Heap) (hO : Old Z n0 h0) (f0 : Str Z h0 p0 p1 c0 [100, 105, 114, 101, 99, 116, 111, x0, 121, 45, 111, 117, 116]) (cc1 : ¬ 114 = x0) :
    Met Z a0 ELs True n0 l (⟨"bindery/bindings/BindingType", "named", "(Ljava/lang/String;)Lbindery/bindings/BindingType;"⟩ : MethodName) prog_4_method_4_code 5 (Option.some (FieldType.object "bindery/bindings/BindingType")) ({ frames := 2, cells := 1, slots := 2, locals := 28 } : Room) #[(.ref p0)] h0 [] (fun v h so => (¬ [100, 105, 114, 101, 99, 116, 111, 114, 121, 45, 111, 117, 116] = [100, 105, 114, 101, 99, 116, 111, x0, 121, 45, 111, 117, 116] ∧ v = some .null ∧ so = [] ∧ Keep h0 h [])) := by
  refine Met.of (EWl V) (by first | decide +kernel | rfl) hO (L0 := #[.val (.ref p0), .unset, .unset, .unset, .unset]) rfl ?_
  intro p e s m below meth c T H
  show Go p e below _ (T.setTop (mkF m 0 #[.val (.ref p0), .unset, .unset, .unset, .unset] []))
  refine G.callS H (m2_values V h0 H.old) (wd41 V) (wd42 V) (wd36 V) (wd43 V) (by decide) (argsL := []) (rest := []) (W := 0) rfl rfl (lenOf (pd_1) rfl) rfl rfl D10_0 (pc' := 3) rfl (by decide) (by decide) (by decide) (by decide) all0 ?_
  intro T1 h1_ v2 s3 H1 Q4
  obtain ⟨a5, k6, rfl, rfl, K7, g8, F9, F10⟩ := Q4
  have na5 : n0 ≤ a5 := Nat.le_trans H.le g8
  show Go p e below _ (T1.setTop (mkF m 3 #[.val (.ref p0), .unset, .unset, .unset, .unset] [(.ref a5)]))
  refine G.astoreN H1 (L' := #[.val (.ref p0), .val (.ref a5), .unset, .unset, .unset]) D10_3 (pc' := 4) rfl rfl rfl ?_
  refine G.aloadN H1 D10_4 (pc' := 5) rfl rfl rfl ?_
  refine G.arrlen H1 F9 D10_5 (pc' := 6) rfl ?_
  refine G.istoreN H1 (L' := #[.val (.ref p0), .val (.ref a5), .val (.int 2), .unset, .unset]) D10_6 (pc' := 7) rfl rfl ?_
  refine G.iconst H1 D10_7 (pc' := 8) rfl (v := 0) rfl ?_
  refine G.istoreN H1 (L' := #[.val (.ref p0), .val (.ref a5), .val (.int 2), .val (.int 0), .unset]) D10_8 (pc' := 9) rfl rfl ?_
  refine G.iloadN H1 D10_9 (pc' := 10) rfl rfl ?_
  refine G.iloadN H1 D10_10 (pc' := 11) rfl rfl ?_
  refine G.icmpNo H1 D10_11 (pc' := 14) rfl (by decide) ?_
  refine G.aloadN H1 D10_14 (pc' := 15) rfl rfl rfl ?_
  refine G.iloadN H1 D10_15 (pc' := 16) rfl rfl ?_
  refine G.aaloadG H1 F9 rfl (j := 0) (v := (.ref uu1)) (by decide) rfl D10_16 (pc' := 17) rfl ?_
  refine G.astore H1 (L' := #[.val (.ref p0), .val (.ref a5), .val (.int 2), .val (.int 0), .val (.ref uu1)]) D10_17 (pc' := 19) rfl rfl rfl ?_
  refine G.aload H1 D10_19 (pc' := 21) rfl rfl rfl ?_
  have B11 := Fld.ext H1.old.2 (hv8 V)
  refine G.getF H1 (wd57 V) Via.refl B11 D10_21 (pc' := 24) rfl ?_
  intro T12 H13
  refine G.aloadN H13 D10_24 (pc' := 25) rfl rfl rfl ?_
  have B14 := Str.ext H13.old.2 (hv22 V)
  have F15 := (Str.keep f0 K7 nin0 nin0)
  refine G.strEq H13 (strwEq V) (wd2 V) (wd59 V) (wd60 V) (wd62 V) (wd61 V) B14 F15 (hv17 V) (hv18 V) (rest := []) (W := 0) rfl rfl D10_25 (pc' := 28) rfl (by decide) (by decide) (by decide) (by decide) ?_ ?_
  ·
    intro T16 H17 c18
    exact absurd c18 (by intro qq; simp at qq)
  ·
    intro T19 H20 c21
    refine G.ifYes H20 D10_28 (by decide) (by decide) (pc' := 34) rfl ?_
    refine G.iinc H20 (v := 1) (L' := #[.val (.ref p0), .val (.ref a5), .val (.int 2), .val (.int 1), .val (.ref uu1)]) D10_34 (pc' := 37) rfl rfl rfl rfl ?_
    refine G.goto H20 D10_37 (by decide) (pc' := 9) rfl ?_
    show Go p e below _ (T19.setTop (mkF m 9 #[.val (.ref p0), .val (.ref a5), .val (.int 2), .val (.int 1), .val (.ref uu1)] []))
    refine G.iloadN H20 D10_9 (pc' := 10) rfl rfl ?_
    refine G.iloadN H20 D10_10 (pc' := 11) rfl rfl ?_
    refine G.icmpNo H20 D10_11 (pc' := 14) rfl (by decide) ?_
    refine G.aloadN H20 D10_14 (pc' := 15) rfl rfl rfl ?_
    refine G.iloadN H20 D10_15 (pc' := 16) rfl rfl ?_
    refine G.aaloadG H20 F9 rfl (j := 1) (v := (.ref uu2)) (by decide) rfl D10_16 (pc' := 17) rfl ?_
    refine G.astore H20 (L' := #[.val (.ref p0), .val (.ref a5), .val (.int 2), .val (.int 1), .val (.ref uu2)]) D10_17 (pc' := 19) rfl rfl rfl ?_
    refine G.aload H20 D10_19 (pc' := 21) rfl rfl rfl ?_
    have B22 := Fld.ext H20.old.2 (hv6 V)
    refine G.getF H20 (wd57 V) Via.refl B22 D10_21 (pc' := 24) rfl ?_
    intro T23 H24
    refine G.aloadN H24 D10_24 (pc' := 25) rfl rfl rfl ?_
    have B25 := Str.ext H24.old.2 (hv21 V)
    refine G.strEq H24 (strwEq V) (wd2 V) (wd59 V) (wd60 V) (wd62 V) (wd61 V) B25 F15 (hv17 V) (hv18 V) (rest := []) (W := 0) rfl rfl D10_25 (pc' := 28) rfl (by decide) (by decide) (by decide) (by decide) ?_ ?_
    ·
      intro T26 H27 c28
      exact absurd (List.cons.inj (List.cons.inj (List.cons.inj (List.cons.inj (List.cons.inj (List.cons.inj (List.cons.inj (List.cons.inj c28).2).2).2).2).2).2).2).1 cc1
    ·
      intro T29 H30 c31
      refine G.ifYes H30 D10_28 (by decide) (by decide) (pc' := 34) rfl ?_
      refine G.iinc H30 (v := 2) (L' := #[.val (.ref p0), .val (.ref a5), .val (.int 2), .val (.int 2), .val (.ref uu2)]) D10_34 (pc' := 37) rfl rfl rfl rfl ?_
      refine G.goto H30 D10_37 (by decide) (pc' := 9) rfl ?_
      show Go p e below _ (T29.setTop (mkF m 9 #[.val (.ref p0), .val (.ref a5), .val (.int 2), .val (.int 2), .val (.ref uu2)] []))
      refine G.iloadN H30 D10_9 (pc' := 10) rfl rfl ?_
      refine G.iloadN H30 D10_10 (pc' := 11) rfl rfl ?_
      refine G.icmpYes H30 D10_11 (by decide) (by decide) (pc' := 40) rfl ?_
      refine G.aconstNull H30 D10_40 (pc' := 41) rfl ?_
      have K32 : Keep h0 h1_ [] := (Keep.trans (Keep.refl h0 []) K7 all0)
      exact G.retA H30 (t := (.object "bindery/bindings/BindingType")) rfl rfl rfl D10_41 (so := []) all0 (by decide) (by decide) ⟨c31, rfl, rfl, K32⟩
set_option maxRecDepth 65536 in
set_option maxHeartbeats 40000000 in
theorem m47_named (V : Env1 Z a0 n0 uu0 uu1 uu2 uu3 uu4 uu5 uu6 uu7 uu8 uu9 uu10 uu11) (p0 : Addr) (p1 : Addr) (c0 : ClassId) (x0 : Int32) (h0 : Heap) (hO : Old Z n0 h0) (f0 : Str Z h0 p0 p1 c0 [100, 105, 114, 101, 99, 116, 111, 114, x0, 45, 111, 117, 116]) (cc1 : 121 = x0) :
    Met Z a0 ELs True n0 l (⟨"bindery/bindings/BindingType", "named", "(Ljava/lang/String;)Lbindery/bindings/BindingType;"⟩ : MethodName) prog_4_method_4_code 5 (Option.some (FieldType.object "bindery/bindings/BindingType")) ({ frames := 2, cells := 1, slots := 2, locals := 28 } : Room) #[(.ref p0)] h0 [] (fun v h so => ([100, 105, 114, 101, 99, 116, 111, 114, 121, 45, 111, 117, 116] = [100, 105, 114, 101, 99, 116, 111, 114, x0, 45, 111, 117, 116] ∧ v = some (.ref uu2) ∧ so = [] ∧ Keep h0 h [])) := by
  refine Met.of (EWl V) (by first | decide +kernel | rfl) hO (L0 := #[.val (.ref p0), .unset, .unset, .unset, .unset]) rfl ?_
  intro p e s m below meth c T H
  show Go p e below _ (T.setTop (mkF m 0 #[.val (.ref p0), .unset, .unset, .unset, .unset] []))
  refine G.callS H (m2_values V h0 H.old) (wd41 V) (wd42 V) (wd36 V) (wd43 V) (by decide) (argsL := []) (rest := []) (W := 0) rfl rfl (lenOf (pd_1) rfl) rfl rfl D10_0 (pc' := 3) rfl (by decide) (by decide) (by decide) (by decide) all0 ?_
  intro T1 h1_ v2 s3 H1 Q4
  obtain ⟨a5, k6, rfl, rfl, K7, g8, F9, F10⟩ := Q4
  have na5 : n0 ≤ a5 := Nat.le_trans H.le g8
  show Go p e below _ (T1.setTop (mkF m 3 #[.val (.ref p0), .unset, .unset, .unset, .unset] [(.ref a5)]))
  refine G.astoreN H1 (L' := #[.val (.ref p0), .val (.ref a5), .unset, .unset, .unset]) D10_3 (pc' := 4) rfl rfl rfl ?_
  refine G.aloadN H1 D10_4 (pc' := 5) rfl rfl rfl ?_
  refine G.arrlen H1 F9 D10_5 (pc' := 6) rfl ?_
  refine G.istoreN H1 (L' := #[.val (.ref p0), .val (.ref a5), .val (.int 2), .unset, .unset]) D10_6 (pc' := 7) rfl rfl ?_
  refine G.iconst H1 D10_7 (pc' := 8) rfl (v := 0) rfl ?_
  refine G.istoreN H1 (L' := #[.val (.ref p0), .val (.ref a5), .val (.int 2), .val (.int 0), .unset]) D10_8 (pc' := 9) rfl rfl ?_
  refine G.iloadN H1 D10_9 (pc' := 10) rfl rfl ?_
  refine G.iloadN H1 D10_10 (pc' := 11) rfl rfl ?_
  refine G.icmpNo H1 D10_11 (pc' := 14) rfl (by decide) ?_
  refine G.aloadN H1 D10_14 (pc' := 15) rfl rfl rfl ?_
  refine G.iloadN H1 D10_15 (pc' := 16) rfl rfl ?_
  refine G.aaloadG H1 F9 rfl (j := 0) (v := (.ref uu1)) (by decide) rfl D10_16 (pc' := 17) rfl ?_
  refine G.astore H1 (L' := #[.val (.ref p0), .val (.ref a5), .val (.int 2), .val (.int 0), .val (.ref uu1)]) D10_17 (pc' := 19) rfl rfl rfl ?_
  refine G.aload H1 D10_19 (pc' := 21) rfl rfl rfl ?_
  have B11 := Fld.ext H1.old.2 (hv8 V)
  refine G.getF H1 (wd57 V) Via.refl B11 D10_21 (pc' := 24) rfl ?_
  intro T12 H13
  refine G.aloadN H13 D10_24 (pc' := 25) rfl rfl rfl ?_
  have B14 := Str.ext H13.old.2 (hv22 V)
  have F15 := (Str.keep f0 K7 nin0 nin0)
  refine G.strEq H13 (strwEq V) (wd2 V) (wd59 V) (wd60 V) (wd62 V) (wd61 V) B14 F15 (hv17 V) (hv18 V) (rest := []) (W := 0) rfl rfl D10_25 (pc' := 28) rfl (by decide) (by decide) (by decide) (by decide) ?_ ?_
  ·
    intro T16 H17 c18
    exact absurd c18 (by intro qq; simp at qq)
  ·
    intro T19 H20 c21
    refine G.ifYes H20 D10_28 (by decide) (by decide) (pc' := 34) rfl ?_
    refine G.iinc H20 (v := 1) (L' := #[.val (.ref p0), .val (.ref a5), .val (.int 2), .val (.int 1), .val (.ref uu1)]) D10_34 (pc' := 37) rfl rfl rfl rfl ?_
    refine G.goto H20 D10_37 (by decide) (pc' := 9) rfl ?_
    show Go p e below _ (T19.setTop (mkF m 9 #[.val (.ref p0), .val (.ref a5), .val (.int 2), .val (.int 1), .val (.ref uu1)] []))
    refine G.iloadN H20 D10_9 (pc' := 10) rfl rfl ?_
    refine G.iloadN H20 D10_10 (pc' := 11) rfl rfl ?_
    refine G.icmpNo H20 D10_11 (pc' := 14) rfl (by decide) ?_
    refine G.aloadN H20 D10_14 (pc' := 15) rfl rfl rfl ?_
    refine G.iloadN H20 D10_15 (pc' := 16) rfl rfl ?_
    refine G.aaloadG H20 F9 rfl (j := 1) (v := (.ref uu2)) (by decide) rfl D10_16 (pc' := 17) rfl ?_
    refine G.astore H20 (L' := #[.val (.ref p0), .val (.ref a5), .val (.int 2), .val (.int 1), .val (.ref uu2)]) D10_17 (pc' := 19) rfl rfl rfl ?_
    refine G.aload H20 D10_19 (pc' := 21) rfl rfl rfl ?_
    have B22 := Fld.ext H20.old.2 (hv6 V)
    refine G.getF H20 (wd57 V) Via.refl B22 D10_21 (pc' := 24) rfl ?_
    intro T23 H24
    refine G.aloadN H24 D10_24 (pc' := 25) rfl rfl rfl ?_
    have B25 := Str.ext H24.old.2 (hv21 V)
    refine G.strEq H24 (strwEq V) (wd2 V) (wd59 V) (wd60 V) (wd62 V) (wd61 V) B25 F15 (hv17 V) (hv18 V) (rest := []) (W := 0) rfl rfl D10_25 (pc' := 28) rfl (by decide) (by decide) (by decide) (by decide) ?_ ?_
    ·
      intro T26 H27 c28
      refine G.ifNo H27 D10_28 (pc' := 31) rfl (by decide) ?_
      refine G.aload H27 D10_31 (pc' := 33) rfl rfl rfl ?_
      have K29 : Keep h0 h1_ [] := (Keep.trans (Keep.refl h0 []) K7 all0)
      exact G.retA H27 (t := (.object "bindery/bindings/BindingType")) rfl rfl rfl D10_33 (so := []) all0 (by decide) (by decide) ⟨c28, rfl, rfl, K29⟩
    ·
      intro T30 H31 c32
      exact absurd (lcs rfl (lcs rfl (lcs rfl (lcs rfl (lcs rfl (lcs rfl (lcs rfl (lcs rfl (lcs cc1 (lcs rfl (lcs rfl (lcs rfl (lcs rfl rfl))))))))))))) c32
set_option maxRecDepth 65536 in
set_option maxHeartbeats 40000000 in
theorem m48_named (V : Env1 Z a0 n0 uu0 uu1 uu2 uu3 uu4 uu5 uu6 uu7 uu8 uu9 uu10 uu11) (p0 : Addr) (p1 : Addr) (c0 : ClassId) (x0 : Int32) (h0 : Heap) (hO : Old Z n0 h0) (f0 : Str Z h0 p0 p1 c0 [100, 105, 114, 101, 99, 116, 111, 114, x0, 45, 111, 117, 116]) (cc1 : ¬ 121 = x0) :
    Met Z a0 ELs True n0 l (⟨"bindery/bindings/BindingType", "named", "(Ljava/lang/String;)Lbindery/bindings/BindingType;"⟩ : MethodName) prog_4_method_4_code 5 (Option.some (FieldType.object "bindery/bindings/BindingType")) ({ frames := 2, cells := 1, slots := 2, locals := 28 } : Room) #[(.ref p0)] h0 [] (fun v h so => (¬ [100, 105, 114, 101, 99, 116, 111, 114, 121, 45, 111, 117, 116] = [100, 105, 114, 101, 99, 116, 111, 114, x0, 45, 111, 117, 116] ∧ v = some .null ∧ so = [] ∧ Keep h0 h [])) := by
  refine Met.of (EWl V) (by first | decide +kernel | rfl) hO (L0 := #[.val (.ref p0), .unset, .unset, .unset, .unset]) rfl ?_
  intro p e s m below meth c T H
  show Go p e below _ (T.setTop (mkF m 0 #[.val (.ref p0), .unset, .unset, .unset, .unset] []))
  refine G.callS H (m2_values V h0 H.old) (wd41 V) (wd42 V) (wd36 V) (wd43 V) (by decide) (argsL := []) (rest := []) (W := 0) rfl rfl (lenOf (pd_1) rfl) rfl rfl D10_0 (pc' := 3) rfl (by decide) (by decide) (by decide) (by decide) all0 ?_
  intro T1 h1_ v2 s3 H1 Q4
  obtain ⟨a5, k6, rfl, rfl, K7, g8, F9, F10⟩ := Q4
  have na5 : n0 ≤ a5 := Nat.le_trans H.le g8
  show Go p e below _ (T1.setTop (mkF m 3 #[.val (.ref p0), .unset, .unset, .unset, .unset] [(.ref a5)]))
  refine G.astoreN H1 (L' := #[.val (.ref p0), .val (.ref a5), .unset, .unset, .unset]) D10_3 (pc' := 4) rfl rfl rfl ?_
  refine G.aloadN H1 D10_4 (pc' := 5) rfl rfl rfl ?_
  refine G.arrlen H1 F9 D10_5 (pc' := 6) rfl ?_
  refine G.istoreN H1 (L' := #[.val (.ref p0), .val (.ref a5), .val (.int 2), .unset, .unset]) D10_6 (pc' := 7) rfl rfl ?_
  refine G.iconst H1 D10_7 (pc' := 8) rfl (v := 0) rfl ?_
  refine G.istoreN H1 (L' := #[.val (.ref p0), .val (.ref a5), .val (.int 2), .val (.int 0), .unset]) D10_8 (pc' := 9) rfl rfl ?_
  refine G.iloadN H1 D10_9 (pc' := 10) rfl rfl ?_
  refine G.iloadN H1 D10_10 (pc' := 11) rfl rfl ?_
  refine G.icmpNo H1 D10_11 (pc' := 14) rfl (by decide) ?_
  refine G.aloadN H1 D10_14 (pc' := 15) rfl rfl rfl ?_
  refine G.iloadN H1 D10_15 (pc' := 16) rfl rfl ?_
  refine G.aaloadG H1 F9 rfl (j := 0) (v := (.ref uu1)) (by decide) rfl D10_16 (pc' := 17) rfl ?_
  refine G.astore H1 (L' := #[.val (.ref p0), .val (.ref a5), .val (.int 2), .val (.int 0), .val (.ref uu1)]) D10_17 (pc' := 19) rfl rfl rfl ?_
  refine G.aload H1 D10_19 (pc' := 21) rfl rfl rfl ?_
  have B11 := Fld.ext H1.old.2 (hv8 V)
  refine G.getF H1 (wd57 V) Via.refl B11 D10_21 (pc' := 24) rfl ?_
  intro T12 H13
  refine G.aloadN H13 D10_24 (pc' := 25) rfl rfl rfl ?_
  have B14 := Str.ext H13.old.2 (hv22 V)
  have F15 := (Str.keep f0 K7 nin0 nin0)
  refine G.strEq H13 (strwEq V) (wd2 V) (wd59 V) (wd60 V) (wd62 V) (wd61 V) B14 F15 (hv17 V) (hv18 V) (rest := []) (W := 0) rfl rfl D10_25 (pc' := 28) rfl (by decide) (by decide) (by decide) (by decide) ?_ ?_
  ·
    intro T16 H17 c18
    exact absurd c18 (by intro qq; simp at qq)
  ·
    intro T19 H20 c21
    refine G.ifYes H20 D10_28 (by decide) (by decide) (pc' := 34) rfl ?_
    refine G.iinc H20 (v := 1) (L' := #[.val (.ref p0), .val (.ref a5), .val (.int 2), .val (.int 1), .val (.ref uu1)]) D10_34 (pc' := 37) rfl rfl rfl rfl ?_
    refine G.goto H20 D10_37 (by decide) (pc' := 9) rfl ?_
    show Go p e below _ (T19.setTop (mkF m 9 #[.val (.ref p0), .val (.ref a5), .val (.int 2), .val (.int 1), .val (.ref uu1)] []))
    refine G.iloadN H20 D10_9 (pc' := 10) rfl rfl ?_
    refine G.iloadN H20 D10_10 (pc' := 11) rfl rfl ?_
    refine G.icmpNo H20 D10_11 (pc' := 14) rfl (by decide) ?_
    refine G.aloadN H20 D10_14 (pc' := 15) rfl rfl rfl ?_
    refine G.iloadN H20 D10_15 (pc' := 16) rfl rfl ?_
    refine G.aaloadG H20 F9 rfl (j := 1) (v := (.ref uu2)) (by decide) rfl D10_16 (pc' := 17) rfl ?_
    refine G.astore H20 (L' := #[.val (.ref p0), .val (.ref a5), .val (.int 2), .val (.int 1), .val (.ref uu2)]) D10_17 (pc' := 19) rfl rfl rfl ?_
    refine G.aload H20 D10_19 (pc' := 21) rfl rfl rfl ?_
    have B22 := Fld.ext H20.old.2 (hv6 V)
    refine G.getF H20 (wd57 V) Via.refl B22 D10_21 (pc' := 24) rfl ?_
    intro T23 H24
    refine G.aloadN H24 D10_24 (pc' := 25) rfl rfl rfl ?_
    have B25 := Str.ext H24.old.2 (hv21 V)
    refine G.strEq H24 (strwEq V) (wd2 V) (wd59 V) (wd60 V) (wd62 V) (wd61 V) B25 F15 (hv17 V) (hv18 V) (rest := []) (W := 0) rfl rfl D10_25 (pc' := 28) rfl (by decide) (by decide) (by decide) (by decide) ?_ ?_
    ·
      intro T26 H27 c28
      exact absurd (List.cons.inj (List.cons.inj (List.cons.inj (List.cons.inj (List.cons.inj (List.cons.inj (List.cons.inj (List.cons.inj (List.cons.inj c28).2).2).2).2).2).2).2).2).1 cc1
    ·
      intro T29 H30 c31
      refine G.ifYes H30 D10_28 (by decide) (by decide) (pc' := 34) rfl ?_
      refine G.iinc H30 (v := 2) (L' := #[.val (.ref p0), .val (.ref a5), .val (.int 2), .val (.int 2), .val (.ref uu2)]) D10_34 (pc' := 37) rfl rfl rfl rfl ?_
      refine G.goto H30 D10_37 (by decide) (pc' := 9) rfl ?_
      show Go p e below _ (T29.setTop (mkF m 9 #[.val (.ref p0), .val (.ref a5), .val (.int 2), .val (.int 2), .val (.ref uu2)] []))
      refine G.iloadN H30 D10_9 (pc' := 10) rfl rfl ?_
      refine G.iloadN H30 D10_10 (pc' := 11) rfl rfl ?_
      refine G.icmpYes H30 D10_11 (by decide) (by decide) (pc' := 40) rfl ?_
      refine G.aconstNull H30 D10_40 (pc' := 41) rfl ?_
      have K32 : Keep h0 h1_ [] := (Keep.trans (Keep.refl h0 []) K7 all0)
      exact G.retA H30 (t := (.object "bindery/bindings/BindingType")) rfl rfl rfl D10_41 (so := []) all0 (by decide) (by decide) ⟨c31, rfl, rfl, K32⟩
set_option maxRecDepth 65536 in
set_option maxHeartbeats 40000000 in
theorem m49_named (V : Env1 Z a0 n0 uu0 uu1 uu2 uu3 uu4 uu5 uu6 uu7 uu8 uu9 uu10 uu11) (p0 : Addr) (p1 : Addr) (c0 : ClassId) (x0 : Int32) (h0 : Heap) (hO : Old Z n0 h0) (f0 : Str Z h0 p0 p1 c0 [100, 105, 114, 101, 99, 116, 111, 114, 121, x0, 111, 117, 116]) (cc1 : 45 = x0) :
    Met Z a0 ELs True n0 l (⟨"bindery/bindings/BindingType", "named", "(Ljava/lang/String;)Lbindery/bindings/BindingType;"⟩ : MethodName) prog_4_method_4_code 5 (Option.some (FieldType.object "bindery/bindings/BindingType")) ({ frames := 2, cells := 1, slots := 2, locals := 28 } : Room) #[(.ref p0)] h0 [] (fun v h so => ([100, 105, 114, 101, 99, 116, 111, 114, 121, 45, 111, 117, 116] = [100, 105, 114, 101, 99, 116, 111, 114, 121, x0, 111, 117, 116] ∧ v = some (.ref uu2) ∧ so = [] ∧ Keep h0 h [])) := by
  refine Met.of (EWl V) (by first | decide +kernel | rfl) hO (L0 := #[.val (.ref p0), .unset, .unset, .unset, .unset]) rfl ?_
  intro p e s m below meth c T H
  show Go p e below _ (T.setTop (mkF m 0 #[.val (.ref p0), .unset, .unset, .unset, .unset] []))
  refine G.callS H (m2_values V h0 H.old) (wd41 V) (wd42 V) (wd36 V) (wd43 V) (by decide) (argsL := []) (rest := []) (W := 0) rfl rfl (lenOf (pd_1) rfl) rfl rfl D10_0 (pc' := 3) rfl (by decide) (by decide) (by decide) (by decide) all0 ?_
  intro T1 h1_ v2 s3 H1 Q4
  obtain ⟨a5, k6, rfl, rfl, K7, g8, F9, F10⟩ := Q4
  have na5 : n0 ≤ a5 := Nat.le_trans H.le g8
  show Go p e below _ (T1.setTop (mkF m 3 #[.val (.ref p0), .unset, .unset, .unset, .unset] [(.ref a5)]))
  refine G.astoreN H1 (L' := #[.val (.ref p0), .val (.ref a5), .unset, .unset, .unset]) D10_3 (pc' := 4) rfl rfl rfl ?_
  refine G.aloadN H1 D10_4 (pc' := 5) rfl rfl rfl ?_
  refine G.arrlen H1 F9 D10_5 (pc' := 6) rfl ?_
  refine G.istoreN H1 (L' := #[.val (.ref p0), .val (.ref a5), .val (.int 2), .unset, .unset]) D10_6 (pc' := 7) rfl rfl ?_
  refine G.iconst H1 D10_7 (pc' := 8) rfl (v := 0) rfl ?_
  refine G.istoreN H1 (L' := #[.val (.ref p0), .val (.ref a5), .val (.int 2), .val (.int 0), .unset]) D10_8 (pc' := 9) rfl rfl ?_
  refine G.iloadN H1 D10_9 (pc' := 10) rfl rfl ?_
  refine G.iloadN H1 D10_10 (pc' := 11) rfl rfl ?_
  refine G.icmpNo H1 D10_11 (pc' := 14) rfl (by decide) ?_
  refine G.aloadN H1 D10_14 (pc' := 15) rfl rfl rfl ?_
  refine G.iloadN H1 D10_15 (pc' := 16) rfl rfl ?_
  refine G.aaloadG H1 F9 rfl (j := 0) (v := (.ref uu1)) (by decide) rfl D10_16 (pc' := 17) rfl ?_
  refine G.astore H1 (L' := #[.val (.ref p0), .val (.ref a5), .val (.int 2), .val (.int 0), .val (.ref uu1)]) D10_17 (pc' := 19) rfl rfl rfl ?_
  refine G.aload H1 D10_19 (pc' := 21) rfl rfl rfl ?_
  have B11 := Fld.ext H1.old.2 (hv8 V)
  refine G.getF H1 (wd57 V) Via.refl B11 D10_21 (pc' := 24) rfl ?_
  intro T12 H13
  refine G.aloadN H13 D10_24 (pc' := 25) rfl rfl rfl ?_
  have B14 := Str.ext H13.old.2 (hv22 V)
  have F15 := (Str.keep f0 K7 nin0 nin0)
  refine G.strEq H13 (strwEq V) (wd2 V) (wd59 V) (wd60 V) (wd62 V) (wd61 V) B14 F15 (hv17 V) (hv18 V) (rest := []) (W := 0) rfl rfl D10_25 (pc' := 28) rfl (by decide) (by decide) (by decide) (by decide) ?_ ?_
  ·
    intro T16 H17 c18
    exact absurd c18 (by intro qq; simp at qq)
  ·
    intro T19 H20 c21
    refine G.ifYes H20 D10_28 (by decide) (by decide) (pc' := 34) rfl ?_
    refine G.iinc H20 (v := 1) (L' := #[.val (.ref p0), .val (.ref a5), .val (.int 2), .val (.int 1), .val (.ref uu1)]) D10_34 (pc' := 37) rfl rfl rfl rfl ?_
    refine G.goto H20 D10_37 (by decide) (pc' := 9) rfl ?_
    show Go p e below _ (T19.setTop (mkF m 9 #[.val (.ref p0), .val (.ref a5), .val (.int 2), .val (.int 1), .val (.ref uu1)] []))
    refine G.iloadN H20 D10_9 (pc' := 10) rfl rfl ?_
    refine G.iloadN H20 D10_10 (pc' := 11) rfl rfl ?_
    refine G.icmpNo H20 D10_11 (pc' := 14) rfl (by decide) ?_
    refine G.aloadN H20 D10_14 (pc' := 15) rfl rfl rfl ?_
    refine G.iloadN H20 D10_15 (pc' := 16) rfl rfl ?_
    refine G.aaloadG H20 F9 rfl (j := 1) (v := (.ref uu2)) (by decide) rfl D10_16 (pc' := 17) rfl ?_
    refine G.astore H20 (L' := #[.val (.ref p0), .val (.ref a5), .val (.int 2), .val (.int 1), .val (.ref uu2)]) D10_17 (pc' := 19) rfl rfl rfl ?_
    refine G.aload H20 D10_19 (pc' := 21) rfl rfl rfl ?_
    have B22 := Fld.ext H20.old.2 (hv6 V)
    refine G.getF H20 (wd57 V) Via.refl B22 D10_21 (pc' := 24) rfl ?_
    intro T23 H24
    refine G.aloadN H24 D10_24 (pc' := 25) rfl rfl rfl ?_
    have B25 := Str.ext H24.old.2 (hv21 V)
    refine G.strEq H24 (strwEq V) (wd2 V) (wd59 V) (wd60 V) (wd62 V) (wd61 V) B25 F15 (hv17 V) (hv18 V) (rest := []) (W := 0) rfl rfl D10_25 (pc' := 28) rfl (by decide) (by decide) (by decide) (by decide) ?_ ?_
    ·
      intro T26 H27 c28
      refine G.ifNo H27 D10_28 (pc' := 31) rfl (by decide) ?_
      refine G.aload H27 D10_31 (pc' := 33) rfl rfl rfl ?_
      have K29 : Keep h0 h1_ [] := (Keep.trans (Keep.refl h0 []) K7 all0)
      exact G.retA H27 (t := (.object "bindery/bindings/BindingType")) rfl rfl rfl D10_33 (so := []) all0 (by decide) (by decide) ⟨c28, rfl, rfl, K29⟩
    ·
      intro T30 H31 c32
      exact absurd (lcs rfl (lcs rfl (lcs rfl (lcs rfl (lcs rfl (lcs rfl (lcs rfl (lcs rfl (lcs rfl (lcs cc1 (lcs rfl (lcs rfl (lcs rfl rfl))))))))))))) c32
set_option maxRecDepth 65536 in
set_option maxHeartbeats 40000000 in
theorem m50_named (V : Env1 Z a0 n0 uu0 uu1 uu2 uu3 uu4 uu5 uu6 uu7 uu8 uu9 uu10 uu11) (p0 : Addr) (p1 : Addr) (c0 : ClassId) (x0 : Int32) (h0 : Heap) (hO : Old Z n0 h0) (f0 : Str Z h0 p0 p1 c0 [100, 105, 114, 101, 99, 116, 111, 114, 121, x0, 111, 117, 116]) (cc1 : ¬ 45 = x0) :
    Met Z a0 ELs True n0 l (⟨"bindery/bindings/BindingType", "named", "(Ljava/lang/String;)Lbindery/bindings/BindingType;"⟩ : MethodName) prog_4_method_4_code 5 (Option.some (FieldType.object "bindery/bindings/BindingType")) ({ frames := 2, cells := 1, slots := 2, locals := 28 } : Room) #[(.ref p0)] h0 [] (fun v h so => (¬ [100, 105, 114, 101, 99, 116, 111, 114, 121, 45, 111, 117, 116] = [100, 105, 114, 101, 99, 116, 111, 114, 121, x0, 111, 117, 116] ∧ v = some .null ∧ so = [] ∧ Keep h0 h [])) := by
  refine Met.of (EWl V) (by first | decide +kernel | rfl) hO (L0 := #[.val (.ref p0), .unset, .unset, .unset, .unset]) rfl ?_
  intro p e s m below meth c T H
  show Go p e below _ (T.setTop (mkF m 0 #[.val (.ref p0), .unset, .unset, .unset, .unset] []))
  refine G.callS H (m2_values V h0 H.old) (wd41 V) (wd42 V) (wd36 V) (wd43 V) (by decide) (argsL := []) (rest := []) (W := 0) rfl rfl (lenOf (pd_1) rfl) rfl rfl D10_0 (pc' := 3) rfl (by decide) (by decide) (by decide) (by decide) all0 ?_
  intro T1 h1_ v2 s3 H1 Q4
  obtain ⟨a5, k6, rfl, rfl, K7, g8, F9, F10⟩ := Q4
  have na5 : n0 ≤ a5 := Nat.le_trans H.le g8
  show Go p e below _ (T1.setTop (mkF m 3 #[.val (.ref p0), .unset, .unset, .unset, .unset] [(.ref a5)]))
  refine G.astoreN H1 (L' := #[.val (.ref p0), .val (.ref a5), .unset, .unset, .unset]) D10_3 (pc' := 4) rfl rfl rfl ?_
  refine G.aloadN H1 D10_4 (pc' := 5) rfl rfl rfl ?_
  refine G.arrlen H1 F9 D10_5 (pc' := 6) rfl ?_
  refine G.istoreN H1 (L' := #[.val (.ref p0), .val (.ref a5), .val (.int 2), .unset, .unset]) D10_6 (pc' := 7) rfl rfl ?_
  refine G.iconst H1 D10_7 (pc' := 8) rfl (v := 0) rfl ?_
  refine G.istoreN H1 (L' := #[.val (.ref p0), .val (.ref a5), .val (.int 2), .val (.int 0), .unset]) D10_8 (pc' := 9) rfl rfl ?_
  refine G.iloadN H1 D10_9 (pc' := 10) rfl rfl ?_
  refine G.iloadN H1 D10_10 (pc' := 11) rfl rfl ?_
  refine G.icmpNo H1 D10_11 (pc' := 14) rfl (by decide) ?_
  refine G.aloadN H1 D10_14 (pc' := 15) rfl rfl rfl ?_
  refine G.iloadN H1 D10_15 (pc' := 16) rfl rfl ?_
  refine G.aaloadG H1 F9 rfl (j := 0) (v := (.ref uu1)) (by decide) rfl D10_16 (pc' := 17) rfl ?_
  refine G.astore H1 (L' := #[.val (.ref p0), .val (.ref a5), .val (.int 2), .val (.int 0), .val (.ref uu1)]) D10_17 (pc' := 19) rfl rfl rfl ?_
  refine G.aload H1 D10_19 (pc' := 21) rfl rfl rfl ?_
  have B11 := Fld.ext H1.old.2 (hv8 V)
  refine G.getF H1 (wd57 V) Via.refl B11 D10_21 (pc' := 24) rfl ?_
  intro T12 H13
  refine G.aloadN H13 D10_24 (pc' := 25) rfl rfl rfl ?_
  have B14 := Str.ext H13.old.2 (hv22 V)
  have F15 := (Str.keep f0 K7 nin0 nin0)
  refine G.strEq H13 (strwEq V) (wd2 V) (wd59 V) (wd60 V) (wd62 V) (wd61 V) B14 F15 (hv17 V) (hv18 V) (rest := []) (W := 0) rfl rfl D10_25 (pc' := 28) rfl (by decide) (by decide) (by decide) (by decide) ?_ ?_
  ·
    intro T16 H17 c18
    exact absurd c18 (by intro qq; simp at qq)
  ·
    intro T19 H20 c21
    refine G.ifYes H20 D10_28 (by decide) (by decide) (pc' := 34) rfl ?_
    refine G.iinc H20 (v := 1) (L' := #[.val (.ref p0), .val (.ref a5), .val (.int 2), .val (.int 1), .val (.ref uu1)]) D10_34 (pc' := 37) rfl rfl rfl rfl ?_
    refine G.goto H20 D10_37 (by decide) (pc' := 9) rfl ?_
    show Go p e below _ (T19.setTop (mkF m 9 #[.val (.ref p0), .val (.ref a5), .val (.int 2), .val (.int 1), .val (.ref uu1)] []))
    refine G.iloadN H20 D10_9 (pc' := 10) rfl rfl ?_
    refine G.iloadN H20 D10_10 (pc' := 11) rfl rfl ?_
    refine G.icmpNo H20 D10_11 (pc' := 14) rfl (by decide) ?_
    refine G.aloadN H20 D10_14 (pc' := 15) rfl rfl rfl ?_
    refine G.iloadN H20 D10_15 (pc' := 16) rfl rfl ?_
    refine G.aaloadG H20 F9 rfl (j := 1) (v := (.ref uu2)) (by decide) rfl D10_16 (pc' := 17) rfl ?_
    refine G.astore H20 (L' := #[.val (.ref p0), .val (.ref a5), .val (.int 2), .val (.int 1), .val (.ref uu2)]) D10_17 (pc' := 19) rfl rfl rfl ?_
    refine G.aload H20 D10_19 (pc' := 21) rfl rfl rfl ?_
    have B22 := Fld.ext H20.old.2 (hv6 V)
    refine G.getF H20 (wd57 V) Via.refl B22 D10_21 (pc' := 24) rfl ?_
    intro T23 H24
    refine G.aloadN H24 D10_24 (pc' := 25) rfl rfl rfl ?_
    have B25 := Str.ext H24.old.2 (hv21 V)
    refine G.strEq H24 (strwEq V) (wd2 V) (wd59 V) (wd60 V) (wd62 V) (wd61 V) B25 F15 (hv17 V) (hv18 V) (rest := []) (W := 0) rfl rfl D10_25 (pc' := 28) rfl (by decide) (by decide) (by decide) (by decide) ?_ ?_
    ·
      intro T26 H27 c28
      exact absurd (List.cons.inj (List.cons.inj (List.cons.inj (List.cons.inj (List.cons.inj (List.cons.inj (List.cons.inj (List.cons.inj (List.cons.inj (List.cons.inj c28).2).2).2).2).2).2).2).2).2).1 cc1
    ·
      intro T29 H30 c31
      refine G.ifYes H30 D10_28 (by decide) (by decide) (pc' := 34) rfl ?_
      refine G.iinc H30 (v := 2) (L' := #[.val (.ref p0), .val (.ref a5), .val (.int 2), .val (.int 2), .val (.ref uu2)]) D10_34 (pc' := 37) rfl rfl rfl rfl ?_
      refine G.goto H30 D10_37 (by decide) (pc' := 9) rfl ?_
      show Go p e below _ (T29.setTop (mkF m 9 #[.val (.ref p0), .val (.ref a5), .val (.int 2), .val (.int 2), .val (.ref uu2)] []))
      refine G.iloadN H30 D10_9 (pc' := 10) rfl rfl ?_
      refine G.iloadN H30 D10_10 (pc' := 11) rfl rfl ?_
      refine G.icmpYes H30 D10_11 (by decide) (by decide) (pc' := 40) rfl ?_
      refine G.aconstNull H30 D10_40 (pc' := 41) rfl ?_
      have K32 : Keep h0 h1_ [] := (Keep.trans (Keep.refl h0 []) K7 all0)
      exact G.retA H30 (t := (.object "bindery/bindings/BindingType")) rfl rfl rfl D10_41 (so := []) all0 (by decide) (by decide) ⟨c31, rfl, rfl, K32⟩
set_option maxRecDepth 65536 in
set_option maxHeartbeats 40000000 in
theorem m51_named (V : Env1 Z a0 n0 uu0 uu1 uu2 uu3 uu4 uu5 uu6 uu7 uu8 uu9 uu10 uu11) (p0 : Addr) (p1 : Addr) (c0 : ClassId) (x0 : Int32) (h0 : Heap) (hO : Old Z n0 h0) (f0 : Str Z h0 p0 p1 c0 [100, 105, 114, 101, 99, 116, 111, 114, 121, 45, x0, 117, 116]) (cc1 : 111 = x0) :
    Met Z a0 ELs True n0 l (⟨"bindery/bindings/BindingType", "named", "(Ljava/lang/String;)Lbindery/bindings/BindingType;"⟩ : MethodName) prog_4_method_4_code 5 (Option.some (FieldType.object "bindery/bindings/BindingType")) ({ frames := 2, cells := 1, slots := 2, locals := 28 } : Room) #[(.ref p0)] h0 [] (fun v h so => ([100, 105, 114, 101, 99, 116, 111, 114, 121, 45, 111, 117, 116] = [100, 105, 114, 101, 99, 116, 111, 114, 121, 45, x0, 117, 116] ∧ v = some (.ref uu2) ∧ so = [] ∧ Keep h0 h [])) := by
  refine Met.of (EWl V) (by first | decide +kernel | rfl) hO (L0 := #[.val (.ref p0), .unset, .unset, .unset, .unset]) rfl ?_
  intro p e s m below meth c T H
  show Go p e below _ (T.setTop (mkF m 0 #[.val (.ref p0), .unset, .unset, .unset, .unset] []))
  refine G.callS H (m2_values V h0 H.old) (wd41 V) (wd42 V) (wd36 V) (wd43 V) (by decide) (argsL := []) (rest := []) (W := 0) rfl rfl (lenOf (pd_1) rfl) rfl rfl D10_0 (pc' := 3) rfl (by decide) (by decide) (by decide) (by decide) all0 ?_
  intro T1 h1_ v2 s3 H1 Q4
  obtain ⟨a5, k6, rfl, rfl, K7, g8, F9, F10⟩ := Q4
  have na5 : n0 ≤ a5 := Nat.le_trans H.le g8
  show Go p e below _ (T1.setTop (mkF m 3 #[.val (.ref p0), .unset, .unset, .unset, .unset] [(.ref a5)]))
  refine G.astoreN H1 (L' := #[.val (.ref p0), .val (.ref a5), .unset, .unset, .unset]) D10_3 (pc' := 4) rfl rfl rfl ?_
  refine G.aloadN H1 D10_4 (pc' := 5) rfl rfl rfl ?_
  refine G.arrlen H1 F9 D10_5 (pc' := 6) rfl ?_
  refine G.istoreN H1 (L' := #[.val (.ref p0), .val (.ref a5), .val (.int 2), .unset, .unset]) D10_6 (pc' := 7) rfl rfl ?_
  refine G.iconst H1 D10_7 (pc' := 8) rfl (v := 0) rfl ?_
  refine G.istoreN H1 (L' := #[.val (.ref p0), .val (.ref a5), .val (.int 2), .val (.int 0), .unset]) D10_8 (pc' := 9) rfl rfl ?_
  refine G.iloadN H1 D10_9 (pc' := 10) rfl rfl ?_
  refine G.iloadN H1 D10_10 (pc' := 11) rfl rfl ?_
  refine G.icmpNo H1 D10_11 (pc' := 14) rfl (by decide) ?_
  refine G.aloadN H1 D10_14 (pc' := 15) rfl rfl rfl ?_
  refine G.iloadN H1 D10_15 (pc' := 16) rfl rfl ?_
  refine G.aaloadG H1 F9 rfl (j := 0) (v := (.ref uu1)) (by decide) rfl D10_16 (pc' := 17) rfl ?_
  refine G.astore H1 (L' := #[.val (.ref p0), .val (.ref a5), .val (.int 2), .val (.int 0), .val (.ref uu1)]) D10_17 (pc' := 19) rfl rfl rfl ?_
  refine G.aload H1 D10_19 (pc' := 21) rfl rfl rfl ?_
  have B11 := Fld.ext H1.old.2 (hv8 V)
  refine G.getF H1 (wd57 V) Via.refl B11 D10_21 (pc' := 24) rfl ?_
  intro T12 H13
  refine G.aloadN H13 D10_24 (pc' := 25) rfl rfl rfl ?_
  have B14 := Str.ext H13.old.2 (hv22 V)
  have F15 := (Str.keep f0 K7 nin0 nin0)
  refine G.strEq H13 (strwEq V) (wd2 V) (wd59 V) (wd60 V) (wd62 V) (wd61 V) B14 F15 (hv17 V) (hv18 V) (rest := []) (W := 0) rfl rfl D10_25 (pc' := 28) rfl (by decide) (by decide) (by decide) (by decide) ?_ ?_
  ·
    intro T16 H17 c18
    exact absurd c18 (by intro qq; simp at qq)
  ·
    intro T19 H20 c21
    refine G.ifYes H20 D10_28 (by decide) (by decide) (pc' := 34) rfl ?_
    refine G.iinc H20 (v := 1) (L' := #[.val (.ref p0), .val (.ref a5), .val (.int 2), .val (.int 1), .val (.ref uu1)]) D10_34 (pc' := 37) rfl rfl rfl rfl ?_
    refine G.goto H20 D10_37 (by decide) (pc' := 9) rfl ?_
    show Go p e below _ (T19.setTop (mkF m 9 #[.val (.ref p0), .val (.ref a5), .val (.int 2), .val (.int 1), .val (.ref uu1)] []))
    refine G.iloadN H20 D10_9 (pc' := 10) rfl rfl ?_
    refine G.iloadN H20 D10_10 (pc' := 11) rfl rfl ?_
    refine G.icmpNo H20 D10_11 (pc' := 14) rfl (by decide) ?_
    refine G.aloadN H20 D10_14 (pc' := 15) rfl rfl rfl ?_
    refine G.iloadN H20 D10_15 (pc' := 16) rfl rfl ?_
    refine G.aaloadG H20 F9 rfl (j := 1) (v := (.ref uu2)) (by decide) rfl D10_16 (pc' := 17) rfl ?_
    refine G.astore H20 (L' := #[.val (.ref p0), .val (.ref a5), .val (.int 2), .val (.int 1), .val (.ref uu2)]) D10_17 (pc' := 19) rfl rfl rfl ?_
    refine G.aload H20 D10_19 (pc' := 21) rfl rfl rfl ?_
    have B22 := Fld.ext H20.old.2 (hv6 V)
    refine G.getF H20 (wd57 V) Via.refl B22 D10_21 (pc' := 24) rfl ?_
    intro T23 H24
    refine G.aloadN H24 D10_24 (pc' := 25) rfl rfl rfl ?_
    have B25 := Str.ext H24.old.2 (hv21 V)
    refine G.strEq H24 (strwEq V) (wd2 V) (wd59 V) (wd60 V) (wd62 V) (wd61 V) B25 F15 (hv17 V) (hv18 V) (rest := []) (W := 0) rfl rfl D10_25 (pc' := 28) rfl (by decide) (by decide) (by decide) (by decide) ?_ ?_
    ·
      intro T26 H27 c28
      refine G.ifNo H27 D10_28 (pc' := 31) rfl (by decide) ?_
      refine G.aload H27 D10_31 (pc' := 33) rfl rfl rfl ?_
      have K29 : Keep h0 h1_ [] := (Keep.trans (Keep.refl h0 []) K7 all0)
      exact G.retA H27 (t := (.object "bindery/bindings/BindingType")) rfl rfl rfl D10_33 (so := []) all0 (by decide) (by decide) ⟨c28, rfl, rfl, K29⟩
    ·
      intro T30 H31 c32
      exact absurd (lcs rfl (lcs rfl (lcs rfl (lcs rfl (lcs rfl (lcs rfl (lcs rfl (lcs rfl (lcs rfl (lcs rfl (lcs cc1 (lcs rfl (lcs rfl rfl))))))))))))) c32
set_option maxRecDepth 65536 in
set_option maxHeartbeats 40000000 in
theorem m52_named (V : Env1 Z a0 n0 uu0 uu1 uu2 uu3 uu4 uu5 uu6 uu7 uu8 uu9 uu10 uu11) (p0 : Addr) (p1 : Addr) (c0 : ClassId) (x0 : Int32) (h0 : Heap) (hO : Old Z n0 h0) (f0 : Str Z h0 p0 p1 c0 [100, 105, 114, 101, 99, 116, 111, 114, 121, 45, x0, 117, 116]) (cc1 : ¬ 111 = x0) :
    Met Z a0 ELs True n0 l (⟨"bindery/bindings/BindingType", "named", "(Ljava/lang/String;)Lbindery/bindings/BindingType;"⟩ : MethodName) prog_4_method_4_code 5 (Option.some (FieldType.object "bindery/bindings/BindingType")) ({ frames := 2, cells := 1, slots := 2, locals := 28 } : Room) #[(.ref p0)] h0 [] (fun v h so => (¬ [100, 105, 114, 101, 99, 116, 111, 114, 121, 45, 111, 117, 116] = [100, 105, 114, 101, 99, 116, 111, 114, 121, 45, x0, 117, 116] ∧ v = some .null ∧ so = [] ∧ Keep h0 h [])) := by
  refine Met.of (EWl V) (by first | decide +kernel | rfl) hO (L0 := #[.val (.ref p0), .unset, .unset, .unset, .unset]) rfl ?_
  intro p e s m below meth c T H
  show Go p e below _ (T.setTop (mkF m 0 #[.val (.ref p0), .unset, .unset, .unset, .unset] []))
  refine G.callS H (m2_values V h0 H.old) (wd41 V) (wd42 V) (wd36 V) (wd43 V) (by decide) (argsL := []) (rest := []) (W := 0) rfl rfl (lenOf (pd_1) rfl) rfl rfl D10_0 (pc' := 3) rfl (by decide) (by decide) (by decide) (by decide) all0 ?_
  intro T1 h1_ v2 s3 H1 Q4
  obtain ⟨a5, k6, rfl, rfl, K7, g8, F9, F10⟩ := Q4
  have na5 : n0 ≤ a5 := Nat.le_trans H.le g8
  show Go p e below _ (T1.setTop (mkF m 3 #[.val (.ref p0), .unset, .unset, .unset, .unset] [(.ref a5)]))
  refine G.astoreN H1 (L' := #[.val (.ref p0), .val (.ref a5), .unset, .unset, .unset]) D10_3 (pc' := 4) rfl rfl rfl ?_
  refine G.aloadN H1 D10_4 (pc' := 5) rfl rfl rfl ?_
  refine G.arrlen H1 F9 D10_5 (pc' := 6) rfl ?_
  refine G.istoreN H1 (L' := #[.val (.ref p0), .val (.ref a5), .val (.int 2), .unset, .unset]) D10_6 (pc' := 7) rfl rfl ?_
  refine G.iconst H1 D10_7 (pc' := 8) rfl (v := 0) rfl ?_
  refine G.istoreN H1 (L' := #[.val (.ref p0), .val (.ref a5), .val (.int 2), .val (.int 0), .unset]) D10_8 (pc' := 9) rfl rfl ?_
  refine G.iloadN H1 D10_9 (pc' := 10) rfl rfl ?_
  refine G.iloadN H1 D10_10 (pc' := 11) rfl rfl ?_
  refine G.icmpNo H1 D10_11 (pc' := 14) rfl (by decide) ?_
  refine G.aloadN H1 D10_14 (pc' := 15) rfl rfl rfl ?_
  refine G.iloadN H1 D10_15 (pc' := 16) rfl rfl ?_
  refine G.aaloadG H1 F9 rfl (j := 0) (v := (.ref uu1)) (by decide) rfl D10_16 (pc' := 17) rfl ?_
  refine G.astore H1 (L' := #[.val (.ref p0), .val (.ref a5), .val (.int 2), .val (.int 0), .val (.ref uu1)]) D10_17 (pc' := 19) rfl rfl rfl ?_
  refine G.aload H1 D10_19 (pc' := 21) rfl rfl rfl ?_
  have B11 := Fld.ext H1.old.2 (hv8 V)
  refine G.getF H1 (wd57 V) Via.refl B11 D10_21 (pc' := 24) rfl ?_
  intro T12 H13
  refine G.aloadN H13 D10_24 (pc' := 25) rfl rfl rfl ?_
  have B14 := Str.ext H13.old.2 (hv22 V)
  have F15 := (Str.keep f0 K7 nin0 nin0)
  refine G.strEq H13 (strwEq V) (wd2 V) (wd59 V) (wd60 V) (wd62 V) (wd61 V) B14 F15 (hv17 V) (hv18 V) (rest := []) (W := 0) rfl rfl D10_25 (pc' := 28) rfl (by decide) (by decide) (by decide) (by decide) ?_ ?_
  ·
    intro T16 H17 c18
    exact absurd c18 (by intro qq; simp at qq)
  ·
    intro T19 H20 c21
    refine G.ifYes H20 D10_28 (by decide) (by decide) (pc' := 34) rfl ?_
    refine G.iinc H20 (v := 1) (L' := #[.val (.ref p0), .val (.ref a5), .val (.int 2), .val (.int 1), .val (.ref uu1)]) D10_34 (pc' := 37) rfl rfl rfl rfl ?_
    refine G.goto H20 D10_37 (by decide) (pc' := 9) rfl ?_
    show Go p e below _ (T19.setTop (mkF m 9 #[.val (.ref p0), .val (.ref a5), .val (.int 2), .val (.int 1), .val (.ref uu1)] []))
    refine G.iloadN H20 D10_9 (pc' := 10) rfl rfl ?_
    refine G.iloadN H20 D10_10 (pc' := 11) rfl rfl ?_
    refine G.icmpNo H20 D10_11 (pc' := 14) rfl (by decide) ?_
    refine G.aloadN H20 D10_14 (pc' := 15) rfl rfl rfl ?_
    refine G.iloadN H20 D10_15 (pc' := 16) rfl rfl ?_
    refine G.aaloadG H20 F9 rfl (j := 1) (v := (.ref uu2)) (by decide) rfl D10_16 (pc' := 17) rfl ?_
    refine G.astore H20 (L' := #[.val (.ref p0), .val (.ref a5), .val (.int 2), .val (.int 1), .val (.ref uu2)]) D10_17 (pc' := 19) rfl rfl rfl ?_
    refine G.aload H20 D10_19 (pc' := 21) rfl rfl rfl ?_
    have B22 := Fld.ext H20.old.2 (hv6 V)
    refine G.getF H20 (wd57 V) Via.refl B22 D10_21 (pc' := 24) rfl ?_
    intro T23 H24
    refine G.aloadN H24 D10_24 (pc' := 25) rfl rfl rfl ?_
    have B25 := Str.ext H24.old.2 (hv21 V)
    refine G.strEq H24 (strwEq V) (wd2 V) (wd59 V) (wd60 V) (wd62 V) (wd61 V) B25 F15 (hv17 V) (hv18 V) (rest := []) (W := 0) rfl rfl D10_25 (pc' := 28) rfl (by decide) (by decide) (by decide) (by decide) ?_ ?_
    ·
      intro T26 H27 c28
      exact absurd (List.cons.inj (List.cons.inj (List.cons.inj (List.cons.inj (List.cons.inj (List.cons.inj (List.cons.inj (List.cons.inj (List.cons.inj (List.cons.inj (List.cons.inj c28).2).2).2).2).2).2).2).2).2).2).1 cc1
    ·
      intro T29 H30 c31
      refine G.ifYes H30 D10_28 (by decide) (by decide) (pc' := 34) rfl ?_
      refine G.iinc H30 (v := 2) (L' := #[.val (.ref p0), .val (.ref a5), .val (.int 2), .val (.int 2), .val (.ref uu2)]) D10_34 (pc' := 37) rfl rfl rfl rfl ?_
      refine G.goto H30 D10_37 (by decide) (pc' := 9) rfl ?_
      show Go p e below _ (T29.setTop (mkF m 9 #[.val (.ref p0), .val (.ref a5), .val (.int 2), .val (.int 2), .val (.ref uu2)] []))
      refine G.iloadN H30 D10_9 (pc' := 10) rfl rfl ?_
      refine G.iloadN H30 D10_10 (pc' := 11) rfl rfl ?_
      refine G.icmpYes H30 D10_11 (by decide) (by decide) (pc' := 40) rfl ?_
      refine G.aconstNull H30 D10_40 (pc' := 41) rfl ?_
      have K32 : Keep h0 h1_ [] := (Keep.trans (Keep.refl h0 []) K7 all0)
      exact G.retA H30 (t := (.object "bindery/bindings/BindingType")) rfl rfl rfl D10_41 (so := []) all0 (by decide) (by decide) ⟨c31, rfl, rfl, K32⟩
set_option maxRecDepth 65536 in
set_option maxHeartbeats 40000000 in
theorem m53_named (V : Env1 Z a0 n0 uu0 uu1 uu2 uu3 uu4 uu5 uu6 uu7 uu8 uu9 uu10 uu11) (p0 : Addr) (p1 : Addr) (c0 : ClassId) (x0 : Int32) (h0 : Heap) (hO : Old Z n0 h0) (f0 : Str Z h0 p0 p1 c0 [100, 105, 114, 101, 99, 116, 111, 114, 121, 45, 111, x0, 116]) (cc1 : 117 = x0) :
    Met Z a0 ELs True n0 l (⟨"bindery/bindings/BindingType", "named", "(Ljava/lang/String;)Lbindery/bindings/BindingType;"⟩ : MethodName) prog_4_method_4_code 5 (Option.some (FieldType.object "bindery/bindings/BindingType")) ({ frames := 2, cells := 1, slots := 2, locals := 28 } : Room) #[(.ref p0)] h0 [] (fun v h so => ([100, 105, 114, 101, 99, 116, 111, 114, 121, 45, 111, 117, 116] = [100, 105, 114, 101, 99, 116, 111, 114, 121, 45, 111, x0, 116] ∧ v = some (.ref uu2) ∧ so = [] ∧ Keep h0 h [])) := by
  refine Met.of (EWl V) (by first | decide +kernel | rfl) hO (L0 := #[.val (.ref p0), .unset, .unset, .unset, .unset]) rfl ?_
  intro p e s m below meth c T H
  show Go p e below _ (T.setTop (mkF m 0 #[.val (.ref p0), .unset, .unset, .unset, .unset] []))
  refine G.callS H (m2_values V h0 H.old) (wd41 V) (wd42 V) (wd36 V) (wd43 V) (by decide) (argsL := []) (rest := []) (W := 0) rfl rfl (lenOf (pd_1) rfl) rfl rfl D10_0 (pc' := 3) rfl (by decide) (by decide) (by decide) (by decide) all0 ?_
  intro T1 h1_ v2 s3 H1 Q4
  obtain ⟨a5, k6, rfl, rfl, K7, g8, F9, F10⟩ := Q4
  have na5 : n0 ≤ a5 := Nat.le_trans H.le g8
  show Go p e below _ (T1.setTop (mkF m 3 #[.val (.ref p0), .unset, .unset, .unset, .unset] [(.ref a5)]))
  refine G.astoreN H1 (L' := #[.val (.ref p0), .val (.ref a5), .unset, .unset, .unset]) D10_3 (pc' := 4) rfl rfl rfl ?_
  refine G.aloadN H1 D10_4 (pc' := 5) rfl rfl rfl ?_
  refine G.arrlen H1 F9 D10_5 (pc' := 6) rfl ?_
  refine G.istoreN H1 (L' := #[.val (.ref p0), .val (.ref a5), .val (.int 2), .unset, .unset]) D10_6 (pc' := 7) rfl rfl ?_
  refine G.iconst H1 D10_7 (pc' := 8) rfl (v := 0) rfl ?_
  refine G.istoreN H1 (L' := #[.val (.ref p0), .val (.ref a5), .val (.int 2), .val (.int 0), .unset]) D10_8 (pc' := 9) rfl rfl ?_
  refine G.iloadN H1 D10_9 (pc' := 10) rfl rfl ?_
  refine G.iloadN H1 D10_10 (pc' := 11) rfl rfl ?_
  refine G.icmpNo H1 D10_11 (pc' := 14) rfl (by decide) ?_
  refine G.aloadN H1 D10_14 (pc' := 15) rfl rfl rfl ?_
  refine G.iloadN H1 D10_15 (pc' := 16) rfl rfl ?_
  refine G.aaloadG H1 F9 rfl (j := 0) (v := (.ref uu1)) (by decide) rfl D10_16 (pc' := 17) rfl ?_
  refine G.astore H1 (L' := #[.val (.ref p0), .val (.ref a5), .val (.int 2), .val (.int 0), .val (.ref uu1)]) D10_17 (pc' := 19) rfl rfl rfl ?_
  refine G.aload H1 D10_19 (pc' := 21) rfl rfl rfl ?_
  have B11 := Fld.ext H1.old.2 (hv8 V)
  refine G.getF H1 (wd57 V) Via.refl B11 D10_21 (pc' := 24) rfl ?_
  intro T12 H13
  refine G.aloadN H13 D10_24 (pc' := 25) rfl rfl rfl ?_
  have B14 := Str.ext H13.old.2 (hv22 V)
  have F15 := (Str.keep f0 K7 nin0 nin0)
  refine G.strEq H13 (strwEq V) (wd2 V) (wd59 V) (wd60 V) (wd62 V) (wd61 V) B14 F15 (hv17 V) (hv18 V) (rest := []) (W := 0) rfl rfl D10_25 (pc' := 28) rfl (by decide) (by decide) (by decide) (by decide) ?_ ?_
  ·
    intro T16 H17 c18
    exact absurd c18 (by intro qq; simp at qq)
  ·
    intro T19 H20 c21
    refine G.ifYes H20 D10_28 (by decide) (by decide) (pc' := 34) rfl ?_
    refine G.iinc H20 (v := 1) (L' := #[.val (.ref p0), .val (.ref a5), .val (.int 2), .val (.int 1), .val (.ref uu1)]) D10_34 (pc' := 37) rfl rfl rfl rfl ?_
    refine G.goto H20 D10_37 (by decide) (pc' := 9) rfl ?_
    show Go p e below _ (T19.setTop (mkF m 9 #[.val (.ref p0), .val (.ref a5), .val (.int 2), .val (.int 1), .val (.ref uu1)] []))
    refine G.iloadN H20 D10_9 (pc' := 10) rfl rfl ?_
    refine G.iloadN H20 D10_10 (pc' := 11) rfl rfl ?_
    refine G.icmpNo H20 D10_11 (pc' := 14) rfl (by decide) ?_
    refine G.aloadN H20 D10_14 (pc' := 15) rfl rfl rfl ?_
    refine G.iloadN H20 D10_15 (pc' := 16) rfl rfl ?_
    refine G.aaloadG H20 F9 rfl (j := 1) (v := (.ref uu2)) (by decide) rfl D10_16 (pc' := 17) rfl ?_
    refine G.astore H20 (L' := #[.val (.ref p0), .val (.ref a5), .val (.int 2), .val (.int 1), .val (.ref uu2)]) D10_17 (pc' := 19) rfl rfl rfl ?_
    refine G.aload H20 D10_19 (pc' := 21) rfl rfl rfl ?_
    have B22 := Fld.ext H20.old.2 (hv6 V)
    refine G.getF H20 (wd57 V) Via.refl B22 D10_21 (pc' := 24) rfl ?_
    intro T23 H24
    refine G.aloadN H24 D10_24 (pc' := 25) rfl rfl rfl ?_
    have B25 := Str.ext H24.old.2 (hv21 V)
    refine G.strEq H24 (strwEq V) (wd2 V) (wd59 V) (wd60 V) (wd62 V) (wd61 V) B25 F15 (hv17 V) (hv18 V) (rest := []) (W := 0) rfl rfl D10_25 (pc' := 28) rfl (by decide) (by decide) (by decide) (by decide) ?_ ?_
    ·
      intro T26 H27 c28
      refine G.ifNo H27 D10_28 (pc' := 31) rfl (by decide) ?_
      refine G.aload H27 D10_31 (pc' := 33) rfl rfl rfl ?_
      have K29 : Keep h0 h1_ [] := (Keep.trans (Keep.refl h0 []) K7 all0)
      exact G.retA H27 (t := (.object "bindery/bindings/BindingType")) rfl rfl rfl D10_33 (so := []) all0 (by decide) (by decide) ⟨c28, rfl, rfl, K29⟩
    ·
      intro T30 H31 c32
      exact absurd (lcs rfl (lcs rfl (lcs rfl (lcs rfl (lcs rfl (lcs rfl (lcs rfl (lcs rfl (lcs rfl (lcs rfl (lcs rfl (lcs cc1 (lcs rfl rfl))))))))))))) c32
set_option maxRecDepth 65536 in
set_option maxHeartbeats 40000000 in
theorem m54_named (V : Env1 Z a0 n0 uu0 uu1 uu2 uu3 uu4 uu5 uu6 uu7 uu8 uu9 uu10 uu11) (p0 : Addr) (p1 : Addr) (c0 : ClassId) (x0 : Int32) (h0 : Heap) (hO : Old Z n0 h0) (f0 : Str Z h0 p0 p1 c0 [100, 105, 114, 101, 99, 116, 111, 114, 121, 45, 111, x0, 116]) (cc1 : ¬ 117 = x0) :
    Met Z a0 ELs True n0 l (⟨"bindery/bindings/BindingType", "named", "(Ljava/lang/String;)Lbindery/bindings/BindingType;"⟩ : MethodName) prog_4_method_4_code 5 (Option.some (FieldType.object "bindery/bindings/BindingType")) ({ frames := 2, cells := 1, slots := 2, locals := 28 } : Room) #[(.ref p0)] h0 [] (fun v h so => (¬ [100, 105, 114, 101, 99, 116, 111, 114, 121, 45, 111, 117, 116] = [100, 105, 114, 101, 99, 116, 111, 114, 121, 45, 111, x0, 116] ∧ v = some .null ∧ so = [] ∧ Keep h0 h [])) := by
  refine Met.of (EWl V) (by first | decide +kernel | rfl) hO (L0 := #[.val (.ref p0), .unset, .unset, .unset, .unset]) rfl ?_
  intro p e s m below meth c T H
  show Go p e below _ (T.setTop (mkF m 0 #[.val (.ref p0), .unset, .unset, .unset, .unset] []))
  refine G.callS H (m2_values V h0 H.old) (wd41 V) (wd42 V) (wd36 V) (wd43 V) (by decide) (argsL := []) (rest := []) (W := 0) rfl rfl (lenOf (pd_1) rfl) rfl rfl D10_0 (pc' := 3) rfl (by decide) (by decide) (by decide) (by decide) all0 ?_
  intro T1 h1_ v2 s3 H1 Q4
  obtain ⟨a5, k6, rfl, rfl, K7, g8, F9, F10⟩ := Q4
  have na5 : n0 ≤ a5 := Nat.le_trans H.le g8
  show Go p e below _ (T1.setTop (mkF m 3 #[.val (.ref p0), .unset, .unset, .unset, .unset] [(.ref a5)]))
  refine G.astoreN H1 (L' := #[.val (.ref p0), .val (.ref a5), .unset, .unset, .unset]) D10_3 (pc' := 4) rfl rfl rfl ?_
  refine G.aloadN H1 D10_4 (pc' := 5) rfl rfl rfl ?_
  refine G.arrlen H1 F9 D10_5 (pc' := 6) rfl ?_
  refine G.istoreN H1 (L' := #[.val (.ref p0), .val (.ref a5), .val (.int 2), .unset, .unset]) D10_6 (pc' := 7) rfl rfl ?_
  refine G.iconst H1 D10_7 (pc' := 8) rfl (v := 0) rfl ?_
  refine G.istoreN H1 (L' := #[.val (.ref p0), .val (.ref a5), .val (.int 2), .val (.int 0), .unset]) D10_8 (pc' := 9) rfl rfl ?_
  refine G.iloadN H1 D10_9 (pc' := 10) rfl rfl ?_
  refine G.iloadN H1 D10_10 (pc' := 11) rfl rfl ?_
  refine G.icmpNo H1 D10_11 (pc' := 14) rfl (by decide) ?_
  refine G.aloadN H1 D10_14 (pc' := 15) rfl rfl rfl ?_
  refine G.iloadN H1 D10_15 (pc' := 16) rfl rfl ?_
  refine G.aaloadG H1 F9 rfl (j := 0) (v := (.ref uu1)) (by decide) rfl D10_16 (pc' := 17) rfl ?_
  refine G.astore H1 (L' := #[.val (.ref p0), .val (.ref a5), .val (.int 2), .val (.int 0), .val (.ref uu1)]) D10_17 (pc' := 19) rfl rfl rfl ?_
  refine G.aload H1 D10_19 (pc' := 21) rfl rfl rfl ?_
  have B11 := Fld.ext H1.old.2 (hv8 V)
  refine G.getF H1 (wd57 V) Via.refl B11 D10_21 (pc' := 24) rfl ?_
  intro T12 H13
  refine G.aloadN H13 D10_24 (pc' := 25) rfl rfl rfl ?_
  have B14 := Str.ext H13.old.2 (hv22 V)
  have F15 := (Str.keep f0 K7 nin0 nin0)
  refine G.strEq H13 (strwEq V) (wd2 V) (wd59 V) (wd60 V) (wd62 V) (wd61 V) B14 F15 (hv17 V) (hv18 V) (rest := []) (W := 0) rfl rfl D10_25 (pc' := 28) rfl (by decide) (by decide) (by decide) (by decide) ?_ ?_
  ·
    intro T16 H17 c18
    exact absurd c18 (by intro qq; simp at qq)
  ·
    intro T19 H20 c21
    refine G.ifYes H20 D10_28 (by decide) (by decide) (pc' := 34) rfl ?_
    refine G.iinc H20 (v := 1) (L' := #[.val (.ref p0), .val (.ref a5), .val (.int 2), .val (.int 1), .val (.ref uu1)]) D10_34 (pc' := 37) rfl rfl rfl rfl ?_
    refine G.goto H20 D10_37 (by decide) (pc' := 9) rfl ?_
    show Go p e below _ (T19.setTop (mkF m 9 #[.val (.ref p0), .val (.ref a5), .val (.int 2), .val (.int 1), .val (.ref uu1)] []))
    refine G.iloadN H20 D10_9 (pc' := 10) rfl rfl ?_
    refine G.iloadN H20 D10_10 (pc' := 11) rfl rfl ?_
    refine G.icmpNo H20 D10_11 (pc' := 14) rfl (by decide) ?_
    refine G.aloadN H20 D10_14 (pc' := 15) rfl rfl rfl ?_
    refine G.iloadN H20 D10_15 (pc' := 16) rfl rfl ?_
    refine G.aaloadG H20 F9 rfl (j := 1) (v := (.ref uu2)) (by decide) rfl D10_16 (pc' := 17) rfl ?_
    refine G.astore H20 (L' := #[.val (.ref p0), .val (.ref a5), .val (.int 2), .val (.int 1), .val (.ref uu2)]) D10_17 (pc' := 19) rfl rfl rfl ?_
    refine G.aload H20 D10_19 (pc' := 21) rfl rfl rfl ?_
    have B22 := Fld.ext H20.old.2 (hv6 V)
    refine G.getF H20 (wd57 V) Via.refl B22 D10_21 (pc' := 24) rfl ?_
    intro T23 H24
    refine G.aloadN H24 D10_24 (pc' := 25) rfl rfl rfl ?_
    have B25 := Str.ext H24.old.2 (hv21 V)
    refine G.strEq H24 (strwEq V) (wd2 V) (wd59 V) (wd60 V) (wd62 V) (wd61 V) B25 F15 (hv17 V) (hv18 V) (rest := []) (W := 0) rfl rfl D10_25 (pc' := 28) rfl (by decide) (by decide) (by decide) (by decide) ?_ ?_
    ·
      intro T26 H27 c28
      exact absurd (List.cons.inj (List.cons.inj (List.cons.inj (List.cons.inj (List.cons.inj (List.cons.inj (List.cons.inj (List.cons.inj (List.cons.inj (List.cons.inj (List.cons.inj (List.cons.inj c28).2).2).2).2).2).2).2).2).2).2).2).1 cc1
    ·
      intro T29 H30 c31
      refine G.ifYes H30 D10_28 (by decide) (by decide) (pc' := 34) rfl ?_
      refine G.iinc H30 (v := 2) (L' := #[.val (.ref p0), .val (.ref a5), .val (.int 2), .val (.int 2), .val (.ref uu2)]) D10_34 (pc' := 37) rfl rfl rfl rfl ?_
      refine G.goto H30 D10_37 (by decide) (pc' := 9) rfl ?_
      show Go p e below _ (T29.setTop (mkF m 9 #[.val (.ref p0), .val (.ref a5), .val (.int 2), .val (.int 2), .val (.ref uu2)] []))
      refine G.iloadN H30 D10_9 (pc' := 10) rfl rfl ?_
      refine G.iloadN H30 D10_10 (pc' := 11) rfl rfl ?_
      refine G.icmpYes H30 D10_11 (by decide) (by decide) (pc' := 40) rfl ?_
      refine G.aconstNull H30 D10_40 (pc' := 41) rfl ?_
      have K32 : Keep h0 h1_ [] := (Keep.trans (Keep.refl h0 []) K7 all0)
      exact G.retA H30 (t := (.object "bindery/bindings/BindingType")) rfl rfl rfl D10_41 (so := []) all0 (by decide) (by decide) ⟨c31, rfl, rfl, K32⟩
set_option maxRecDepth 65536 in
set_option maxHeartbeats 40000000 in
theorem m55_named (V : Env1 Z a0 n0 uu0 uu1 uu2 uu3 uu4 uu5 uu6 uu7 uu8 uu9 uu10 uu11) (p0 : Addr) (p1 : Addr) (c0 : ClassId) (x0 : Int32) (h0 : Heap) (hO : Old Z n0 h0) (f0 : Str Z h0 p0 p1 c0 [100, 105, 114, 101, 99, 116, 111, 114, 121, 45, 111, 117, x0]) (cc1 : 116 = x0) :
    Met Z a0 ELs True n0 l (⟨"bindery/bindings/BindingType", "named", "(Ljava/lang/String;)Lbindery/bindings/BindingType;"⟩ : MethodName) prog_4_method_4_code 5 (Option.some (FieldType.object "bindery/bindings/BindingType")) ({ frames := 2, cells := 1, slots := 2, locals := 28 } : Room) #[(.ref p0)] h0 [] (fun v h so => ([100, 105, 114, 101, 99, 116, 111, 114, 121, 45, 111, 117, 116] = [100, 105, 114, 101, 99, 116, 111, 114, 121, 45, 111, 117, x0] ∧ v = some (.ref uu2) ∧ so = [] ∧ Keep h0 h [])) := by
  refine Met.of (EWl V) (by first | decide +kernel | rfl) hO (L0 := #[.val (.ref p0), .unset, .unset, .unset, .unset]) rfl ?_
  intro p e s m below meth c T H
  show Go p e below _ (T.setTop (mkF m 0 #[.val (.ref p0), .unset, .unset, .unset, .unset] []))
  refine G.callS H (m2_values V h0 H.old) (wd41 V) (wd42 V) (wd36 V) (wd43 V) (by decide) (argsL := []) (rest := []) (W := 0) rfl rfl (lenOf (pd_1) rfl) rfl rfl D10_0 (pc' := 3) rfl (by decide) (by decide) (by decide) (by decide) all0 ?_
  intro T1 h1_ v2 s3 H1 Q4
  obtain ⟨a5, k6, rfl, rfl, K7, g8, F9, F10⟩ := Q4
  have na5 : n0 ≤ a5 := Nat.le_trans H.le g8
  show Go p e below _ (T1.setTop (mkF m 3 #[.val (.ref p0), .unset, .unset, .unset, .unset] [(.ref a5)]))
  refine G.astoreN H1 (L' := #[.val (.ref p0), .val (.ref a5), .unset, .unset, .unset]) D10_3 (pc' := 4) rfl rfl rfl ?_
  refine G.aloadN H1 D10_4 (pc' := 5) rfl rfl rfl ?_
  refine G.arrlen H1 F9 D10_5 (pc' := 6) rfl ?_
  refine G.istoreN H1 (L' := #[.val (.ref p0), .val (.ref a5), .val (.int 2), .unset, .unset]) D10_6 (pc' := 7) rfl rfl ?_
  refine G.iconst H1 D10_7 (pc' := 8) rfl (v := 0) rfl ?_
  refine G.istoreN H1 (L' := #[.val (.ref p0), .val (.ref a5), .val (.int 2), .val (.int 0), .unset]) D10_8 (pc' := 9) rfl rfl ?_
  refine G.iloadN H1 D10_9 (pc' := 10) rfl rfl ?_
  refine G.iloadN H1 D10_10 (pc' := 11) rfl rfl ?_
  refine G.icmpNo H1 D10_11 (pc' := 14) rfl (by decide) ?_
  refine G.aloadN H1 D10_14 (pc' := 15) rfl rfl rfl ?_
  refine G.iloadN H1 D10_15 (pc' := 16) rfl rfl ?_
  refine G.aaloadG H1 F9 rfl (j := 0) (v := (.ref uu1)) (by decide) rfl D10_16 (pc' := 17) rfl ?_
  refine G.astore H1 (L' := #[.val (.ref p0), .val (.ref a5), .val (.int 2), .val (.int 0), .val (.ref uu1)]) D10_17 (pc' := 19) rfl rfl rfl ?_
  refine G.aload H1 D10_19 (pc' := 21) rfl rfl rfl ?_
  have B11 := Fld.ext H1.old.2 (hv8 V)
  refine G.getF H1 (wd57 V) Via.refl B11 D10_21 (pc' := 24) rfl ?_
  intro T12 H13
  refine G.aloadN H13 D10_24 (pc' := 25) rfl rfl rfl ?_
  have B14 := Str.ext H13.old.2 (hv22 V)
  have F15 := (Str.keep f0 K7 nin0 nin0)
  refine G.strEq H13 (strwEq V) (wd2 V) (wd59 V) (wd60 V) (wd62 V) (wd61 V) B14 F15 (hv17 V) (hv18 V) (rest := []) (W := 0) rfl rfl D10_25 (pc' := 28) rfl (by decide) (by decide) (by decide) (by decide) ?_ ?_
  ·
    intro T16 H17 c18
    exact absurd c18 (by intro qq; simp at qq)
  ·
    intro T19 H20 c21
    refine G.ifYes H20 D10_28 (by decide) (by decide) (pc' := 34) rfl ?_
    refine G.iinc H20 (v := 1) (L' := #[.val (.ref p0), .val (.ref a5), .val (.int 2), .val (.int 1), .val (.ref uu1)]) D10_34 (pc' := 37) rfl rfl rfl rfl ?_
    refine G.goto H20 D10_37 (by decide) (pc' := 9) rfl ?_
    show Go p e below _ (T19.setTop (mkF m 9 #[.val (.ref p0), .val (.ref a5), .val (.int 2), .val (.int 1), .val (.ref uu1)] []))
    refine G.iloadN H20 D10_9 (pc' := 10) rfl rfl ?_
    refine G.iloadN H20 D10_10 (pc' := 11) rfl rfl ?_
    refine G.icmpNo H20 D10_11 (pc' := 14) rfl (by decide) ?_
    refine G.aloadN H20 D10_14 (pc' := 15) rfl rfl rfl ?_
    refine G.iloadN H20 D10_15 (pc' := 16) rfl rfl ?_
    refine G.aaloadG H20 F9 rfl (j := 1) (v := (.ref uu2)) (by decide) rfl D10_16 (pc' := 17) rfl ?_
    refine G.astore H20 (L' := #[.val (.ref p0), .val (.ref a5), .val (.int 2), .val (.int 1), .val (.ref uu2)]) D10_17 (pc' := 19) rfl rfl rfl ?_
    refine G.aload H20 D10_19 (pc' := 21) rfl rfl rfl ?_
    have B22 := Fld.ext H20.old.2 (hv6 V)
    refine G.getF H20 (wd57 V) Via.refl B22 D10_21 (pc' := 24) rfl ?_
    intro T23 H24
    refine G.aloadN H24 D10_24 (pc' := 25) rfl rfl rfl ?_
    have B25 := Str.ext H24.old.2 (hv21 V)
    refine G.strEq H24 (strwEq V) (wd2 V) (wd59 V) (wd60 V) (wd62 V) (wd61 V) B25 F15 (hv17 V) (hv18 V) (rest := []) (W := 0) rfl rfl D10_25 (pc' := 28) rfl (by decide) (by decide) (by decide) (by decide) ?_ ?_
    ·
      intro T26 H27 c28
      refine G.ifNo H27 D10_28 (pc' := 31) rfl (by decide) ?_
      refine G.aload H27 D10_31 (pc' := 33) rfl rfl rfl ?_
      have K29 : Keep h0 h1_ [] := (Keep.trans (Keep.refl h0 []) K7 all0)
      exact G.retA H27 (t := (.object "bindery/bindings/BindingType")) rfl rfl rfl D10_33 (so := []) all0 (by decide) (by decide) ⟨c28, rfl, rfl, K29⟩
    ·
      intro T30 H31 c32
      exact absurd (lcs rfl (lcs rfl (lcs rfl (lcs rfl (lcs rfl (lcs rfl (lcs rfl (lcs rfl (lcs rfl (lcs rfl (lcs rfl (lcs rfl (lcs cc1 rfl))))))))))))) c32
set_option maxRecDepth 65536 in
set_option maxHeartbeats 40000000 in
theorem m56_named (V : Env1 Z a0 n0 uu0 uu1 uu2 uu3 uu4 uu5 uu6 uu7 uu8 uu9 uu10 uu11) (p0 : Addr) (p1 : Addr) (c0 : ClassId) (x0 : Int32) (h0 : Heap) (hO : Old Z n0 h0) (f0 : Str Z h0 p0 p1 c0 [100, 105, 114, 101, 99, 116, 111, 114, 121, 45, 111, 117, x0]) (cc1 : ¬ 116 = x0) :
    Met Z a0 ELs True n0 l (⟨"bindery/bindings/BindingType", "named", "(Ljava/lang/String;)Lbindery/bindings/BindingType;"⟩ : MethodName) prog_4_method_4_code 5 (Option.some (FieldType.object "bindery/bindings/BindingType")) ({ frames := 2, cells := 1, slots := 2, locals := 28 } : Room) #[(.ref p0)] h0 [] (fun v h so => (¬ [100, 105, 114, 101, 99, 116, 111, 114, 121, 45, 111, 117, 116] = [100, 105, 114, 101, 99, 116, 111, 114, 121, 45, 111, 117, x0] ∧ v = some .null ∧ so = [] ∧ Keep h0 h [])) := by
  refine Met.of (EWl V) (by first | decide +kernel | rfl) hO (L0 := #[.val (.ref p0), .unset, .unset, .unset, .unset]) rfl ?_
  intro p e s m below meth c T H
  show Go p e below _ (T.setTop (mkF m 0 #[.val (.ref p0), .unset, .unset, .unset, .unset] []))
  refine G.callS H (m2_values V h0 H.old) (wd41 V) (wd42 V) (wd36 V) (wd43 V) (by decide) (argsL := []) (rest := []) (W := 0) rfl rfl (lenOf (pd_1) rfl) rfl rfl D10_0 (pc' := 3) rfl (by decide) (by decide) (by decide) (by decide) all0 ?_
  intro T1 h1_ v2 s3 H1 Q4
  obtain ⟨a5, k6, rfl, rfl, K7, g8, F9, F10⟩ := Q4
  have na5 : n0 ≤ a5 := Nat.le_trans H.le g8
  show Go p e below _ (T1.setTop (mkF m 3 #[.val (.ref p0), .unset, .unset, .unset, .unset] [(.ref a5)]))
  refine G.astoreN H1 (L' := #[.val (.ref p0), .val (.ref a5), .unset, .unset, .unset]) D10_3 (pc' := 4) rfl rfl rfl ?_
  refine G.aloadN H1 D10_4 (pc' := 5) rfl rfl rfl ?_
  refine G.arrlen H1 F9 D10_5 (pc' := 6) rfl ?_
  refine G.istoreN H1 (L' := #[.val (.ref p0), .val (.ref a5), .val (.int 2), .unset, .unset]) D10_6 (pc' := 7) rfl rfl ?_
  refine G.iconst H1 D10_7 (pc' := 8) rfl (v := 0) rfl ?_
  refine G.istoreN H1 (L' := #[.val (.ref p0), .val (.ref a5), .val (.int 2), .val (.int 0), .unset]) D10_8 (pc' := 9) rfl rfl ?_
  refine G.iloadN H1 D10_9 (pc' := 10) rfl rfl ?_
  refine G.iloadN H1 D10_10 (pc' := 11) rfl rfl ?_
  refine G.icmpNo H1 D10_11 (pc' := 14) rfl (by decide) ?_
  refine G.aloadN H1 D10_14 (pc' := 15) rfl rfl rfl ?_
  refine G.iloadN H1 D10_15 (pc' := 16) rfl rfl ?_
  refine G.aaloadG H1 F9 rfl (j := 0) (v := (.ref uu1)) (by decide) rfl D10_16 (pc' := 17) rfl ?_
  refine G.astore H1 (L' := #[.val (.ref p0), .val (.ref a5), .val (.int 2), .val (.int 0), .val (.ref uu1)]) D10_17 (pc' := 19) rfl rfl rfl ?_
  refine G.aload H1 D10_19 (pc' := 21) rfl rfl rfl ?_
  have B11 := Fld.ext H1.old.2 (hv8 V)
  refine G.getF H1 (wd57 V) Via.refl B11 D10_21 (pc' := 24) rfl ?_
  intro T12 H13
  refine G.aloadN H13 D10_24 (pc' := 25) rfl rfl rfl ?_
  have B14 := Str.ext H13.old.2 (hv22 V)
  have F15 := (Str.keep f0 K7 nin0 nin0)
  refine G.strEq H13 (strwEq V) (wd2 V) (wd59 V) (wd60 V) (wd62 V) (wd61 V) B14 F15 (hv17 V) (hv18 V) (rest := []) (W := 0) rfl rfl D10_25 (pc' := 28) rfl (by decide) (by decide) (by decide) (by decide) ?_ ?_
  ·
    intro T16 H17 c18
    exact absurd c18 (by intro qq; simp at qq)
  ·
    intro T19 H20 c21
    refine G.ifYes H20 D10_28 (by decide) (by decide) (pc' := 34) rfl ?_
    refine G.iinc H20 (v := 1) (L' := #[.val (.ref p0), .val (.ref a5), .val (.int 2), .val (.int 1), .val (.ref uu1)]) D10_34 (pc' := 37) rfl rfl rfl rfl ?_
    refine G.goto H20 D10_37 (by decide) (pc' := 9) rfl ?_
    show Go p e below _ (T19.setTop (mkF m 9 #[.val (.ref p0), .val (.ref a5), .val (.int 2), .val (.int 1), .val (.ref uu1)] []))
    refine G.iloadN H20 D10_9 (pc' := 10) rfl rfl ?_
    refine G.iloadN H20 D10_10 (pc' := 11) rfl rfl ?_
    refine G.icmpNo H20 D10_11 (pc' := 14) rfl (by decide) ?_
    refine G.aloadN H20 D10_14 (pc' := 15) rfl rfl rfl ?_
    refine G.iloadN H20 D10_15 (pc' := 16) rfl rfl ?_
    refine G.aaloadG H20 F9 rfl (j := 1) (v := (.ref uu2)) (by decide) rfl D10_16 (pc' := 17) rfl ?_
    refine G.astore H20 (L' := #[.val (.ref p0), .val (.ref a5), .val (.int 2), .val (.int 1), .val (.ref uu2)]) D10_17 (pc' := 19) rfl rfl rfl ?_
    refine G.aload H20 D10_19 (pc' := 21) rfl rfl rfl ?_
    have B22 := Fld.ext H20.old.2 (hv6 V)
    refine G.getF H20 (wd57 V) Via.refl B22 D10_21 (pc' := 24) rfl ?_
    intro T23 H24
    refine G.aloadN H24 D10_24 (pc' := 25) rfl rfl rfl ?_
    have B25 := Str.ext H24.old.2 (hv21 V)
    refine G.strEq H24 (strwEq V) (wd2 V) (wd59 V) (wd60 V) (wd62 V) (wd61 V) B25 F15 (hv17 V) (hv18 V) (rest := []) (W := 0) rfl rfl D10_25 (pc' := 28) rfl (by decide) (by decide) (by decide) (by decide) ?_ ?_
    ·
      intro T26 H27 c28
      exact absurd (List.cons.inj (List.cons.inj (List.cons.inj (List.cons.inj (List.cons.inj (List.cons.inj (List.cons.inj (List.cons.inj (List.cons.inj (List.cons.inj (List.cons.inj (List.cons.inj (List.cons.inj c28).2).2).2).2).2).2).2).2).2).2).2).2).1 cc1
    ·
      intro T29 H30 c31
      refine G.ifYes H30 D10_28 (by decide) (by decide) (pc' := 34) rfl ?_
      refine G.iinc H30 (v := 2) (L' := #[.val (.ref p0), .val (.ref a5), .val (.int 2), .val (.int 2), .val (.ref uu2)]) D10_34 (pc' := 37) rfl rfl rfl rfl ?_
      refine G.goto H30 D10_37 (by decide) (pc' := 9) rfl ?_
      show Go p e below _ (T29.setTop (mkF m 9 #[.val (.ref p0), .val (.ref a5), .val (.int 2), .val (.int 2), .val (.ref uu2)] []))
      refine G.iloadN H30 D10_9 (pc' := 10) rfl rfl ?_
      refine G.iloadN H30 D10_10 (pc' := 11) rfl rfl ?_
      refine G.icmpYes H30 D10_11 (by decide) (by decide) (pc' := 40) rfl ?_
      refine G.aconstNull H30 D10_40 (pc' := 41) rfl ?_
      have K32 : Keep h0 h1_ [] := (Keep.trans (Keep.refl h0 []) K7 all0)
      exact G.retA H30 (t := (.object "bindery/bindings/BindingType")) rfl rfl rfl D10_41 (so := []) all0 (by decide) (by decide) ⟨c31, rfl, rfl, K32⟩
set_option maxRecDepth 65536 in
set_option maxHeartbeats 40000000 in
theorem cut57_159 (V : Env1 Z a0 n0 uu0 uu1 uu2 uu3 uu4 uu5 uu6 uu7 uu8 uu9 uu10 uu11) (x90159 : Int32) (x0 : Int32) (x1 : Int32) (x2 : Int32) (x3 : Int32) (p0 : Addr) (c0 : ClassId) (H : Hs p l e room_1 s m as' below meth c Z a0 ELs True x.cls n0 code maxLocals ret x.name T h0 1 13 []) (sp : x90159 = 0 ∨ x90159 = 1 ∨ x90159 = 2 ∨ x90159 = 3 ∨ x90159 = 4 ∨ x90159 = 5 ∨ x90159 = 6 ∨ x90159 = 7 ∨ x90159 = 8 ∨ x90159 = 9 ∨ x90159 = 10 ∨ x90159 = 11 ∨ x90159 = 12) (f1 : Arv Z h0 p0 c0 .char 13 [(.int 100), (.int 105), (.int 114), (.int 101), (.int 99), (.int 116), (.int 111), (.int 114), (.int 121), (.int 45), (.int 111), (.int 117), (.int 116)] (.int 0)) (g2 : n0 ≤ p0) :
    Go p e below (FinP s below Z ELs True n0 room_1.cells room_1.slots (fun v h so => v = some (.int 1))) (T.setTop (mkF m 159 #[.val (.int x0), .val (.int x1), .val (.int x2), .val (.int x3), .val (.int (x2 &&& 255)), .val (.int (x3 &&& 255)), .val (.int (x1 &&& 2147483647)), .val (.int (x0 &&& 7)), .unset, .unset, .val (.ref p0), .val (.int x90159), .unset] [])) := by
  rcases sp with rfl | rfl | rfl | rfl | rfl | rfl | rfl | rfl | rfl | rfl | rfl | rfl | rfl
  ·
    refine G.aload H at_159 (pc' := 161) rfl rfl rfl ?_
    refine G.iload H at_161 (pc' := 163) rfl rfl ?_
    refine G.caloadG H f1 (j := 0) (v := (.int 100)) (by decide) rfl at_163 (pc' := 164) rfl ?_
    refine G.istore H (L' := #[.val (.int x0), .val (.int x1), .val (.int x2), .val (.int x3), .val (.int (x2 &&& 255)), .val (.int (x3 &&& 255)), .val (.int (x1 &&& 2147483647)), .val (.int (x0 &&& 7)), .unset, .unset, .val (.ref p0), .val (.int 0), .val (.int 100)]) at_164 (pc' := 166) rfl rfl ?_
    refine G.aload H at_166 (pc' := 168) rfl rfl rfl ?_
    refine G.iload H at_168 (pc' := 170) rfl rfl ?_
    refine G.iload H at_170 (pc' := 172) rfl rfl ?_
    refine G.stC H f1 (by decide) (i := 0) rfl lB g2 (y := (x2 &&& 255)) (own_narC (own_u16 (own_and255 _))) at_172 (pc' := 173) rfl ?_
    intro T1 h1_ H1 W2 A3
    replace A3 : Arv Z h1_ p0 c0 .char 13 [(.int (x2 &&& 255)), (.int 105), (.int 114), (.int 101), (.int 99), (.int 116), (.int 111), (.int 114), (.int 121), (.int 45), (.int 111), (.int 117), (.int 116)] (.int 0) := A3
    refine G.new H1 (wd1 V) (wd2 V) (wd3 V) at_173 (pc' := 176) rfl (by decide) (by decide) ?_
    intro T4 h4_ a5 ga5 H4 E6 A7 D8
    have na5 := H1.nle ga5
    refine G.dup H4 at_176 (pc' := 177) rfl rfl ?_
    refine G.aload H4 at_177 (pc' := 179) rfl rfl rfl ?_
    have F9 := (Arv.ext A3 E6)
    have F10 : Fld Z h4_ a5 "java/lang/String" "value" "[B" .null := D8 (Or.inr (wd34 V)) (ty := (.array .byte)) (by decide)
    have F11 : Fld Z h4_ a5 "java/lang/String" "coder" "B" (.int 0) := D8 (Or.inr (wd32 V)) (ty := .byte) (by decide)
    refine G.newStr H4 (strw V) (wd2 V) (wd9 V) (wd10 V) (cs := [(x2 &&& 255), 105, 114, 101, 99, 116, 111, 114, 121, 45, 111, 117, 116]) (n := 13) na5 A7 F10 F11 F9 (hv17 V) (hv18 V) rfl rfl (by decide) (by decide) (cbS (own_and255 _) (cbS (by decide) (cbS (by decide) (cbS (by decide) (cbS (by decide) (cbS (by decide) (cbS (by decide) (cbS (by decide) (cbS (by decide) (cbS (by decide) (cbS (by decide) (cbS (by decide) (cbS (by decide) cb0))))))))))))) (Sf.mem (mG (i := 0) rfl)) (rest := [(.ref a5)]) (W := 1) rfl rfl at_179 (pc' := 182) rfl (by decide) (by decide) (by decide) (by decide) ?_
    intro T12 h12_ t13 k14 g17 H12 K15 S16
    have nt13 : n0 ≤ t13 := Nat.le_trans H4.le g17
    refine G.astore H12 (L' := #[.val (.int x0), .val (.int x1), .val (.int x2), .val (.int x3), .val (.int (x2 &&& 255)), .val (.int (x3 &&& 255)), .val (.int (x1 &&& 2147483647)), .val (.int (x0 &&& 7)), .val (.ref a5), .unset, .val (.ref p0), .val (.int 0), .val (.int 100)]) at_182 (pc' := 184) rfl rfl rfl ?_
    refine G.iload H12 at_184 (pc' := 186) rfl rfl ?_
    refine G.iload H12 at_186 (pc' := 188) rfl rfl ?_
    by_cases c18 : (x2 &&& 255) = 100
    ·
      refine G.icmpNo H12 at_188 (pc' := 191) rfl (XT.ii_ne_f c18) ?_
      refine G.getS H12 (wd75 V) Via.refl (Sta.ext H12.old.2 (hv4 V)) at_191 (pc' := 194) rfl ?_
      intro T19 H20
      refine G.goto H20 at_194 (by decide) (pc' := 198) rfl ?_
      refine G.astore H20 (L' := #[.val (.int x0), .val (.int x1), .val (.int x2), .val (.int x3), .val (.int (x2 &&& 255)), .val (.int (x3 &&& 255)), .val (.int (x1 &&& 2147483647)), .val (.int (x0 &&& 7)), .val (.ref a5), .val (.ref uu2), .val (.ref p0), .val (.int 0), .val (.int 100)]) at_198 (pc' := 200) rfl rfl rfl ?_
      refine G.goto H20 at_200 (by decide) (pc' := 922) rfl ?_
      refine G.aload H20 at_922 (pc' := 924) rfl rfl rfl ?_
      refine G.callS H20 (m31_named V a5 t13 k14 (x2 &&& 255) h12_ H20.old S16 (Eq.symm c18)) (wd38 V) (wd39 V) (wd36 V) (wd40 V) (by decide) (argsL := [(.ref a5)]) (rest := []) (W := 0) rfl rfl (lenOf (pd_2) rfl) rfl rfl at_924 (pc' := 927) rfl (by decide) (by decide) (by decide) (by decide) all0 ?_
      intro T21 h21_ v22 s23 H21 Q24
      obtain ⟨c25, rfl, rfl, K26⟩ := Q24
      show Go p e below _ (T21.setTop (mkF m 927 #[.val (.int x0), .val (.int x1), .val (.int x2), .val (.int x3), .val (.int (x2 &&& 255)), .val (.int (x3 &&& 255)), .val (.int (x1 &&& 2147483647)), .val (.int (x0 &&& 7)), .val (.ref a5), .val (.ref uu2), .val (.ref p0), .val (.int 0), .val (.int 100)] [(.ref uu2)]))
      refine G.aload H21 at_927 (pc' := 929) rfl rfl rfl ?_
      refine G.acmpNo H21 at_929 (pc' := 932) rfl rfl rfl (XT.aa_ne_f rfl) ?_
      refine G.iconst H21 at_932 (pc' := 933) rfl (v := 1) rfl ?_
      refine G.goto H21 at_933 (by decide) (pc' := 937) rfl ?_
      exact G.retN H21 (t := .boolean) rfl (by decide) at_937 (so := []) all0 (by decide) (by decide) rfl
    ·
      refine G.icmpYes H12 at_188 (XT.ii_ne_t c18) (by decide) (pc' := 197) rfl ?_
      refine G.aconstNull H12 at_197 (pc' := 198) rfl ?_
      refine G.astore H12 (L' := #[.val (.int x0), .val (.int x1), .val (.int x2), .val (.int x3), .val (.int (x2 &&& 255)), .val (.int (x3 &&& 255)), .val (.int (x1 &&& 2147483647)), .val (.int (x0 &&& 7)), .val (.ref a5), .val .null, .val (.ref p0), .val (.int 0), .val (.int 100)]) at_198 (pc' := 200) rfl rfl rfl ?_
      refine G.goto H12 at_200 (by decide) (pc' := 922) rfl ?_
      refine G.aload H12 at_922 (pc' := 924) rfl rfl rfl ?_
      refine G.callS H12 (m32_named V a5 t13 k14 (x2 &&& 255) h12_ H12.old S16 (fun q => c18 (Eq.symm q))) (wd38 V) (wd39 V) (wd36 V) (wd40 V) (by decide) (argsL := [(.ref a5)]) (rest := []) (W := 0) rfl rfl (lenOf (pd_2) rfl) rfl rfl at_924 (pc' := 927) rfl (by decide) (by decide) (by decide) (by decide) all0 ?_
      intro T27 h27_ v28 s29 H27 Q30
      obtain ⟨c31, rfl, rfl, K32⟩ := Q30
      show Go p e below _ (T27.setTop (mkF m 927 #[.val (.int x0), .val (.int x1), .val (.int x2), .val (.int x3), .val (.int (x2 &&& 255)), .val (.int (x3 &&& 255)), .val (.int (x1 &&& 2147483647)), .val (.int (x0 &&& 7)), .val (.ref a5), .val .null, .val (.ref p0), .val (.int 0), .val (.int 100)] [.null]))
      refine G.aload H27 at_927 (pc' := 929) rfl rfl rfl ?_
      refine G.acmpNo H27 at_929 (pc' := 932) rfl rfl rfl (XT.aa_ne_f rfl) ?_
      refine G.iconst H27 at_932 (pc' := 933) rfl (v := 1) rfl ?_
      refine G.goto H27 at_933 (by decide) (pc' := 937) rfl ?_
      exact G.retN H27 (t := .boolean) rfl (by decide) at_937 (so := []) all0 (by decide) (by decide) rfl
  ·
    refine G.aload H at_159 (pc' := 161) rfl rfl rfl ?_
    refine G.iload H at_161 (pc' := 163) rfl rfl ?_
    refine G.caloadG H f1 (j := 1) (v := (.int 105)) (by decide) rfl at_163 (pc' := 164) rfl ?_
    refine G.istore H (L' := #[.val (.int x0), .val (.int x1), .val (.int x2), .val (.int x3), .val (.int (x2 &&& 255)), .val (.int (x3 &&& 255)), .val (.int (x1 &&& 2147483647)), .val (.int (x0 &&& 7)), .unset, .unset, .val (.ref p0), .val (.int 1), .val (.int 105)]) at_164 (pc' := 166) rfl rfl ?_
    refine G.aload H at_166 (pc' := 168) rfl rfl rfl ?_
    refine G.iload H at_168 (pc' := 170) rfl rfl ?_
    refine G.iload H at_170 (pc' := 172) rfl rfl ?_
    refine G.stC H f1 (by decide) (i := 1) rfl lB g2 (y := (x2 &&& 255)) (own_narC (own_u16 (own_and255 _))) at_172 (pc' := 173) rfl ?_
    intro T33 h33_ H33 W34 A35
    replace A35 : Arv Z h33_ p0 c0 .char 13 [(.int 100), (.int (x2 &&& 255)), (.int 114), (.int 101), (.int 99), (.int 116), (.int 111), (.int 114), (.int 121), (.int 45), (.int 111), (.int 117), (.int 116)] (.int 0) := A35
    refine G.new H33 (wd1 V) (wd2 V) (wd3 V) at_173 (pc' := 176) rfl (by decide) (by decide) ?_
    intro T36 h36_ a37 ga37 H36 E38 A39 D40
    have na37 := H33.nle ga37
    refine G.dup H36 at_176 (pc' := 177) rfl rfl ?_
    refine G.aload H36 at_177 (pc' := 179) rfl rfl rfl ?_
    have F41 := (Arv.ext A35 E38)
    have F42 : Fld Z h36_ a37 "java/lang/String" "value" "[B" .null := D40 (Or.inr (wd34 V)) (ty := (.array .byte)) (by decide)
    have F43 : Fld Z h36_ a37 "java/lang/String" "coder" "B" (.int 0) := D40 (Or.inr (wd32 V)) (ty := .byte) (by decide)
    refine G.newStr H36 (strw V) (wd2 V) (wd9 V) (wd10 V) (cs := [100, (x2 &&& 255), 114, 101, 99, 116, 111, 114, 121, 45, 111, 117, 116]) (n := 13) na37 A39 F42 F43 F41 (hv17 V) (hv18 V) rfl rfl (by decide) (by decide) (cbS (by decide) (cbS (own_and255 _) (cbS (by decide) (cbS (by decide) (cbS (by decide) (cbS (by decide) (cbS (by decide) (cbS (by decide) (cbS (by decide) (cbS (by decide) (cbS (by decide) (cbS (by decide) (cbS (by decide) cb0))))))))))))) (Sf.mem (mG (i := 0) rfl)) (rest := [(.ref a37)]) (W := 1) rfl rfl at_179 (pc' := 182) rfl (by decide) (by decide) (by decide) (by decide) ?_
    intro T44 h44_ t45 k46 g49 H44 K47 S48
    have nt45 : n0 ≤ t45 := Nat.le_trans H36.le g49
    refine G.astore H44 (L' := #[.val (.int x0), .val (.int x1), .val (.int x2), .val (.int x3), .val (.int (x2 &&& 255)), .val (.int (x3 &&& 255)), .val (.int (x1 &&& 2147483647)), .val (.int (x0 &&& 7)), .val (.ref a37), .unset, .val (.ref p0), .val (.int 1), .val (.int 105)]) at_182 (pc' := 184) rfl rfl rfl ?_
    refine G.iload H44 at_184 (pc' := 186) rfl rfl ?_
    refine G.iload H44 at_186 (pc' := 188) rfl rfl ?_
    by_cases c50 : (x2 &&& 255) = 105
    ·
      refine G.icmpNo H44 at_188 (pc' := 191) rfl (XT.ii_ne_f c50) ?_
      refine G.getS H44 (wd75 V) Via.refl (Sta.ext H44.old.2 (hv4 V)) at_191 (pc' := 194) rfl ?_
      intro T51 H52
      refine G.goto H52 at_194 (by decide) (pc' := 198) rfl ?_
      refine G.astore H52 (L' := #[.val (.int x0), .val (.int x1), .val (.int x2), .val (.int x3), .val (.int (x2 &&& 255)), .val (.int (x3 &&& 255)), .val (.int (x1 &&& 2147483647)), .val (.int (x0 &&& 7)), .val (.ref a37), .val (.ref uu2), .val (.ref p0), .val (.int 1), .val (.int 105)]) at_198 (pc' := 200) rfl rfl rfl ?_
      refine G.goto H52 at_200 (by decide) (pc' := 922) rfl ?_
      refine G.aload H52 at_922 (pc' := 924) rfl rfl rfl ?_
      refine G.callS H52 (m33_named V a37 t45 k46 (x2 &&& 255) h44_ H52.old S48 (Eq.symm c50)) (wd38 V) (wd39 V) (wd36 V) (wd40 V) (by decide) (argsL := [(.ref a37)]) (rest := []) (W := 0) rfl rfl (lenOf (pd_2) rfl) rfl rfl at_924 (pc' := 927) rfl (by decide) (by decide) (by decide) (by decide) all0 ?_
      intro T53 h53_ v54 s55 H53 Q56
      obtain ⟨c57, rfl, rfl, K58⟩ := Q56
      show Go p e below _ (T53.setTop (mkF m 927 #[.val (.int x0), .val (.int x1), .val (.int x2), .val (.int x3), .val (.int (x2 &&& 255)), .val (.int (x3 &&& 255)), .val (.int (x1 &&& 2147483647)), .val (.int (x0 &&& 7)), .val (.ref a37), .val (.ref uu2), .val (.ref p0), .val (.int 1), .val (.int 105)] [(.ref uu2)]))
      refine G.aload H53 at_927 (pc' := 929) rfl rfl rfl ?_
      refine G.acmpNo H53 at_929 (pc' := 932) rfl rfl rfl (XT.aa_ne_f rfl) ?_
      refine G.iconst H53 at_932 (pc' := 933) rfl (v := 1) rfl ?_
      refine G.goto H53 at_933 (by decide) (pc' := 937) rfl ?_
      exact G.retN H53 (t := .boolean) rfl (by decide) at_937 (so := []) all0 (by decide) (by decide) rfl
    ·
      refine G.icmpYes H44 at_188 (XT.ii_ne_t c50) (by decide) (pc' := 197) rfl ?_
      refine G.aconstNull H44 at_197 (pc' := 198) rfl ?_
      refine G.astore H44 (L' := #[.val (.int x0), .val (.int x1), .val (.int x2), .val (.int x3), .val (.int (x2 &&& 255)), .val (.int (x3 &&& 255)), .val (.int (x1 &&& 2147483647)), .val (.int (x0 &&& 7)), .val (.ref a37), .val .null, .val (.ref p0), .val (.int 1), .val (.int 105)]) at_198 (pc' := 200) rfl rfl rfl ?_
      refine G.goto H44 at_200 (by decide) (pc' := 922) rfl ?_
      refine G.aload H44 at_922 (pc' := 924) rfl rfl rfl ?_
      refine G.callS H44 (m34_named V a37 t45 k46 (x2 &&& 255) h44_ H44.old S48 (fun q => c50 (Eq.symm q))) (wd38 V) (wd39 V) (wd36 V) (wd40 V) (by decide) (argsL := [(.ref a37)]) (rest := []) (W := 0) rfl rfl (lenOf (pd_2) rfl) rfl rfl at_924 (pc' := 927) rfl (by decide) (by decide) (by decide) (by decide) all0 ?_
      intro T59 h59_ v60 s61 H59 Q62
      obtain ⟨c63, rfl, rfl, K64⟩ := Q62
      show Go p e below _ (T59.setTop (mkF m 927 #[.val (.int x0), .val (.int x1), .val (.int x2), .val (.int x3), .val (.int (x2 &&& 255)), .val (.int (x3 &&& 255)), .val (.int (x1 &&& 2147483647)), .val (.int (x0 &&& 7)), .val (.ref a37), .val .null, .val (.ref p0), .val (.int 1), .val (.int 105)] [.null]))
      refine G.aload H59 at_927 (pc' := 929) rfl rfl rfl ?_
      refine G.acmpNo H59 at_929 (pc' := 932) rfl rfl rfl (XT.aa_ne_f rfl) ?_
      refine G.iconst H59 at_932 (pc' := 933) rfl (v := 1) rfl ?_
      refine G.goto H59 at_933 (by decide) (pc' := 937) rfl ?_
      exact G.retN H59 (t := .boolean) rfl (by decide) at_937 (so := []) all0 (by decide) (by decide) rfl
  ·
    refine G.aload H at_159 (pc' := 161) rfl rfl rfl ?_
    refine G.iload H at_161 (pc' := 163) rfl rfl ?_
    refine G.caloadG H f1 (j := 2) (v := (.int 114)) (by decide) rfl at_163 (pc' := 164) rfl ?_
    refine G.istore H (L' := #[.val (.int x0), .val (.int x1), .val (.int x2), .val (.int x3), .val (.int (x2 &&& 255)), .val (.int (x3 &&& 255)), .val (.int (x1 &&& 2147483647)), .val (.int (x0 &&& 7)), .unset, .unset, .val (.ref p0), .val (.int 2), .val (.int 114)]) at_164 (pc' := 166) rfl rfl ?_
    refine G.aload H at_166 (pc' := 168) rfl rfl rfl ?_
    refine G.iload H at_168 (pc' := 170) rfl rfl ?_
    refine G.iload H at_170 (pc' := 172) rfl rfl ?_
    refine G.stC H f1 (by decide) (i := 2) rfl lB g2 (y := (x2 &&& 255)) (own_narC (own_u16 (own_and255 _))) at_172 (pc' := 173) rfl ?_
    intro T65 h65_ H65 W66 A67
    replace A67 : Arv Z h65_ p0 c0 .char 13 [(.int 100), (.int 105), (.int (x2 &&& 255)), (.int 101), (.int 99), (.int 116), (.int 111), (.int 114), (.int 121), (.int 45), (.int 111), (.int 117), (.int 116)] (.int 0) := A67
    refine G.new H65 (wd1 V) (wd2 V) (wd3 V) at_173 (pc' := 176) rfl (by decide) (by decide) ?_
    intro T68 h68_ a69 ga69 H68 E70 A71 D72
    have na69 := H65.nle ga69
    refine G.dup H68 at_176 (pc' := 177) rfl rfl ?_
    refine G.aload H68 at_177 (pc' := 179) rfl rfl rfl ?_
    have F73 := (Arv.ext A67 E70)
    have F74 : Fld Z h68_ a69 "java/lang/String" "value" "[B" .null := D72 (Or.inr (wd34 V)) (ty := (.array .byte)) (by decide)
    have F75 : Fld Z h68_ a69 "java/lang/String" "coder" "B" (.int 0) := D72 (Or.inr (wd32 V)) (ty := .byte) (by decide)
    refine G.newStr H68 (strw V) (wd2 V) (wd9 V) (wd10 V) (cs := [100, 105, (x2 &&& 255), 101, 99, 116, 111, 114, 121, 45, 111, 117, 116]) (n := 13) na69 A71 F74 F75 F73 (hv17 V) (hv18 V) rfl rfl (by decide) (by decide) (cbS (by decide) (cbS (by decide) (cbS (own_and255 _) (cbS (by decide) (cbS (by decide) (cbS (by decide) (cbS (by decide) (cbS (by decide) (cbS (by decide) (cbS (by decide) (cbS (by decide) (cbS (by decide) (cbS (by decide) cb0))))))))))))) (Sf.mem (mG (i := 0) rfl)) (rest := [(.ref a69)]) (W := 1) rfl rfl at_179 (pc' := 182) rfl (by decide) (by decide) (by decide) (by decide) ?_
    intro T76 h76_ t77 k78 g81 H76 K79 S80
    have nt77 : n0 ≤ t77 := Nat.le_trans H68.le g81
    refine G.astore H76 (L' := #[.val (.int x0), .val (.int x1), .val (.int x2), .val (.int x3), .val (.int (x2 &&& 255)), .val (.int (x3 &&& 255)), .val (.int (x1 &&& 2147483647)), .val (.int (x0 &&& 7)), .val (.ref a69), .unset, .val (.ref p0), .val (.int 2), .val (.int 114)]) at_182 (pc' := 184) rfl rfl rfl ?_
    refine G.iload H76 at_184 (pc' := 186) rfl rfl ?_
    refine G.iload H76 at_186 (pc' := 188) rfl rfl ?_
    by_cases c82 : (x2 &&& 255) = 114
    ·
      refine G.icmpNo H76 at_188 (pc' := 191) rfl (XT.ii_ne_f c82) ?_
      refine G.getS H76 (wd75 V) Via.refl (Sta.ext H76.old.2 (hv4 V)) at_191 (pc' := 194) rfl ?_
      intro T83 H84
      refine G.goto H84 at_194 (by decide) (pc' := 198) rfl ?_
      refine G.astore H84 (L' := #[.val (.int x0), .val (.int x1), .val (.int x2), .val (.int x3), .val (.int (x2 &&& 255)), .val (.int (x3 &&& 255)), .val (.int (x1 &&& 2147483647)), .val (.int (x0 &&& 7)), .val (.ref a69), .val (.ref uu2), .val (.ref p0), .val (.int 2), .val (.int 114)]) at_198 (pc' := 200) rfl rfl rfl ?_
      refine G.goto H84 at_200 (by decide) (pc' := 922) rfl ?_
      refine G.aload H84 at_922 (pc' := 924) rfl rfl rfl ?_
      refine G.callS H84 (m35_named V a69 t77 k78 (x2 &&& 255) h76_ H84.old S80 (Eq.symm c82)) (wd38 V) (wd39 V) (wd36 V) (wd40 V) (by decide) (argsL := [(.ref a69)]) (rest := []) (W := 0) rfl rfl (lenOf (pd_2) rfl) rfl rfl at_924 (pc' := 927) rfl (by decide) (by decide) (by decide) (by decide) all0 ?_
      intro T85 h85_ v86 s87 H85 Q88
      obtain ⟨c89, rfl, rfl, K90⟩ := Q88
      show Go p e below _ (T85.setTop (mkF m 927 #[.val (.int x0), .val (.int x1), .val (.int x2), .val (.int x3), .val (.int (x2 &&& 255)), .val (.int (x3 &&& 255)), .val (.int (x1 &&& 2147483647)), .val (.int (x0 &&& 7)), .val (.ref a69), .val (.ref uu2), .val (.ref p0), .val (.int 2), .val (.int 114)] [(.ref uu2)]))
      refine G.aload H85 at_927 (pc' := 929) rfl rfl rfl ?_
      refine G.acmpNo H85 at_929 (pc' := 932) rfl rfl rfl (XT.aa_ne_f rfl) ?_
      refine G.iconst H85 at_932 (pc' := 933) rfl (v := 1) rfl ?_
      refine G.goto H85 at_933 (by decide) (pc' := 937) rfl ?_
      exact G.retN H85 (t := .boolean) rfl (by decide) at_937 (so := []) all0 (by decide) (by decide) rfl
    ·
      refine G.icmpYes H76 at_188 (XT.ii_ne_t c82) (by decide) (pc' := 197) rfl ?_
      refine G.aconstNull H76 at_197 (pc' := 198) rfl ?_
      refine G.astore H76 (L' := #[.val (.int x0), .val (.int x1), .val (.int x2), .val (.int x3), .val (.int (x2 &&& 255)), .val (.int (x3 &&& 255)), .val (.int (x1 &&& 2147483647)), .val (.int (x0 &&& 7)), .val (.ref a69), .val .null, .val (.ref p0), .val (.int 2), .val (.int 114)]) at_198 (pc' := 200) rfl rfl rfl ?_
      refine G.goto H76 at_200 (by decide) (pc' := 922) rfl ?_
      refine G.aload H76 at_922 (pc' := 924) rfl rfl rfl ?_
      refine G.callS H76 (m36_named V a69 t77 k78 (x2 &&& 255) h76_ H76.old S80 (fun q => c82 (Eq.symm q))) (wd38 V) (wd39 V) (wd36 V) (wd40 V) (by decide) (argsL := [(.ref a69)]) (rest := []) (W := 0) rfl rfl (lenOf (pd_2) rfl) rfl rfl at_924 (pc' := 927) rfl (by decide) (by decide) (by decide) (by decide) all0 ?_
      intro T91 h91_ v92 s93 H91 Q94
      obtain ⟨c95, rfl, rfl, K96⟩ := Q94
      show Go p e below _ (T91.setTop (mkF m 927 #[.val (.int x0), .val (.int x1), .val (.int x2), .val (.int x3), .val (.int (x2 &&& 255)), .val (.int (x3 &&& 255)), .val (.int (x1 &&& 2147483647)), .val (.int (x0 &&& 7)), .val (.ref a69), .val .null, .val (.ref p0), .val (.int 2), .val (.int 114)] [.null]))
      refine G.aload H91 at_927 (pc' := 929) rfl rfl rfl ?_
      refine G.acmpNo H91 at_929 (pc' := 932) rfl rfl rfl (XT.aa_ne_f rfl) ?_
      refine G.iconst H91 at_932 (pc' := 933) rfl (v := 1) rfl ?_
      refine G.goto H91 at_933 (by decide) (pc' := 937) rfl ?_
      exact G.retN H91 (t := .boolean) rfl (by decide) at_937 (so := []) all0 (by decide) (by decide) rfl
  ·
    refine G.aload H at_159 (pc' := 161) rfl rfl rfl ?_
    refine G.iload H at_161 (pc' := 163) rfl rfl ?_
    refine G.caloadG H f1 (j := 3) (v := (.int 101)) (by decide) rfl at_163 (pc' := 164) rfl ?_
    refine G.istore H (L' := #[.val (.int x0), .val (.int x1), .val (.int x2), .val (.int x3), .val (.int (x2 &&& 255)), .val (.int (x3 &&& 255)), .val (.int (x1 &&& 2147483647)), .val (.int (x0 &&& 7)), .unset, .unset, .val (.ref p0), .val (.int 3), .val (.int 101)]) at_164 (pc' := 166) rfl rfl ?_
    refine G.aload H at_166 (pc' := 168) rfl rfl rfl ?_
    refine G.iload H at_168 (pc' := 170) rfl rfl ?_
    refine G.iload H at_170 (pc' := 172) rfl rfl ?_
    refine G.stC H f1 (by decide) (i := 3) rfl lB g2 (y := (x2 &&& 255)) (own_narC (own_u16 (own_and255 _))) at_172 (pc' := 173) rfl ?_
    intro T97 h97_ H97 W98 A99
    replace A99 : Arv Z h97_ p0 c0 .char 13 [(.int 100), (.int 105), (.int 114), (.int (x2 &&& 255)), (.int 99), (.int 116), (.int 111), (.int 114), (.int 121), (.int 45), (.int 111), (.int 117), (.int 116)] (.int 0) := A99
    refine G.new H97 (wd1 V) (wd2 V) (wd3 V) at_173 (pc' := 176) rfl (by decide) (by decide) ?_
    intro T100 h100_ a101 ga101 H100 E102 A103 D104
    have na101 := H97.nle ga101
    refine G.dup H100 at_176 (pc' := 177) rfl rfl ?_
    refine G.aload H100 at_177 (pc' := 179) rfl rfl rfl ?_
    have F105 := (Arv.ext A99 E102)
    have F106 : Fld Z h100_ a101 "java/lang/String" "value" "[B" .null := D104 (Or.inr (wd34 V)) (ty := (.array .byte)) (by decide)
    have F107 : Fld Z h100_ a101 "java/lang/String" "coder" "B" (.int 0) := D104 (Or.inr (wd32 V)) (ty := .byte) (by decide)
    refine G.newStr H100 (strw V) (wd2 V) (wd9 V) (wd10 V) (cs := [100, 105, 114, (x2 &&& 255), 99, 116, 111, 114, 121, 45, 111, 117, 116]) (n := 13) na101 A103 F106 F107 F105 (hv17 V) (hv18 V) rfl rfl (by decide) (by decide) (cbS (by decide) (cbS (by decide) (cbS (by decide) (cbS (own_and255 _) (cbS (by decide) (cbS (by decide) (cbS (by decide) (cbS (by decide) (cbS (by decide) (cbS (by decide) (cbS (by decide) (cbS (by decide) (cbS (by decide) cb0))))))))))))) (Sf.mem (mG (i := 0) rfl)) (rest := [(.ref a101)]) (W := 1) rfl rfl at_179 (pc' := 182) rfl (by decide) (by decide) (by decide) (by decide) ?_
    intro T108 h108_ t109 k110 g113 H108 K111 S112
    have nt109 : n0 ≤ t109 := Nat.le_trans H100.le g113
    refine G.astore H108 (L' := #[.val (.int x0), .val (.int x1), .val (.int x2), .val (.int x3), .val (.int (x2 &&& 255)), .val (.int (x3 &&& 255)), .val (.int (x1 &&& 2147483647)), .val (.int (x0 &&& 7)), .val (.ref a101), .unset, .val (.ref p0), .val (.int 3), .val (.int 101)]) at_182 (pc' := 184) rfl rfl rfl ?_
    refine G.iload H108 at_184 (pc' := 186) rfl rfl ?_
    refine G.iload H108 at_186 (pc' := 188) rfl rfl ?_
    by_cases c114 : (x2 &&& 255) = 101
    ·
      refine G.icmpNo H108 at_188 (pc' := 191) rfl (XT.ii_ne_f c114) ?_
      refine G.getS H108 (wd75 V) Via.refl (Sta.ext H108.old.2 (hv4 V)) at_191 (pc' := 194) rfl ?_
      intro T115 H116
      refine G.goto H116 at_194 (by decide) (pc' := 198) rfl ?_
      refine G.astore H116 (L' := #[.val (.int x0), .val (.int x1), .val (.int x2), .val (.int x3), .val (.int (x2 &&& 255)), .val (.int (x3 &&& 255)), .val (.int (x1 &&& 2147483647)), .val (.int (x0 &&& 7)), .val (.ref a101), .val (.ref uu2), .val (.ref p0), .val (.int 3), .val (.int 101)]) at_198 (pc' := 200) rfl rfl rfl ?_
      refine G.goto H116 at_200 (by decide) (pc' := 922) rfl ?_
      refine G.aload H116 at_922 (pc' := 924) rfl rfl rfl ?_
      refine G.callS H116 (m37_named V a101 t109 k110 (x2 &&& 255) h108_ H116.old S112 (Eq.symm c114)) (wd38 V) (wd39 V) (wd36 V) (wd40 V) (by decide) (argsL := [(.ref a101)]) (rest := []) (W := 0) rfl rfl (lenOf (pd_2) rfl) rfl rfl at_924 (pc' := 927) rfl (by decide) (by decide) (by decide) (by decide) all0 ?_
      intro T117 h117_ v118 s119 H117 Q120
      obtain ⟨c121, rfl, rfl, K122⟩ := Q120
      show Go p e below _ (T117.setTop (mkF m 927 #[.val (.int x0), .val (.int x1), .val (.int x2), .val (.int x3), .val (.int (x2 &&& 255)), .val (.int (x3 &&& 255)), .val (.int (x1 &&& 2147483647)), .val (.int (x0 &&& 7)), .val (.ref a101), .val (.ref uu2), .val (.ref p0), .val (.int 3), .val (.int 101)] [(.ref uu2)]))
      refine G.aload H117 at_927 (pc' := 929) rfl rfl rfl ?_
      refine G.acmpNo H117 at_929 (pc' := 932) rfl rfl rfl (XT.aa_ne_f rfl) ?_
      refine G.iconst H117 at_932 (pc' := 933) rfl (v := 1) rfl ?_
      refine G.goto H117 at_933 (by decide) (pc' := 937) rfl ?_
      exact G.retN H117 (t := .boolean) rfl (by decide) at_937 (so := []) all0 (by decide) (by decide) rfl
    ·
      refine G.icmpYes H108 at_188 (XT.ii_ne_t c114) (by decide) (pc' := 197) rfl ?_
      refine G.aconstNull H108 at_197 (pc' := 198) rfl ?_
      refine G.astore H108 (L' := #[.val (.int x0), .val (.int x1), .val (.int x2), .val (.int x3), .val (.int (x2 &&& 255)), .val (.int (x3 &&& 255)), .val (.int (x1 &&& 2147483647)), .val (.int (x0 &&& 7)), .val (.ref a101), .val .null, .val (.ref p0), .val (.int 3), .val (.int 101)]) at_198 (pc' := 200) rfl rfl rfl ?_
      refine G.goto H108 at_200 (by decide) (pc' := 922) rfl ?_
      refine G.aload H108 at_922 (pc' := 924) rfl rfl rfl ?_
      refine G.callS H108 (m38_named V a101 t109 k110 (x2 &&& 255) h108_ H108.old S112 (fun q => c114 (Eq.symm q))) (wd38 V) (wd39 V) (wd36 V) (wd40 V) (by decide) (argsL := [(.ref a101)]) (rest := []) (W := 0) rfl rfl (lenOf (pd_2) rfl) rfl rfl at_924 (pc' := 927) rfl (by decide) (by decide) (by decide) (by decide) all0 ?_
      intro T123 h123_ v124 s125 H123 Q126
      obtain ⟨c127, rfl, rfl, K128⟩ := Q126
      show Go p e below _ (T123.setTop (mkF m 927 #[.val (.int x0), .val (.int x1), .val (.int x2), .val (.int x3), .val (.int (x2 &&& 255)), .val (.int (x3 &&& 255)), .val (.int (x1 &&& 2147483647)), .val (.int (x0 &&& 7)), .val (.ref a101), .val .null, .val (.ref p0), .val (.int 3), .val (.int 101)] [.null]))
      refine G.aload H123 at_927 (pc' := 929) rfl rfl rfl ?_
      refine G.acmpNo H123 at_929 (pc' := 932) rfl rfl rfl (XT.aa_ne_f rfl) ?_
      refine G.iconst H123 at_932 (pc' := 933) rfl (v := 1) rfl ?_
      refine G.goto H123 at_933 (by decide) (pc' := 937) rfl ?_
      exact G.retN H123 (t := .boolean) rfl (by decide) at_937 (so := []) all0 (by decide) (by decide) rfl
  ·
    refine G.aload H at_159 (pc' := 161) rfl rfl rfl ?_
    refine G.iload H at_161 (pc' := 163) rfl rfl ?_
    refine G.caloadG H f1 (j := 4) (v := (.int 99)) (by decide) rfl at_163 (pc' := 164) rfl ?_
    refine G.istore H (L' := #[.val (.int x0), .val (.int x1), .val (.int x2), .val (.int x3), .val (.int (x2 &&& 255)), .val (.int (x3 &&& 255)), .val (.int (x1 &&& 2147483647)), .val (.int (x0 &&& 7)), .unset, .unset, .val (.ref p0), .val (.int 4), .val (.int 99)]) at_164 (pc' := 166) rfl rfl ?_
    refine G.aload H at_166 (pc' := 168) rfl rfl rfl ?_
    refine G.iload H at_168 (pc' := 170) rfl rfl ?_
    refine G.iload H at_170 (pc' := 172) rfl rfl ?_
    refine G.stC H f1 (by decide) (i := 4) rfl lB g2 (y := (x2 &&& 255)) (own_narC (own_u16 (own_and255 _))) at_172 (pc' := 173) rfl ?_
    intro T129 h129_ H129 W130 A131
    replace A131 : Arv Z h129_ p0 c0 .char 13 [(.int 100), (.int 105), (.int 114), (.int 101), (.int (x2 &&& 255)), (.int 116), (.int 111), (.int 114), (.int 121), (.int 45), (.int 111), (.int 117), (.int 116)] (.int 0) := A131
    refine G.new H129 (wd1 V) (wd2 V) (wd3 V) at_173 (pc' := 176) rfl (by decide) (by decide) ?_
    intro T132 h132_ a133 ga133 H132 E134 A135 D136
    have na133 := H129.nle ga133
    refine G.dup H132 at_176 (pc' := 177) rfl rfl ?_
    refine G.aload H132 at_177 (pc' := 179) rfl rfl rfl ?_
    have F137 := (Arv.ext A131 E134)
    have F138 : Fld Z h132_ a133 "java/lang/String" "value" "[B" .null := D136 (Or.inr (wd34 V)) (ty := (.array .byte)) (by decide)
    have F139 : Fld Z h132_ a133 "java/lang/String" "coder" "B" (.int 0) := D136 (Or.inr (wd32 V)) (ty := .byte) (by decide)
    refine G.newStr H132 (strw V) (wd2 V) (wd9 V) (wd10 V) (cs := [100, 105, 114, 101, (x2 &&& 255), 116, 111, 114, 121, 45, 111, 117, 116]) (n := 13) na133 A135 F138 F139 F137 (hv17 V) (hv18 V) rfl rfl (by decide) (by decide) (cbS (by decide) (cbS (by decide) (cbS (by decide) (cbS (by decide) (cbS (own_and255 _) (cbS (by decide) (cbS (by decide) (cbS (by decide) (cbS (by decide) (cbS (by decide) (cbS (by decide) (cbS (by decide) (cbS (by decide) cb0))))))))))))) (Sf.mem (mG (i := 0) rfl)) (rest := [(.ref a133)]) (W := 1) rfl rfl at_179 (pc' := 182) rfl (by decide) (by decide) (by decide) (by decide) ?_
    intro T140 h140_ t141 k142 g145 H140 K143 S144
    have nt141 : n0 ≤ t141 := Nat.le_trans H132.le g145
    refine G.astore H140 (L' := #[.val (.int x0), .val (.int x1), .val (.int x2), .val (.int x3), .val (.int (x2 &&& 255)), .val (.int (x3 &&& 255)), .val (.int (x1 &&& 2147483647)), .val (.int (x0 &&& 7)), .val (.ref a133), .unset, .val (.ref p0), .val (.int 4), .val (.int 99)]) at_182 (pc' := 184) rfl rfl rfl ?_
    refine G.iload H140 at_184 (pc' := 186) rfl rfl ?_
    refine G.iload H140 at_186 (pc' := 188) rfl rfl ?_
    by_cases c146 : (x2 &&& 255) = 99
    ·
      refine G.icmpNo H140 at_188 (pc' := 191) rfl (XT.ii_ne_f c146) ?_
      refine G.getS H140 (wd75 V) Via.refl (Sta.ext H140.old.2 (hv4 V)) at_191 (pc' := 194) rfl ?_
      intro T147 H148
      refine G.goto H148 at_194 (by decide) (pc' := 198) rfl ?_
      refine G.astore H148 (L' := #[.val (.int x0), .val (.int x1), .val (.int x2), .val (.int x3), .val (.int (x2 &&& 255)), .val (.int (x3 &&& 255)), .val (.int (x1 &&& 2147483647)), .val (.int (x0 &&& 7)), .val (.ref a133), .val (.ref uu2), .val (.ref p0), .val (.int 4), .val (.int 99)]) at_198 (pc' := 200) rfl rfl rfl ?_
      refine G.goto H148 at_200 (by decide) (pc' := 922) rfl ?_
      refine G.aload H148 at_922 (pc' := 924) rfl rfl rfl ?_
      refine G.callS H148 (m39_named V a133 t141 k142 (x2 &&& 255) h140_ H148.old S144 (Eq.symm c146)) (wd38 V) (wd39 V) (wd36 V) (wd40 V) (by decide) (argsL := [(.ref a133)]) (rest := []) (W := 0) rfl rfl (lenOf (pd_2) rfl) rfl rfl at_924 (pc' := 927) rfl (by decide) (by decide) (by decide) (by decide) all0 ?_
      intro T149 h149_ v150 s151 H149 Q152
      obtain ⟨c153, rfl, rfl, K154⟩ := Q152
      show Go p e below _ (T149.setTop (mkF m 927 #[.val (.int x0), .val (.int x1), .val (.int x2), .val (.int x3), .val (.int (x2 &&& 255)), .val (.int (x3 &&& 255)), .val (.int (x1 &&& 2147483647)), .val (.int (x0 &&& 7)), .val (.ref a133), .val (.ref uu2), .val (.ref p0), .val (.int 4), .val (.int 99)] [(.ref uu2)]))
      refine G.aload H149 at_927 (pc' := 929) rfl rfl rfl ?_
      refine G.acmpNo H149 at_929 (pc' := 932) rfl rfl rfl (XT.aa_ne_f rfl) ?_
      refine G.iconst H149 at_932 (pc' := 933) rfl (v := 1) rfl ?_
      refine G.goto H149 at_933 (by decide) (pc' := 937) rfl ?_
      exact G.retN H149 (t := .boolean) rfl (by decide) at_937 (so := []) all0 (by decide) (by decide) rfl
    ·
      refine G.icmpYes H140 at_188 (XT.ii_ne_t c146) (by decide) (pc' := 197) rfl ?_
      refine G.aconstNull H140 at_197 (pc' := 198) rfl ?_
      refine G.astore H140 (L' := #[.val (.int x0), .val (.int x1), .val (.int x2), .val (.int x3), .val (.int (x2 &&& 255)), .val (.int (x3 &&& 255)), .val (.int (x1 &&& 2147483647)), .val (.int (x0 &&& 7)), .val (.ref a133), .val .null, .val (.ref p0), .val (.int 4), .val (.int 99)]) at_198 (pc' := 200) rfl rfl rfl ?_
      refine G.goto H140 at_200 (by decide) (pc' := 922) rfl ?_
      refine G.aload H140 at_922 (pc' := 924) rfl rfl rfl ?_
      refine G.callS H140 (m40_named V a133 t141 k142 (x2 &&& 255) h140_ H140.old S144 (fun q => c146 (Eq.symm q))) (wd38 V) (wd39 V) (wd36 V) (wd40 V) (by decide) (argsL := [(.ref a133)]) (rest := []) (W := 0) rfl rfl (lenOf (pd_2) rfl) rfl rfl at_924 (pc' := 927) rfl (by decide) (by decide) (by decide) (by decide) all0 ?_
      intro T155 h155_ v156 s157 H155 Q158
      obtain ⟨c159, rfl, rfl, K160⟩ := Q158
      show Go p e below _ (T155.setTop (mkF m 927 #[.val (.int x0), .val (.int x1), .val (.int x2), .val (.int x3), .val (.int (x2 &&& 255)), .val (.int (x3 &&& 255)), .val (.int (x1 &&& 2147483647)), .val (.int (x0 &&& 7)), .val (.ref a133), .val .null, .val (.ref p0), .val (.int 4), .val (.int 99)] [.null]))
      refine G.aload H155 at_927 (pc' := 929) rfl rfl rfl ?_
      refine G.acmpNo H155 at_929 (pc' := 932) rfl rfl rfl (XT.aa_ne_f rfl) ?_
      refine G.iconst H155 at_932 (pc' := 933) rfl (v := 1) rfl ?_
      refine G.goto H155 at_933 (by decide) (pc' := 937) rfl ?_
      exact G.retN H155 (t := .boolean) rfl (by decide) at_937 (so := []) all0 (by decide) (by decide) rfl
  ·
    refine G.aload H at_159 (pc' := 161) rfl rfl rfl ?_
    refine G.iload H at_161 (pc' := 163) rfl rfl ?_
    refine G.caloadG H f1 (j := 5) (v := (.int 116)) (by decide) rfl at_163 (pc' := 164) rfl ?_
    refine G.istore H (L' := #[.val (.int x0), .val (.int x1), .val (.int x2), .val (.int x3), .val (.int (x2 &&& 255)), .val (.int (x3 &&& 255)), .val (.int (x1 &&& 2147483647)), .val (.int (x0 &&& 7)), .unset, .unset, .val (.ref p0), .val (.int 5), .val (.int 116)]) at_164 (pc' := 166) rfl rfl ?_
    refine G.aload H at_166 (pc' := 168) rfl rfl rfl ?_
    refine G.iload H at_168 (pc' := 170) rfl rfl ?_
    refine G.iload H at_170 (pc' := 172) rfl rfl ?_
    refine G.stC H f1 (by decide) (i := 5) rfl lB g2 (y := (x2 &&& 255)) (own_narC (own_u16 (own_and255 _))) at_172 (pc' := 173) rfl ?_
    intro T161 h161_ H161 W162 A163
    replace A163 : Arv Z h161_ p0 c0 .char 13 [(.int 100), (.int 105), (.int 114), (.int 101), (.int 99), (.int (x2 &&& 255)), (.int 111), (.int 114), (.int 121), (.int 45), (.int 111), (.int 117), (.int 116)] (.int 0) := A163
    refine G.new H161 (wd1 V) (wd2 V) (wd3 V) at_173 (pc' := 176) rfl (by decide) (by decide) ?_
    intro T164 h164_ a165 ga165 H164 E166 A167 D168
    have na165 := H161.nle ga165
    refine G.dup H164 at_176 (pc' := 177) rfl rfl ?_
    refine G.aload H164 at_177 (pc' := 179) rfl rfl rfl ?_
    have F169 := (Arv.ext A163 E166)
    have F170 : Fld Z h164_ a165 "java/lang/String" "value" "[B" .null := D168 (Or.inr (wd34 V)) (ty := (.array .byte)) (by decide)
    have F171 : Fld Z h164_ a165 "java/lang/String" "coder" "B" (.int 0) := D168 (Or.inr (wd32 V)) (ty := .byte) (by decide)
    refine G.newStr H164 (strw V) (wd2 V) (wd9 V) (wd10 V) (cs := [100, 105, 114, 101, 99, (x2 &&& 255), 111, 114, 121, 45, 111, 117, 116]) (n := 13) na165 A167 F170 F171 F169 (hv17 V) (hv18 V) rfl rfl (by decide) (by decide) (cbS (by decide) (cbS (by decide) (cbS (by decide) (cbS (by decide) (cbS (by decide) (cbS (own_and255 _) (cbS (by decide) (cbS (by decide) (cbS (by decide) (cbS (by decide) (cbS (by decide) (cbS (by decide) (cbS (by decide) cb0))))))))))))) (Sf.mem (mG (i := 0) rfl)) (rest := [(.ref a165)]) (W := 1) rfl rfl at_179 (pc' := 182) rfl (by decide) (by decide) (by decide) (by decide) ?_
    intro T172 h172_ t173 k174 g177 H172 K175 S176
    have nt173 : n0 ≤ t173 := Nat.le_trans H164.le g177
    refine G.astore H172 (L' := #[.val (.int x0), .val (.int x1), .val (.int x2), .val (.int x3), .val (.int (x2 &&& 255)), .val (.int (x3 &&& 255)), .val (.int (x1 &&& 2147483647)), .val (.int (x0 &&& 7)), .val (.ref a165), .unset, .val (.ref p0), .val (.int 5), .val (.int 116)]) at_182 (pc' := 184) rfl rfl rfl ?_
    refine G.iload H172 at_184 (pc' := 186) rfl rfl ?_
    refine G.iload H172 at_186 (pc' := 188) rfl rfl ?_
    by_cases c178 : (x2 &&& 255) = 116
    ·
      refine G.icmpNo H172 at_188 (pc' := 191) rfl (XT.ii_ne_f c178) ?_
      refine G.getS H172 (wd75 V) Via.refl (Sta.ext H172.old.2 (hv4 V)) at_191 (pc' := 194) rfl ?_
      intro T179 H180
      refine G.goto H180 at_194 (by decide) (pc' := 198) rfl ?_
      refine G.astore H180 (L' := #[.val (.int x0), .val (.int x1), .val (.int x2), .val (.int x3), .val (.int (x2 &&& 255)), .val (.int (x3 &&& 255)), .val (.int (x1 &&& 2147483647)), .val (.int (x0 &&& 7)), .val (.ref a165), .val (.ref uu2), .val (.ref p0), .val (.int 5), .val (.int 116)]) at_198 (pc' := 200) rfl rfl rfl ?_
      refine G.goto H180 at_200 (by decide) (pc' := 922) rfl ?_
      refine G.aload H180 at_922 (pc' := 924) rfl rfl rfl ?_
      refine G.callS H180 (m41_named V a165 t173 k174 (x2 &&& 255) h172_ H180.old S176 (Eq.symm c178)) (wd38 V) (wd39 V) (wd36 V) (wd40 V) (by decide) (argsL := [(.ref a165)]) (rest := []) (W := 0) rfl rfl (lenOf (pd_2) rfl) rfl rfl at_924 (pc' := 927) rfl (by decide) (by decide) (by decide) (by decide) all0 ?_
      intro T181 h181_ v182 s183 H181 Q184
      obtain ⟨c185, rfl, rfl, K186⟩ := Q184
      show Go p e below _ (T181.setTop (mkF m 927 #[.val (.int x0), .val (.int x1), .val (.int x2), .val (.int x3), .val (.int (x2 &&& 255)), .val (.int (x3 &&& 255)), .val (.int (x1 &&& 2147483647)), .val (.int (x0 &&& 7)), .val (.ref a165), .val (.ref uu2), .val (.ref p0), .val (.int 5), .val (.int 116)] [(.ref uu2)]))
      refine G.aload H181 at_927 (pc' := 929) rfl rfl rfl ?_
      refine G.acmpNo H181 at_929 (pc' := 932) rfl rfl rfl (XT.aa_ne_f rfl) ?_
      refine G.iconst H181 at_932 (pc' := 933) rfl (v := 1) rfl ?_
      refine G.goto H181 at_933 (by decide) (pc' := 937) rfl ?_
      exact G.retN H181 (t := .boolean) rfl (by decide) at_937 (so := []) all0 (by decide) (by decide) rfl
    ·
      refine G.icmpYes H172 at_188 (XT.ii_ne_t c178) (by decide) (pc' := 197) rfl ?_
      refine G.aconstNull H172 at_197 (pc' := 198) rfl ?_
      refine G.astore H172 (L' := #[.val (.int x0), .val (.int x1), .val (.int x2), .val (.int x3), .val (.int (x2 &&& 255)), .val (.int (x3 &&& 255)), .val (.int (x1 &&& 2147483647)), .val (.int (x0 &&& 7)), .val (.ref a165), .val .null, .val (.ref p0), .val (.int 5), .val (.int 116)]) at_198 (pc' := 200) rfl rfl rfl ?_
      refine G.goto H172 at_200 (by decide) (pc' := 922) rfl ?_
      refine G.aload H172 at_922 (pc' := 924) rfl rfl rfl ?_
      refine G.callS H172 (m42_named V a165 t173 k174 (x2 &&& 255) h172_ H172.old S176 (fun q => c178 (Eq.symm q))) (wd38 V) (wd39 V) (wd36 V) (wd40 V) (by decide) (argsL := [(.ref a165)]) (rest := []) (W := 0) rfl rfl (lenOf (pd_2) rfl) rfl rfl at_924 (pc' := 927) rfl (by decide) (by decide) (by decide) (by decide) all0 ?_
      intro T187 h187_ v188 s189 H187 Q190
      obtain ⟨c191, rfl, rfl, K192⟩ := Q190
      show Go p e below _ (T187.setTop (mkF m 927 #[.val (.int x0), .val (.int x1), .val (.int x2), .val (.int x3), .val (.int (x2 &&& 255)), .val (.int (x3 &&& 255)), .val (.int (x1 &&& 2147483647)), .val (.int (x0 &&& 7)), .val (.ref a165), .val .null, .val (.ref p0), .val (.int 5), .val (.int 116)] [.null]))
      refine G.aload H187 at_927 (pc' := 929) rfl rfl rfl ?_
      refine G.acmpNo H187 at_929 (pc' := 932) rfl rfl rfl (XT.aa_ne_f rfl) ?_
      refine G.iconst H187 at_932 (pc' := 933) rfl (v := 1) rfl ?_
      refine G.goto H187 at_933 (by decide) (pc' := 937) rfl ?_
      exact G.retN H187 (t := .boolean) rfl (by decide) at_937 (so := []) all0 (by decide) (by decide) rfl
  ·
    refine G.aload H at_159 (pc' := 161) rfl rfl rfl ?_
    refine G.iload H at_161 (pc' := 163) rfl rfl ?_
    refine G.caloadG H f1 (j := 6) (v := (.int 111)) (by decide) rfl at_163 (pc' := 164) rfl ?_
    refine G.istore H (L' := #[.val (.int x0), .val (.int x1), .val (.int x2), .val (.int x3), .val (.int (x2 &&& 255)), .val (.int (x3 &&& 255)), .val (.int (x1 &&& 2147483647)), .val (.int (x0 &&& 7)), .unset, .unset, .val (.ref p0), .val (.int 6), .val (.int 111)]) at_164 (pc' := 166) rfl rfl ?_
    refine G.aload H at_166 (pc' := 168) rfl rfl rfl ?_
    refine G.iload H at_168 (pc' := 170) rfl rfl ?_
    refine G.iload H at_170 (pc' := 172) rfl rfl ?_
    refine G.stC H f1 (by decide) (i := 6) rfl lB g2 (y := (x2 &&& 255)) (own_narC (own_u16 (own_and255 _))) at_172 (pc' := 173) rfl ?_
    intro T193 h193_ H193 W194 A195
    replace A195 : Arv Z h193_ p0 c0 .char 13 [(.int 100), (.int 105), (.int 114), (.int 101), (.int 99), (.int 116), (.int (x2 &&& 255)), (.int 114), (.int 121), (.int 45), (.int 111), (.int 117), (.int 116)] (.int 0) := A195
    refine G.new H193 (wd1 V) (wd2 V) (wd3 V) at_173 (pc' := 176) rfl (by decide) (by decide) ?_
    intro T196 h196_ a197 ga197 H196 E198 A199 D200
    have na197 := H193.nle ga197
    refine G.dup H196 at_176 (pc' := 177) rfl rfl ?_
    refine G.aload H196 at_177 (pc' := 179) rfl rfl rfl ?_
    have F201 := (Arv.ext A195 E198)
    have F202 : Fld Z h196_ a197 "java/lang/String" "value" "[B" .null := D200 (Or.inr (wd34 V)) (ty := (.array .byte)) (by decide)
    have F203 : Fld Z h196_ a197 "java/lang/String" "coder" "B" (.int 0) := D200 (Or.inr (wd32 V)) (ty := .byte) (by decide)
    refine G.newStr H196 (strw V) (wd2 V) (wd9 V) (wd10 V) (cs := [100, 105, 114, 101, 99, 116, (x2 &&& 255), 114, 121, 45, 111, 117, 116]) (n := 13) na197 A199 F202 F203 F201 (hv17 V) (hv18 V) rfl rfl (by decide) (by decide) (cbS (by decide) (cbS (by decide) (cbS (by decide) (cbS (by decide) (cbS (by decide) (cbS (by decide) (cbS (own_and255 _) (cbS (by decide) (cbS (by decide) (cbS (by decide) (cbS (by decide) (cbS (by decide) (cbS (by decide) cb0))))))))))))) (Sf.mem (mG (i := 0) rfl)) (rest := [(.ref a197)]) (W := 1) rfl rfl at_179 (pc' := 182) rfl (by decide) (by decide) (by decide) (by decide) ?_
    intro T204 h204_ t205 k206 g209 H204 K207 S208
    have nt205 : n0 ≤ t205 := Nat.le_trans H196.le g209
    refine G.astore H204 (L' := #[.val (.int x0), .val (.int x1), .val (.int x2), .val (.int x3), .val (.int (x2 &&& 255)), .val (.int (x3 &&& 255)), .val (.int (x1 &&& 2147483647)), .val (.int (x0 &&& 7)), .val (.ref a197), .unset, .val (.ref p0), .val (.int 6), .val (.int 111)]) at_182 (pc' := 184) rfl rfl rfl ?_
    refine G.iload H204 at_184 (pc' := 186) rfl rfl ?_
    refine G.iload H204 at_186 (pc' := 188) rfl rfl ?_
    by_cases c210 : (x2 &&& 255) = 111
    ·
      refine G.icmpNo H204 at_188 (pc' := 191) rfl (XT.ii_ne_f c210) ?_
      refine G.getS H204 (wd75 V) Via.refl (Sta.ext H204.old.2 (hv4 V)) at_191 (pc' := 194) rfl ?_
      intro T211 H212
      refine G.goto H212 at_194 (by decide) (pc' := 198) rfl ?_
      refine G.astore H212 (L' := #[.val (.int x0), .val (.int x1), .val (.int x2), .val (.int x3), .val (.int (x2 &&& 255)), .val (.int (x3 &&& 255)), .val (.int (x1 &&& 2147483647)), .val (.int (x0 &&& 7)), .val (.ref a197), .val (.ref uu2), .val (.ref p0), .val (.int 6), .val (.int 111)]) at_198 (pc' := 200) rfl rfl rfl ?_
      refine G.goto H212 at_200 (by decide) (pc' := 922) rfl ?_
      refine G.aload H212 at_922 (pc' := 924) rfl rfl rfl ?_
      refine G.callS H212 (m43_named V a197 t205 k206 (x2 &&& 255) h204_ H212.old S208 (Eq.symm c210)) (wd38 V) (wd39 V) (wd36 V) (wd40 V) (by decide) (argsL := [(.ref a197)]) (rest := []) (W := 0) rfl rfl (lenOf (pd_2) rfl) rfl rfl at_924 (pc' := 927) rfl (by decide) (by decide) (by decide) (by decide) all0 ?_
      intro T213 h213_ v214 s215 H213 Q216
      obtain ⟨c217, rfl, rfl, K218⟩ := Q216
      show Go p e below _ (T213.setTop (mkF m 927 #[.val (.int x0), .val (.int x1), .val (.int x2), .val (.int x3), .val (.int (x2 &&& 255)), .val (.int (x3 &&& 255)), .val (.int (x1 &&& 2147483647)), .val (.int (x0 &&& 7)), .val (.ref a197), .val (.ref uu2), .val (.ref p0), .val (.int 6), .val (.int 111)] [(.ref uu2)]))
      refine G.aload H213 at_927 (pc' := 929) rfl rfl rfl ?_
      refine G.acmpNo H213 at_929 (pc' := 932) rfl rfl rfl (XT.aa_ne_f rfl) ?_
      refine G.iconst H213 at_932 (pc' := 933) rfl (v := 1) rfl ?_
      refine G.goto H213 at_933 (by decide) (pc' := 937) rfl ?_
      exact G.retN H213 (t := .boolean) rfl (by decide) at_937 (so := []) all0 (by decide) (by decide) rfl
    ·
      refine G.icmpYes H204 at_188 (XT.ii_ne_t c210) (by decide) (pc' := 197) rfl ?_
      refine G.aconstNull H204 at_197 (pc' := 198) rfl ?_
      refine G.astore H204 (L' := #[.val (.int x0), .val (.int x1), .val (.int x2), .val (.int x3), .val (.int (x2 &&& 255)), .val (.int (x3 &&& 255)), .val (.int (x1 &&& 2147483647)), .val (.int (x0 &&& 7)), .val (.ref a197), .val .null, .val (.ref p0), .val (.int 6), .val (.int 111)]) at_198 (pc' := 200) rfl rfl rfl ?_
      refine G.goto H204 at_200 (by decide) (pc' := 922) rfl ?_
      refine G.aload H204 at_922 (pc' := 924) rfl rfl rfl ?_
      refine G.callS H204 (m44_named V a197 t205 k206 (x2 &&& 255) h204_ H204.old S208 (fun q => c210 (Eq.symm q))) (wd38 V) (wd39 V) (wd36 V) (wd40 V) (by decide) (argsL := [(.ref a197)]) (rest := []) (W := 0) rfl rfl (lenOf (pd_2) rfl) rfl rfl at_924 (pc' := 927) rfl (by decide) (by decide) (by decide) (by decide) all0 ?_
      intro T219 h219_ v220 s221 H219 Q222
      obtain ⟨c223, rfl, rfl, K224⟩ := Q222
      show Go p e below _ (T219.setTop (mkF m 927 #[.val (.int x0), .val (.int x1), .val (.int x2), .val (.int x3), .val (.int (x2 &&& 255)), .val (.int (x3 &&& 255)), .val (.int (x1 &&& 2147483647)), .val (.int (x0 &&& 7)), .val (.ref a197), .val .null, .val (.ref p0), .val (.int 6), .val (.int 111)] [.null]))
      refine G.aload H219 at_927 (pc' := 929) rfl rfl rfl ?_
      refine G.acmpNo H219 at_929 (pc' := 932) rfl rfl rfl (XT.aa_ne_f rfl) ?_
      refine G.iconst H219 at_932 (pc' := 933) rfl (v := 1) rfl ?_
      refine G.goto H219 at_933 (by decide) (pc' := 937) rfl ?_
      exact G.retN H219 (t := .boolean) rfl (by decide) at_937 (so := []) all0 (by decide) (by decide) rfl
  ·
    refine G.aload H at_159 (pc' := 161) rfl rfl rfl ?_
    refine G.iload H at_161 (pc' := 163) rfl rfl ?_
    refine G.caloadG H f1 (j := 7) (v := (.int 114)) (by decide) rfl at_163 (pc' := 164) rfl ?_
    refine G.istore H (L' := #[.val (.int x0), .val (.int x1), .val (.int x2), .val (.int x3), .val (.int (x2 &&& 255)), .val (.int (x3 &&& 255)), .val (.int (x1 &&& 2147483647)), .val (.int (x0 &&& 7)), .unset, .unset, .val (.ref p0), .val (.int 7), .val (.int 114)]) at_164 (pc' := 166) rfl rfl ?_
    refine G.aload H at_166 (pc' := 168) rfl rfl rfl ?_
    refine G.iload H at_168 (pc' := 170) rfl rfl ?_
    refine G.iload H at_170 (pc' := 172) rfl rfl ?_
    refine G.stC H f1 (by decide) (i := 7) rfl lB g2 (y := (x2 &&& 255)) (own_narC (own_u16 (own_and255 _))) at_172 (pc' := 173) rfl ?_
    intro T225 h225_ H225 W226 A227
    replace A227 : Arv Z h225_ p0 c0 .char 13 [(.int 100), (.int 105), (.int 114), (.int 101), (.int 99), (.int 116), (.int 111), (.int (x2 &&& 255)), (.int 121), (.int 45), (.int 111), (.int 117), (.int 116)] (.int 0) := A227
    refine G.new H225 (wd1 V) (wd2 V) (wd3 V) at_173 (pc' := 176) rfl (by decide) (by decide) ?_
    intro T228 h228_ a229 ga229 H228 E230 A231 D232
    have na229 := H225.nle ga229
    refine G.dup H228 at_176 (pc' := 177) rfl rfl ?_
    refine G.aload H228 at_177 (pc' := 179) rfl rfl rfl ?_
    have F233 := (Arv.ext A227 E230)
    have F234 : Fld Z h228_ a229 "java/lang/String" "value" "[B" .null := D232 (Or.inr (wd34 V)) (ty := (.array .byte)) (by decide)
    have F235 : Fld Z h228_ a229 "java/lang/String" "coder" "B" (.int 0) := D232 (Or.inr (wd32 V)) (ty := .byte) (by decide)
    refine G.newStr H228 (strw V) (wd2 V) (wd9 V) (wd10 V) (cs := [100, 105, 114, 101, 99, 116, 111, (x2 &&& 255), 121, 45, 111, 117, 116]) (n := 13) na229 A231 F234 F235 F233 (hv17 V) (hv18 V) rfl rfl (by decide) (by decide) (cbS (by decide) (cbS (by decide) (cbS (by decide) (cbS (by decide) (cbS (by decide) (cbS (by decide) (cbS (by decide) (cbS (own_and255 _) (cbS (by decide) (cbS (by decide) (cbS (by decide) (cbS (by decide) (cbS (by decide) cb0))))))))))))) (Sf.mem (mG (i := 0) rfl)) (rest := [(.ref a229)]) (W := 1) rfl rfl at_179 (pc' := 182) rfl (by decide) (by decide) (by decide) (by decide) ?_
    intro T236 h236_ t237 k238 g241 H236 K239 S240
    have nt237 : n0 ≤ t237 := Nat.le_trans H228.le g241
    refine G.astore H236 (L' := #[.val (.int x0), .val (.int x1), .val (.int x2), .val (.int x3), .val (.int (x2 &&& 255)), .val (.int (x3 &&& 255)), .val (.int (x1 &&& 2147483647)), .val (.int (x0 &&& 7)), .val (.ref a229), .unset, .val (.ref p0), .val (.int 7), .val (.int 114)]) at_182 (pc' := 184) rfl rfl rfl ?_
    refine G.iload H236 at_184 (pc' := 186) rfl rfl ?_
    refine G.iload H236 at_186 (pc' := 188) rfl rfl ?_
    by_cases c242 : (x2 &&& 255) = 114
    ·
      refine G.icmpNo H236 at_188 (pc' := 191) rfl (XT.ii_ne_f c242) ?_
      refine G.getS H236 (wd75 V) Via.refl (Sta.ext H236.old.2 (hv4 V)) at_191 (pc' := 194) rfl ?_
      intro T243 H244
      refine G.goto H244 at_194 (by decide) (pc' := 198) rfl ?_
      refine G.astore H244 (L' := #[.val (.int x0), .val (.int x1), .val (.int x2), .val (.int x3), .val (.int (x2 &&& 255)), .val (.int (x3 &&& 255)), .val (.int (x1 &&& 2147483647)), .val (.int (x0 &&& 7)), .val (.ref a229), .val (.ref uu2), .val (.ref p0), .val (.int 7), .val (.int 114)]) at_198 (pc' := 200) rfl rfl rfl ?_
      refine G.goto H244 at_200 (by decide) (pc' := 922) rfl ?_
      refine G.aload H244 at_922 (pc' := 924) rfl rfl rfl ?_
      refine G.callS H244 (m45_named V a229 t237 k238 (x2 &&& 255) h236_ H244.old S240 (Eq.symm c242)) (wd38 V) (wd39 V) (wd36 V) (wd40 V) (by decide) (argsL := [(.ref a229)]) (rest := []) (W := 0) rfl rfl (lenOf (pd_2) rfl) rfl rfl at_924 (pc' := 927) rfl (by decide) (by decide) (by decide) (by decide) all0 ?_
      intro T245 h245_ v246 s247 H245 Q248
      obtain ⟨c249, rfl, rfl, K250⟩ := Q248
      show Go p e below _ (T245.setTop (mkF m 927 #[.val (.int x0), .val (.int x1), .val (.int x2), .val (.int x3), .val (.int (x2 &&& 255)), .val (.int (x3 &&& 255)), .val (.int (x1 &&& 2147483647)), .val (.int (x0 &&& 7)), .val (.ref a229), .val (.ref uu2), .val (.ref p0), .val (.int 7), .val (.int 114)] [(.ref uu2)]))
      refine G.aload H245 at_927 (pc' := 929) rfl rfl rfl ?_
      refine G.acmpNo H245 at_929 (pc' := 932) rfl rfl rfl (XT.aa_ne_f rfl) ?_
      refine G.iconst H245 at_932 (pc' := 933) rfl (v := 1) rfl ?_
      refine G.goto H245 at_933 (by decide) (pc' := 937) rfl ?_
      exact G.retN H245 (t := .boolean) rfl (by decide) at_937 (so := []) all0 (by decide) (by decide) rfl
    ·
      refine G.icmpYes H236 at_188 (XT.ii_ne_t c242) (by decide) (pc' := 197) rfl ?_
      refine G.aconstNull H236 at_197 (pc' := 198) rfl ?_
      refine G.astore H236 (L' := #[.val (.int x0), .val (.int x1), .val (.int x2), .val (.int x3), .val (.int (x2 &&& 255)), .val (.int (x3 &&& 255)), .val (.int (x1 &&& 2147483647)), .val (.int (x0 &&& 7)), .val (.ref a229), .val .null, .val (.ref p0), .val (.int 7), .val (.int 114)]) at_198 (pc' := 200) rfl rfl rfl ?_
      refine G.goto H236 at_200 (by decide) (pc' := 922) rfl ?_
      refine G.aload H236 at_922 (pc' := 924) rfl rfl rfl ?_
      refine G.callS H236 (m46_named V a229 t237 k238 (x2 &&& 255) h236_ H236.old S240 (fun q => c242 (Eq.symm q))) (wd38 V) (wd39 V) (wd36 V) (wd40 V) (by decide) (argsL := [(.ref a229)]) (rest := []) (W := 0) rfl rfl (lenOf (pd_2) rfl) rfl rfl at_924 (pc' := 927) rfl (by decide) (by decide) (by decide) (by decide) all0 ?_
      intro T251 h251_ v252 s253 H251 Q254
      obtain ⟨c255, rfl, rfl, K256⟩ := Q254
      show Go p e below _ (T251.setTop (mkF m 927 #[.val (.int x0), .val (.int x1), .val (.int x2), .val (.int x3), .val (.int (x2 &&& 255)), .val (.int (x3 &&& 255)), .val (.int (x1 &&& 2147483647)), .val (.int (x0 &&& 7)), .val (.ref a229), .val .null, .val (.ref p0), .val (.int 7), .val (.int 114)] [.null]))
      refine G.aload H251 at_927 (pc' := 929) rfl rfl rfl ?_
      refine G.acmpNo H251 at_929 (pc' := 932) rfl rfl rfl (XT.aa_ne_f rfl) ?_
      refine G.iconst H251 at_932 (pc' := 933) rfl (v := 1) rfl ?_
      refine G.goto H251 at_933 (by decide) (pc' := 937) rfl ?_
      exact G.retN H251 (t := .boolean) rfl (by decide) at_937 (so := []) all0 (by decide) (by decide) rfl
  ·
    refine G.aload H at_159 (pc' := 161) rfl rfl rfl ?_
    refine G.iload H at_161 (pc' := 163) rfl rfl ?_
    refine G.caloadG H f1 (j := 8) (v := (.int 121)) (by decide) rfl at_163 (pc' := 164) rfl ?_
    refine G.istore H (L' := #[.val (.int x0), .val (.int x1), .val (.int x2), .val (.int x3), .val (.int (x2 &&& 255)), .val (.int (x3 &&& 255)), .val (.int (x1 &&& 2147483647)), .val (.int (x0 &&& 7)), .unset, .unset, .val (.ref p0), .val (.int 8), .val (.int 121)]) at_164 (pc' := 166) rfl rfl ?_
    refine G.aload H at_166 (pc' := 168) rfl rfl rfl ?_
    refine G.iload H at_168 (pc' := 170) rfl rfl ?_
    refine G.iload H at_170 (pc' := 172) rfl rfl ?_
    refine G.stC H f1 (by decide) (i := 8) rfl lB g2 (y := (x2 &&& 255)) (own_narC (own_u16 (own_and255 _))) at_172 (pc' := 173) rfl ?_
    intro T257 h257_ H257 W258 A259
    replace A259 : Arv Z h257_ p0 c0 .char 13 [(.int 100), (.int 105), (.int 114), (.int 101), (.int 99), (.int 116), (.int 111), (.int 114), (.int (x2 &&& 255)), (.int 45), (.int 111), (.int 117), (.int 116)] (.int 0) := A259
    refine G.new H257 (wd1 V) (wd2 V) (wd3 V) at_173 (pc' := 176) rfl (by decide) (by decide) ?_
    intro T260 h260_ a261 ga261 H260 E262 A263 D264
    have na261 := H257.nle ga261
    refine G.dup H260 at_176 (pc' := 177) rfl rfl ?_
    refine G.aload H260 at_177 (pc' := 179) rfl rfl rfl ?_
    have F265 := (Arv.ext A259 E262)
    have F266 : Fld Z h260_ a261 "java/lang/String" "value" "[B" .null := D264 (Or.inr (wd34 V)) (ty := (.array .byte)) (by decide)
    have F267 : Fld Z h260_ a261 "java/lang/String" "coder" "B" (.int 0) := D264 (Or.inr (wd32 V)) (ty := .byte) (by decide)
    refine G.newStr H260 (strw V) (wd2 V) (wd9 V) (wd10 V) (cs := [100, 105, 114, 101, 99, 116, 111, 114, (x2 &&& 255), 45, 111, 117, 116]) (n := 13) na261 A263 F266 F267 F265 (hv17 V) (hv18 V) rfl rfl (by decide) (by decide) (cbS (by decide) (cbS (by decide) (cbS (by decide) (cbS (by decide) (cbS (by decide) (cbS (by decide) (cbS (by decide) (cbS (by decide) (cbS (own_and255 _) (cbS (by decide) (cbS (by decide) (cbS (by decide) (cbS (by decide) cb0))))))))))))) (Sf.mem (mG (i := 0) rfl)) (rest := [(.ref a261)]) (W := 1) rfl rfl at_179 (pc' := 182) rfl (by decide) (by decide) (by decide) (by decide) ?_
    intro T268 h268_ t269 k270 g273 H268 K271 S272
    have nt269 : n0 ≤ t269 := Nat.le_trans H260.le g273
    refine G.astore H268 (L' := #[.val (.int x0), .val (.int x1), .val (.int x2), .val (.int x3), .val (.int (x2 &&& 255)), .val (.int (x3 &&& 255)), .val (.int (x1 &&& 2147483647)), .val (.int (x0 &&& 7)), .val (.ref a261), .unset, .val (.ref p0), .val (.int 8), .val (.int 121)]) at_182 (pc' := 184) rfl rfl rfl ?_
    refine G.iload H268 at_184 (pc' := 186) rfl rfl ?_
    refine G.iload H268 at_186 (pc' := 188) rfl rfl ?_
    by_cases c274 : (x2 &&& 255) = 121
    ·
      refine G.icmpNo H268 at_188 (pc' := 191) rfl (XT.ii_ne_f c274) ?_
      refine G.getS H268 (wd75 V) Via.refl (Sta.ext H268.old.2 (hv4 V)) at_191 (pc' := 194) rfl ?_
      intro T275 H276
      refine G.goto H276 at_194 (by decide) (pc' := 198) rfl ?_
      refine G.astore H276 (L' := #[.val (.int x0), .val (.int x1), .val (.int x2), .val (.int x3), .val (.int (x2 &&& 255)), .val (.int (x3 &&& 255)), .val (.int (x1 &&& 2147483647)), .val (.int (x0 &&& 7)), .val (.ref a261), .val (.ref uu2), .val (.ref p0), .val (.int 8), .val (.int 121)]) at_198 (pc' := 200) rfl rfl rfl ?_
      refine G.goto H276 at_200 (by decide) (pc' := 922) rfl ?_
      refine G.aload H276 at_922 (pc' := 924) rfl rfl rfl ?_
      refine G.callS H276 (m47_named V a261 t269 k270 (x2 &&& 255) h268_ H276.old S272 (Eq.symm c274)) (wd38 V) (wd39 V) (wd36 V) (wd40 V) (by decide) (argsL := [(.ref a261)]) (rest := []) (W := 0) rfl rfl (lenOf (pd_2) rfl) rfl rfl at_924 (pc' := 927) rfl (by decide) (by decide) (by decide) (by decide) all0 ?_
      intro T277 h277_ v278 s279 H277 Q280
      obtain ⟨c281, rfl, rfl, K282⟩ := Q280
      show Go p e below _ (T277.setTop (mkF m 927 #[.val (.int x0), .val (.int x1), .val (.int x2), .val (.int x3), .val (.int (x2 &&& 255)), .val (.int (x3 &&& 255)), .val (.int (x1 &&& 2147483647)), .val (.int (x0 &&& 7)), .val (.ref a261), .val (.ref uu2), .val (.ref p0), .val (.int 8), .val (.int 121)] [(.ref uu2)]))
      refine G.aload H277 at_927 (pc' := 929) rfl rfl rfl ?_
      refine G.acmpNo H277 at_929 (pc' := 932) rfl rfl rfl (XT.aa_ne_f rfl) ?_
      refine G.iconst H277 at_932 (pc' := 933) rfl (v := 1) rfl ?_
      refine G.goto H277 at_933 (by decide) (pc' := 937) rfl ?_
      exact G.retN H277 (t := .boolean) rfl (by decide) at_937 (so := []) all0 (by decide) (by decide) rfl
    ·
      refine G.icmpYes H268 at_188 (XT.ii_ne_t c274) (by decide) (pc' := 197) rfl ?_
      refine G.aconstNull H268 at_197 (pc' := 198) rfl ?_
      refine G.astore H268 (L' := #[.val (.int x0), .val (.int x1), .val (.int x2), .val (.int x3), .val (.int (x2 &&& 255)), .val (.int (x3 &&& 255)), .val (.int (x1 &&& 2147483647)), .val (.int (x0 &&& 7)), .val (.ref a261), .val .null, .val (.ref p0), .val (.int 8), .val (.int 121)]) at_198 (pc' := 200) rfl rfl rfl ?_
      refine G.goto H268 at_200 (by decide) (pc' := 922) rfl ?_
      refine G.aload H268 at_922 (pc' := 924) rfl rfl rfl ?_
      refine G.callS H268 (m48_named V a261 t269 k270 (x2 &&& 255) h268_ H268.old S272 (fun q => c274 (Eq.symm q))) (wd38 V) (wd39 V) (wd36 V) (wd40 V) (by decide) (argsL := [(.ref a261)]) (rest := []) (W := 0) rfl rfl (lenOf (pd_2) rfl) rfl rfl at_924 (pc' := 927) rfl (by decide) (by decide) (by decide) (by decide) all0 ?_
      intro T283 h283_ v284 s285 H283 Q286
      obtain ⟨c287, rfl, rfl, K288⟩ := Q286
      show Go p e below _ (T283.setTop (mkF m 927 #[.val (.int x0), .val (.int x1), .val (.int x2), .val (.int x3), .val (.int (x2 &&& 255)), .val (.int (x3 &&& 255)), .val (.int (x1 &&& 2147483647)), .val (.int (x0 &&& 7)), .val (.ref a261), .val .null, .val (.ref p0), .val (.int 8), .val (.int 121)] [.null]))
      refine G.aload H283 at_927 (pc' := 929) rfl rfl rfl ?_
      refine G.acmpNo H283 at_929 (pc' := 932) rfl rfl rfl (XT.aa_ne_f rfl) ?_
      refine G.iconst H283 at_932 (pc' := 933) rfl (v := 1) rfl ?_
      refine G.goto H283 at_933 (by decide) (pc' := 937) rfl ?_
      exact G.retN H283 (t := .boolean) rfl (by decide) at_937 (so := []) all0 (by decide) (by decide) rfl
  ·
    refine G.aload H at_159 (pc' := 161) rfl rfl rfl ?_
    refine G.iload H at_161 (pc' := 163) rfl rfl ?_
    refine G.caloadG H f1 (j := 9) (v := (.int 45)) (by decide) rfl at_163 (pc' := 164) rfl ?_
    refine G.istore H (L' := #[.val (.int x0), .val (.int x1), .val (.int x2), .val (.int x3), .val (.int (x2 &&& 255)), .val (.int (x3 &&& 255)), .val (.int (x1 &&& 2147483647)), .val (.int (x0 &&& 7)), .unset, .unset, .val (.ref p0), .val (.int 9), .val (.int 45)]) at_164 (pc' := 166) rfl rfl ?_
    refine G.aload H at_166 (pc' := 168) rfl rfl rfl ?_
    refine G.iload H at_168 (pc' := 170) rfl rfl ?_
    refine G.iload H at_170 (pc' := 172) rfl rfl ?_
    refine G.stC H f1 (by decide) (i := 9) rfl lB g2 (y := (x2 &&& 255)) (own_narC (own_u16 (own_and255 _))) at_172 (pc' := 173) rfl ?_
    intro T289 h289_ H289 W290 A291
    replace A291 : Arv Z h289_ p0 c0 .char 13 [(.int 100), (.int 105), (.int 114), (.int 101), (.int 99), (.int 116), (.int 111), (.int 114), (.int 121), (.int (x2 &&& 255)), (.int 111), (.int 117), (.int 116)] (.int 0) := A291
    refine G.new H289 (wd1 V) (wd2 V) (wd3 V) at_173 (pc' := 176) rfl (by decide) (by decide) ?_
    intro T292 h292_ a293 ga293 H292 E294 A295 D296
    have na293 := H289.nle ga293
    refine G.dup H292 at_176 (pc' := 177) rfl rfl ?_
    refine G.aload H292 at_177 (pc' := 179) rfl rfl rfl ?_
    have F297 := (Arv.ext A291 E294)
    have F298 : Fld Z h292_ a293 "java/lang/String" "value" "[B" .null := D296 (Or.inr (wd34 V)) (ty := (.array .byte)) (by decide)
    have F299 : Fld Z h292_ a293 "java/lang/String" "coder" "B" (.int 0) := D296 (Or.inr (wd32 V)) (ty := .byte) (by decide)
    refine G.newStr H292 (strw V) (wd2 V) (wd9 V) (wd10 V) (cs := [100, 105, 114, 101, 99, 116, 111, 114, 121, (x2 &&& 255), 111, 117, 116]) (n := 13) na293 A295 F298 F299 F297 (hv17 V) (hv18 V) rfl rfl (by decide) (by decide) (cbS (by decide) (cbS (by decide) (cbS (by decide) (cbS (by decide) (cbS (by decide) (cbS (by decide) (cbS (by decide) (cbS (by decide) (cbS (by decide) (cbS (own_and255 _) (cbS (by decide) (cbS (by decide) (cbS (by decide) cb0))))))))))))) (Sf.mem (mG (i := 0) rfl)) (rest := [(.ref a293)]) (W := 1) rfl rfl at_179 (pc' := 182) rfl (by decide) (by decide) (by decide) (by decide) ?_
    intro T300 h300_ t301 k302 g305 H300 K303 S304
    have nt301 : n0 ≤ t301 := Nat.le_trans H292.le g305
    refine G.astore H300 (L' := #[.val (.int x0), .val (.int x1), .val (.int x2), .val (.int x3), .val (.int (x2 &&& 255)), .val (.int (x3 &&& 255)), .val (.int (x1 &&& 2147483647)), .val (.int (x0 &&& 7)), .val (.ref a293), .unset, .val (.ref p0), .val (.int 9), .val (.int 45)]) at_182 (pc' := 184) rfl rfl rfl ?_
    refine G.iload H300 at_184 (pc' := 186) rfl rfl ?_
    refine G.iload H300 at_186 (pc' := 188) rfl rfl ?_
    by_cases c306 : (x2 &&& 255) = 45
    ·
      refine G.icmpNo H300 at_188 (pc' := 191) rfl (XT.ii_ne_f c306) ?_
      refine G.getS H300 (wd75 V) Via.refl (Sta.ext H300.old.2 (hv4 V)) at_191 (pc' := 194) rfl ?_
      intro T307 H308
      refine G.goto H308 at_194 (by decide) (pc' := 198) rfl ?_
      refine G.astore H308 (L' := #[.val (.int x0), .val (.int x1), .val (.int x2), .val (.int x3), .val (.int (x2 &&& 255)), .val (.int (x3 &&& 255)), .val (.int (x1 &&& 2147483647)), .val (.int (x0 &&& 7)), .val (.ref a293), .val (.ref uu2), .val (.ref p0), .val (.int 9), .val (.int 45)]) at_198 (pc' := 200) rfl rfl rfl ?_
      refine G.goto H308 at_200 (by decide) (pc' := 922) rfl ?_
      refine G.aload H308 at_922 (pc' := 924) rfl rfl rfl ?_
      refine G.callS H308 (m49_named V a293 t301 k302 (x2 &&& 255) h300_ H308.old S304 (Eq.symm c306)) (wd38 V) (wd39 V) (wd36 V) (wd40 V) (by decide) (argsL := [(.ref a293)]) (rest := []) (W := 0) rfl rfl (lenOf (pd_2) rfl) rfl rfl at_924 (pc' := 927) rfl (by decide) (by decide) (by decide) (by decide) all0 ?_
      intro T309 h309_ v310 s311 H309 Q312
      obtain ⟨c313, rfl, rfl, K314⟩ := Q312
      show Go p e below _ (T309.setTop (mkF m 927 #[.val (.int x0), .val (.int x1), .val (.int x2), .val (.int x3), .val (.int (x2 &&& 255)), .val (.int (x3 &&& 255)), .val (.int (x1 &&& 2147483647)), .val (.int (x0 &&& 7)), .val (.ref a293), .val (.ref uu2), .val (.ref p0), .val (.int 9), .val (.int 45)] [(.ref uu2)]))
      refine G.aload H309 at_927 (pc' := 929) rfl rfl rfl ?_
      refine G.acmpNo H309 at_929 (pc' := 932) rfl rfl rfl (XT.aa_ne_f rfl) ?_
      refine G.iconst H309 at_932 (pc' := 933) rfl (v := 1) rfl ?_
      refine G.goto H309 at_933 (by decide) (pc' := 937) rfl ?_
      exact G.retN H309 (t := .boolean) rfl (by decide) at_937 (so := []) all0 (by decide) (by decide) rfl
    ·
      refine G.icmpYes H300 at_188 (XT.ii_ne_t c306) (by decide) (pc' := 197) rfl ?_
      refine G.aconstNull H300 at_197 (pc' := 198) rfl ?_
      refine G.astore H300 (L' := #[.val (.int x0), .val (.int x1), .val (.int x2), .val (.int x3), .val (.int (x2 &&& 255)), .val (.int (x3 &&& 255)), .val (.int (x1 &&& 2147483647)), .val (.int (x0 &&& 7)), .val (.ref a293), .val .null, .val (.ref p0), .val (.int 9), .val (.int 45)]) at_198 (pc' := 200) rfl rfl rfl ?_
      refine G.goto H300 at_200 (by decide) (pc' := 922) rfl ?_
      refine G.aload H300 at_922 (pc' := 924) rfl rfl rfl ?_
      refine G.callS H300 (m50_named V a293 t301 k302 (x2 &&& 255) h300_ H300.old S304 (fun q => c306 (Eq.symm q))) (wd38 V) (wd39 V) (wd36 V) (wd40 V) (by decide) (argsL := [(.ref a293)]) (rest := []) (W := 0) rfl rfl (lenOf (pd_2) rfl) rfl rfl at_924 (pc' := 927) rfl (by decide) (by decide) (by decide) (by decide) all0 ?_
      intro T315 h315_ v316 s317 H315 Q318
      obtain ⟨c319, rfl, rfl, K320⟩ := Q318
      show Go p e below _ (T315.setTop (mkF m 927 #[.val (.int x0), .val (.int x1), .val (.int x2), .val (.int x3), .val (.int (x2 &&& 255)), .val (.int (x3 &&& 255)), .val (.int (x1 &&& 2147483647)), .val (.int (x0 &&& 7)), .val (.ref a293), .val .null, .val (.ref p0), .val (.int 9), .val (.int 45)] [.null]))
      refine G.aload H315 at_927 (pc' := 929) rfl rfl rfl ?_
      refine G.acmpNo H315 at_929 (pc' := 932) rfl rfl rfl (XT.aa_ne_f rfl) ?_
      refine G.iconst H315 at_932 (pc' := 933) rfl (v := 1) rfl ?_
      refine G.goto H315 at_933 (by decide) (pc' := 937) rfl ?_
      exact G.retN H315 (t := .boolean) rfl (by decide) at_937 (so := []) all0 (by decide) (by decide) rfl
  ·
    refine G.aload H at_159 (pc' := 161) rfl rfl rfl ?_
    refine G.iload H at_161 (pc' := 163) rfl rfl ?_
    refine G.caloadG H f1 (j := 10) (v := (.int 111)) (by decide) rfl at_163 (pc' := 164) rfl ?_
    refine G.istore H (L' := #[.val (.int x0), .val (.int x1), .val (.int x2), .val (.int x3), .val (.int (x2 &&& 255)), .val (.int (x3 &&& 255)), .val (.int (x1 &&& 2147483647)), .val (.int (x0 &&& 7)), .unset, .unset, .val (.ref p0), .val (.int 10), .val (.int 111)]) at_164 (pc' := 166) rfl rfl ?_
    refine G.aload H at_166 (pc' := 168) rfl rfl rfl ?_
    refine G.iload H at_168 (pc' := 170) rfl rfl ?_
    refine G.iload H at_170 (pc' := 172) rfl rfl ?_
    refine G.stC H f1 (by decide) (i := 10) rfl lB g2 (y := (x2 &&& 255)) (own_narC (own_u16 (own_and255 _))) at_172 (pc' := 173) rfl ?_
    intro T321 h321_ H321 W322 A323
    replace A323 : Arv Z h321_ p0 c0 .char 13 [(.int 100), (.int 105), (.int 114), (.int 101), (.int 99), (.int 116), (.int 111), (.int 114), (.int 121), (.int 45), (.int (x2 &&& 255)), (.int 117), (.int 116)] (.int 0) := A323
    refine G.new H321 (wd1 V) (wd2 V) (wd3 V) at_173 (pc' := 176) rfl (by decide) (by decide) ?_
    intro T324 h324_ a325 ga325 H324 E326 A327 D328
    have na325 := H321.nle ga325
    refine G.dup H324 at_176 (pc' := 177) rfl rfl ?_
    refine G.aload H324 at_177 (pc' := 179) rfl rfl rfl ?_
    have F329 := (Arv.ext A323 E326)
    have F330 : Fld Z h324_ a325 "java/lang/String" "value" "[B" .null := D328 (Or.inr (wd34 V)) (ty := (.array .byte)) (by decide)
    have F331 : Fld Z h324_ a325 "java/lang/String" "coder" "B" (.int 0) := D328 (Or.inr (wd32 V)) (ty := .byte) (by decide)
    refine G.newStr H324 (strw V) (wd2 V) (wd9 V) (wd10 V) (cs := [100, 105, 114, 101, 99, 116, 111, 114, 121, 45, (x2 &&& 255), 117, 116]) (n := 13) na325 A327 F330 F331 F329 (hv17 V) (hv18 V) rfl rfl (by decide) (by decide) (cbS (by decide) (cbS (by decide) (cbS (by decide) (cbS (by decide) (cbS (by decide) (cbS (by decide) (cbS (by decide) (cbS (by decide) (cbS (by decide) (cbS (by decide) (cbS (own_and255 _) (cbS (by decide) (cbS (by decide) cb0))))))))))))) (Sf.mem (mG (i := 0) rfl)) (rest := [(.ref a325)]) (W := 1) rfl rfl at_179 (pc' := 182) rfl (by decide) (by decide) (by decide) (by decide) ?_
    intro T332 h332_ t333 k334 g337 H332 K335 S336
    have nt333 : n0 ≤ t333 := Nat.le_trans H324.le g337
    refine G.astore H332 (L' := #[.val (.int x0), .val (.int x1), .val (.int x2), .val (.int x3), .val (.int (x2 &&& 255)), .val (.int (x3 &&& 255)), .val (.int (x1 &&& 2147483647)), .val (.int (x0 &&& 7)), .val (.ref a325), .unset, .val (.ref p0), .val (.int 10), .val (.int 111)]) at_182 (pc' := 184) rfl rfl rfl ?_
    refine G.iload H332 at_184 (pc' := 186) rfl rfl ?_
    refine G.iload H332 at_186 (pc' := 188) rfl rfl ?_
    by_cases c338 : (x2 &&& 255) = 111
    ·
      refine G.icmpNo H332 at_188 (pc' := 191) rfl (XT.ii_ne_f c338) ?_
      refine G.getS H332 (wd75 V) Via.refl (Sta.ext H332.old.2 (hv4 V)) at_191 (pc' := 194) rfl ?_
      intro T339 H340
      refine G.goto H340 at_194 (by decide) (pc' := 198) rfl ?_
      refine G.astore H340 (L' := #[.val (.int x0), .val (.int x1), .val (.int x2), .val (.int x3), .val (.int (x2 &&& 255)), .val (.int (x3 &&& 255)), .val (.int (x1 &&& 2147483647)), .val (.int (x0 &&& 7)), .val (.ref a325), .val (.ref uu2), .val (.ref p0), .val (.int 10), .val (.int 111)]) at_198 (pc' := 200) rfl rfl rfl ?_
      refine G.goto H340 at_200 (by decide) (pc' := 922) rfl ?_
      refine G.aload H340 at_922 (pc' := 924) rfl rfl rfl ?_
      refine G.callS H340 (m51_named V a325 t333 k334 (x2 &&& 255) h332_ H340.old S336 (Eq.symm c338)) (wd38 V) (wd39 V) (wd36 V) (wd40 V) (by decide) (argsL := [(.ref a325)]) (rest := []) (W := 0) rfl rfl (lenOf (pd_2) rfl) rfl rfl at_924 (pc' := 927) rfl (by decide) (by decide) (by decide) (by decide) all0 ?_
      intro T341 h341_ v342 s343 H341 Q344
      obtain ⟨c345, rfl, rfl, K346⟩ := Q344
      show Go p e below _ (T341.setTop (mkF m 927 #[.val (.int x0), .val (.int x1), .val (.int x2), .val (.int x3), .val (.int (x2 &&& 255)), .val (.int (x3 &&& 255)), .val (.int (x1 &&& 2147483647)), .val (.int (x0 &&& 7)), .val (.ref a325), .val (.ref uu2), .val (.ref p0), .val (.int 10), .val (.int 111)] [(.ref uu2)]))
      refine G.aload H341 at_927 (pc' := 929) rfl rfl rfl ?_
      refine G.acmpNo H341 at_929 (pc' := 932) rfl rfl rfl (XT.aa_ne_f rfl) ?_
      refine G.iconst H341 at_932 (pc' := 933) rfl (v := 1) rfl ?_
      refine G.goto H341 at_933 (by decide) (pc' := 937) rfl ?_
      exact G.retN H341 (t := .boolean) rfl (by decide) at_937 (so := []) all0 (by decide) (by decide) rfl
    ·
      refine G.icmpYes H332 at_188 (XT.ii_ne_t c338) (by decide) (pc' := 197) rfl ?_
      refine G.aconstNull H332 at_197 (pc' := 198) rfl ?_
      refine G.astore H332 (L' := #[.val (.int x0), .val (.int x1), .val (.int x2), .val (.int x3), .val (.int (x2 &&& 255)), .val (.int (x3 &&& 255)), .val (.int (x1 &&& 2147483647)), .val (.int (x0 &&& 7)), .val (.ref a325), .val .null, .val (.ref p0), .val (.int 10), .val (.int 111)]) at_198 (pc' := 200) rfl rfl rfl ?_
      refine G.goto H332 at_200 (by decide) (pc' := 922) rfl ?_
      refine G.aload H332 at_922 (pc' := 924) rfl rfl rfl ?_
      refine G.callS H332 (m52_named V a325 t333 k334 (x2 &&& 255) h332_ H332.old S336 (fun q => c338 (Eq.symm q))) (wd38 V) (wd39 V) (wd36 V) (wd40 V) (by decide) (argsL := [(.ref a325)]) (rest := []) (W := 0) rfl rfl (lenOf (pd_2) rfl) rfl rfl at_924 (pc' := 927) rfl (by decide) (by decide) (by decide) (by decide) all0 ?_
      intro T347 h347_ v348 s349 H347 Q350
      obtain ⟨c351, rfl, rfl, K352⟩ := Q350
      show Go p e below _ (T347.setTop (mkF m 927 #[.val (.int x0), .val (.int x1), .val (.int x2), .val (.int x3), .val (.int (x2 &&& 255)), .val (.int (x3 &&& 255)), .val (.int (x1 &&& 2147483647)), .val (.int (x0 &&& 7)), .val (.ref a325), .val .null, .val (.ref p0), .val (.int 10), .val (.int 111)] [.null]))
      refine G.aload H347 at_927 (pc' := 929) rfl rfl rfl ?_
      refine G.acmpNo H347 at_929 (pc' := 932) rfl rfl rfl (XT.aa_ne_f rfl) ?_
      refine G.iconst H347 at_932 (pc' := 933) rfl (v := 1) rfl ?_
      refine G.goto H347 at_933 (by decide) (pc' := 937) rfl ?_
      exact G.retN H347 (t := .boolean) rfl (by decide) at_937 (so := []) all0 (by decide) (by decide) rfl
  ·
    refine G.aload H at_159 (pc' := 161) rfl rfl rfl ?_
    refine G.iload H at_161 (pc' := 163) rfl rfl ?_
    refine G.caloadG H f1 (j := 11) (v := (.int 117)) (by decide) rfl at_163 (pc' := 164) rfl ?_
    refine G.istore H (L' := #[.val (.int x0), .val (.int x1), .val (.int x2), .val (.int x3), .val (.int (x2 &&& 255)), .val (.int (x3 &&& 255)), .val (.int (x1 &&& 2147483647)), .val (.int (x0 &&& 7)), .unset, .unset, .val (.ref p0), .val (.int 11), .val (.int 117)]) at_164 (pc' := 166) rfl rfl ?_
    refine G.aload H at_166 (pc' := 168) rfl rfl rfl ?_
    refine G.iload H at_168 (pc' := 170) rfl rfl ?_
    refine G.iload H at_170 (pc' := 172) rfl rfl ?_
    refine G.stC H f1 (by decide) (i := 11) rfl lB g2 (y := (x2 &&& 255)) (own_narC (own_u16 (own_and255 _))) at_172 (pc' := 173) rfl ?_
    intro T353 h353_ H353 W354 A355
    replace A355 : Arv Z h353_ p0 c0 .char 13 [(.int 100), (.int 105), (.int 114), (.int 101), (.int 99), (.int 116), (.int 111), (.int 114), (.int 121), (.int 45), (.int 111), (.int (x2 &&& 255)), (.int 116)] (.int 0) := A355
    refine G.new H353 (wd1 V) (wd2 V) (wd3 V) at_173 (pc' := 176) rfl (by decide) (by decide) ?_
    intro T356 h356_ a357 ga357 H356 E358 A359 D360
    have na357 := H353.nle ga357
    refine G.dup H356 at_176 (pc' := 177) rfl rfl ?_
    refine G.aload H356 at_177 (pc' := 179) rfl rfl rfl ?_
    have F361 := (Arv.ext A355 E358)
    have F362 : Fld Z h356_ a357 "java/lang/String" "value" "[B" .null := D360 (Or.inr (wd34 V)) (ty := (.array .byte)) (by decide)
    have F363 : Fld Z h356_ a357 "java/lang/String" "coder" "B" (.int 0) := D360 (Or.inr (wd32 V)) (ty := .byte) (by decide)
    refine G.newStr H356 (strw V) (wd2 V) (wd9 V) (wd10 V) (cs := [100, 105, 114, 101, 99, 116, 111, 114, 121, 45, 111, (x2 &&& 255), 116]) (n := 13) na357 A359 F362 F363 F361 (hv17 V) (hv18 V) rfl rfl (by decide) (by decide) (cbS (by decide) (cbS (by decide) (cbS (by decide) (cbS (by decide) (cbS (by decide) (cbS (by decide) (cbS (by decide) (cbS (by decide) (cbS (by decide) (cbS (by decide) (cbS (by decide) (cbS (own_and255 _) (cbS (by decide) cb0))))))))))))) (Sf.mem (mG (i := 0) rfl)) (rest := [(.ref a357)]) (W := 1) rfl rfl at_179 (pc' := 182) rfl (by decide) (by decide) (by decide) (by decide) ?_
    intro T364 h364_ t365 k366 g369 H364 K367 S368
    have nt365 : n0 ≤ t365 := Nat.le_trans H356.le g369
    refine G.astore H364 (L' := #[.val (.int x0), .val (.int x1), .val (.int x2), .val (.int x3), .val (.int (x2 &&& 255)), .val (.int (x3 &&& 255)), .val (.int (x1 &&& 2147483647)), .val (.int (x0 &&& 7)), .val (.ref a357), .unset, .val (.ref p0), .val (.int 11), .val (.int 117)]) at_182 (pc' := 184) rfl rfl rfl ?_
    refine G.iload H364 at_184 (pc' := 186) rfl rfl ?_
    refine G.iload H364 at_186 (pc' := 188) rfl rfl ?_
    by_cases c370 : (x2 &&& 255) = 117
    ·
      refine G.icmpNo H364 at_188 (pc' := 191) rfl (XT.ii_ne_f c370) ?_
      refine G.getS H364 (wd75 V) Via.refl (Sta.ext H364.old.2 (hv4 V)) at_191 (pc' := 194) rfl ?_
      intro T371 H372
      refine G.goto H372 at_194 (by decide) (pc' := 198) rfl ?_
      refine G.astore H372 (L' := #[.val (.int x0), .val (.int x1), .val (.int x2), .val (.int x3), .val (.int (x2 &&& 255)), .val (.int (x3 &&& 255)), .val (.int (x1 &&& 2147483647)), .val (.int (x0 &&& 7)), .val (.ref a357), .val (.ref uu2), .val (.ref p0), .val (.int 11), .val (.int 117)]) at_198 (pc' := 200) rfl rfl rfl ?_
      refine G.goto H372 at_200 (by decide) (pc' := 922) rfl ?_
      refine G.aload H372 at_922 (pc' := 924) rfl rfl rfl ?_
      refine G.callS H372 (m53_named V a357 t365 k366 (x2 &&& 255) h364_ H372.old S368 (Eq.symm c370)) (wd38 V) (wd39 V) (wd36 V) (wd40 V) (by decide) (argsL := [(.ref a357)]) (rest := []) (W := 0) rfl rfl (lenOf (pd_2) rfl) rfl rfl at_924 (pc' := 927) rfl (by decide) (by decide) (by decide) (by decide) all0 ?_
      intro T373 h373_ v374 s375 H373 Q376
      obtain ⟨c377, rfl, rfl, K378⟩ := Q376
      show Go p e below _ (T373.setTop (mkF m 927 #[.val (.int x0), .val (.int x1), .val (.int x2), .val (.int x3), .val (.int (x2 &&& 255)), .val (.int (x3 &&& 255)), .val (.int (x1 &&& 2147483647)), .val (.int (x0 &&& 7)), .val (.ref a357), .val (.ref uu2), .val (.ref p0), .val (.int 11), .val (.int 117)] [(.ref uu2)]))
      refine G.aload H373 at_927 (pc' := 929) rfl rfl rfl ?_
      refine G.acmpNo H373 at_929 (pc' := 932) rfl rfl rfl (XT.aa_ne_f rfl) ?_
      refine G.iconst H373 at_932 (pc' := 933) rfl (v := 1) rfl ?_
      refine G.goto H373 at_933 (by decide) (pc' := 937) rfl ?_
      exact G.retN H373 (t := .boolean) rfl (by decide) at_937 (so := []) all0 (by decide) (by decide) rfl
    ·
      refine G.icmpYes H364 at_188 (XT.ii_ne_t c370) (by decide) (pc' := 197) rfl ?_
      refine G.aconstNull H364 at_197 (pc' := 198) rfl ?_
      refine G.astore H364 (L' := #[.val (.int x0), .val (.int x1), .val (.int x2), .val (.int x3), .val (.int (x2 &&& 255)), .val (.int (x3 &&& 255)), .val (.int (x1 &&& 2147483647)), .val (.int (x0 &&& 7)), .val (.ref a357), .val .null, .val (.ref p0), .val (.int 11), .val (.int 117)]) at_198 (pc' := 200) rfl rfl rfl ?_
      refine G.goto H364 at_200 (by decide) (pc' := 922) rfl ?_
      refine G.aload H364 at_922 (pc' := 924) rfl rfl rfl ?_
      refine G.callS H364 (m54_named V a357 t365 k366 (x2 &&& 255) h364_ H364.old S368 (fun q => c370 (Eq.symm q))) (wd38 V) (wd39 V) (wd36 V) (wd40 V) (by decide) (argsL := [(.ref a357)]) (rest := []) (W := 0) rfl rfl (lenOf (pd_2) rfl) rfl rfl at_924 (pc' := 927) rfl (by decide) (by decide) (by decide) (by decide) all0 ?_
      intro T379 h379_ v380 s381 H379 Q382
      obtain ⟨c383, rfl, rfl, K384⟩ := Q382
      show Go p e below _ (T379.setTop (mkF m 927 #[.val (.int x0), .val (.int x1), .val (.int x2), .val (.int x3), .val (.int (x2 &&& 255)), .val (.int (x3 &&& 255)), .val (.int (x1 &&& 2147483647)), .val (.int (x0 &&& 7)), .val (.ref a357), .val .null, .val (.ref p0), .val (.int 11), .val (.int 117)] [.null]))
      refine G.aload H379 at_927 (pc' := 929) rfl rfl rfl ?_
      refine G.acmpNo H379 at_929 (pc' := 932) rfl rfl rfl (XT.aa_ne_f rfl) ?_
      refine G.iconst H379 at_932 (pc' := 933) rfl (v := 1) rfl ?_
      refine G.goto H379 at_933 (by decide) (pc' := 937) rfl ?_
      exact G.retN H379 (t := .boolean) rfl (by decide) at_937 (so := []) all0 (by decide) (by decide) rfl
  ·
    refine G.aload H at_159 (pc' := 161) rfl rfl rfl ?_
    refine G.iload H at_161 (pc' := 163) rfl rfl ?_
    refine G.caloadG H f1 (j := 12) (v := (.int 116)) (by decide) rfl at_163 (pc' := 164) rfl ?_
    refine G.istore H (L' := #[.val (.int x0), .val (.int x1), .val (.int x2), .val (.int x3), .val (.int (x2 &&& 255)), .val (.int (x3 &&& 255)), .val (.int (x1 &&& 2147483647)), .val (.int (x0 &&& 7)), .unset, .unset, .val (.ref p0), .val (.int 12), .val (.int 116)]) at_164 (pc' := 166) rfl rfl ?_
    refine G.aload H at_166 (pc' := 168) rfl rfl rfl ?_
    refine G.iload H at_168 (pc' := 170) rfl rfl ?_
    refine G.iload H at_170 (pc' := 172) rfl rfl ?_
    refine G.stC H f1 (by decide) (i := 12) rfl lB g2 (y := (x2 &&& 255)) (own_narC (own_u16 (own_and255 _))) at_172 (pc' := 173) rfl ?_
    intro T385 h385_ H385 W386 A387
    replace A387 : Arv Z h385_ p0 c0 .char 13 [(.int 100), (.int 105), (.int 114), (.int 101), (.int 99), (.int 116), (.int 111), (.int 114), (.int 121), (.int 45), (.int 111), (.int 117), (.int (x2 &&& 255))] (.int 0) := A387
    refine G.new H385 (wd1 V) (wd2 V) (wd3 V) at_173 (pc' := 176) rfl (by decide) (by decide) ?_
    intro T388 h388_ a389 ga389 H388 E390 A391 D392
    have na389 := H385.nle ga389
    refine G.dup H388 at_176 (pc' := 177) rfl rfl ?_
    refine G.aload H388 at_177 (pc' := 179) rfl rfl rfl ?_
    have F393 := (Arv.ext A387 E390)
    have F394 : Fld Z h388_ a389 "java/lang/String" "value" "[B" .null := D392 (Or.inr (wd34 V)) (ty := (.array .byte)) (by decide)
    have F395 : Fld Z h388_ a389 "java/lang/String" "coder" "B" (.int 0) := D392 (Or.inr (wd32 V)) (ty := .byte) (by decide)
    refine G.newStr H388 (strw V) (wd2 V) (wd9 V) (wd10 V) (cs := [100, 105, 114, 101, 99, 116, 111, 114, 121, 45, 111, 117, (x2 &&& 255)]) (n := 13) na389 A391 F394 F395 F393 (hv17 V) (hv18 V) rfl rfl (by decide) (by decide) (cbS (by decide) (cbS (by decide) (cbS (by decide) (cbS (by decide) (cbS (by decide) (cbS (by decide) (cbS (by decide) (cbS (by decide) (cbS (by decide) (cbS (by decide) (cbS (by decide) (cbS (by decide) (cbS (own_and255 _) cb0))))))))))))) (Sf.mem (mG (i := 0) rfl)) (rest := [(.ref a389)]) (W := 1) rfl rfl at_179 (pc' := 182) rfl (by decide) (by decide) (by decide) (by decide) ?_
    intro T396 h396_ t397 k398 g401 H396 K399 S400
    have nt397 : n0 ≤ t397 := Nat.le_trans H388.le g401
    refine G.astore H396 (L' := #[.val (.int x0), .val (.int x1), .val (.int x2), .val (.int x3), .val (.int (x2 &&& 255)), .val (.int (x3 &&& 255)), .val (.int (x1 &&& 2147483647)), .val (.int (x0 &&& 7)), .val (.ref a389), .unset, .val (.ref p0), .val (.int 12), .val (.int 116)]) at_182 (pc' := 184) rfl rfl rfl ?_
    refine G.iload H396 at_184 (pc' := 186) rfl rfl ?_
    refine G.iload H396 at_186 (pc' := 188) rfl rfl ?_
    by_cases c402 : (x2 &&& 255) = 116
    ·
      refine G.icmpNo H396 at_188 (pc' := 191) rfl (XT.ii_ne_f c402) ?_
      refine G.getS H396 (wd75 V) Via.refl (Sta.ext H396.old.2 (hv4 V)) at_191 (pc' := 194) rfl ?_
      intro T403 H404
      refine G.goto H404 at_194 (by decide) (pc' := 198) rfl ?_
      refine G.astore H404 (L' := #[.val (.int x0), .val (.int x1), .val (.int x2), .val (.int x3), .val (.int (x2 &&& 255)), .val (.int (x3 &&& 255)), .val (.int (x1 &&& 2147483647)), .val (.int (x0 &&& 7)), .val (.ref a389), .val (.ref uu2), .val (.ref p0), .val (.int 12), .val (.int 116)]) at_198 (pc' := 200) rfl rfl rfl ?_
      refine G.goto H404 at_200 (by decide) (pc' := 922) rfl ?_
      refine G.aload H404 at_922 (pc' := 924) rfl rfl rfl ?_
      refine G.callS H404 (m55_named V a389 t397 k398 (x2 &&& 255) h396_ H404.old S400 (Eq.symm c402)) (wd38 V) (wd39 V) (wd36 V) (wd40 V) (by decide) (argsL := [(.ref a389)]) (rest := []) (W := 0) rfl rfl (lenOf (pd_2) rfl) rfl rfl at_924 (pc' := 927) rfl (by decide) (by decide) (by decide) (by decide) all0 ?_
      intro T405 h405_ v406 s407 H405 Q408
      obtain ⟨c409, rfl, rfl, K410⟩ := Q408
      show Go p e below _ (T405.setTop (mkF m 927 #[.val (.int x0), .val (.int x1), .val (.int x2), .val (.int x3), .val (.int (x2 &&& 255)), .val (.int (x3 &&& 255)), .val (.int (x1 &&& 2147483647)), .val (.int (x0 &&& 7)), .val (.ref a389), .val (.ref uu2), .val (.ref p0), .val (.int 12), .val (.int 116)] [(.ref uu2)]))
      refine G.aload H405 at_927 (pc' := 929) rfl rfl rfl ?_
      refine G.acmpNo H405 at_929 (pc' := 932) rfl rfl rfl (XT.aa_ne_f rfl) ?_
      refine G.iconst H405 at_932 (pc' := 933) rfl (v := 1) rfl ?_
      refine G.goto H405 at_933 (by decide) (pc' := 937) rfl ?_
      exact G.retN H405 (t := .boolean) rfl (by decide) at_937 (so := []) all0 (by decide) (by decide) rfl
    ·
      refine G.icmpYes H396 at_188 (XT.ii_ne_t c402) (by decide) (pc' := 197) rfl ?_
      refine G.aconstNull H396 at_197 (pc' := 198) rfl ?_
      refine G.astore H396 (L' := #[.val (.int x0), .val (.int x1), .val (.int x2), .val (.int x3), .val (.int (x2 &&& 255)), .val (.int (x3 &&& 255)), .val (.int (x1 &&& 2147483647)), .val (.int (x0 &&& 7)), .val (.ref a389), .val .null, .val (.ref p0), .val (.int 12), .val (.int 116)]) at_198 (pc' := 200) rfl rfl rfl ?_
      refine G.goto H396 at_200 (by decide) (pc' := 922) rfl ?_
      refine G.aload H396 at_922 (pc' := 924) rfl rfl rfl ?_
      refine G.callS H396 (m56_named V a389 t397 k398 (x2 &&& 255) h396_ H396.old S400 (fun q => c402 (Eq.symm q))) (wd38 V) (wd39 V) (wd36 V) (wd40 V) (by decide) (argsL := [(.ref a389)]) (rest := []) (W := 0) rfl rfl (lenOf (pd_2) rfl) rfl rfl at_924 (pc' := 927) rfl (by decide) (by decide) (by decide) (by decide) all0 ?_
      intro T411 h411_ v412 s413 H411 Q414
      obtain ⟨c415, rfl, rfl, K416⟩ := Q414
      show Go p e below _ (T411.setTop (mkF m 927 #[.val (.int x0), .val (.int x1), .val (.int x2), .val (.int x3), .val (.int (x2 &&& 255)), .val (.int (x3 &&& 255)), .val (.int (x1 &&& 2147483647)), .val (.int (x0 &&& 7)), .val (.ref a389), .val .null, .val (.ref p0), .val (.int 12), .val (.int 116)] [.null]))
      refine G.aload H411 at_927 (pc' := 929) rfl rfl rfl ?_
      refine G.acmpNo H411 at_929 (pc' := 932) rfl rfl rfl (XT.aa_ne_f rfl) ?_
      refine G.iconst H411 at_932 (pc' := 933) rfl (v := 1) rfl ?_
      refine G.goto H411 at_933 (by decide) (pc' := 937) rfl ?_
      exact G.retN H411 (t := .boolean) rfl (by decide) at_937 (so := []) all0 (by decide) (by decide) rfl
set_option maxRecDepth 65536 in
set_option maxHeartbeats 40000000 in
theorem m58_named (V : Env1 Z a0 n0 uu0 uu1 uu2 uu3 uu4 uu5 uu6 uu7 uu8 uu9 uu10 uu11) (p0 : Addr) (p1 : Addr) (c0 : ClassId) (x0 : Int32) (h0 : Heap) (hO : Old Z n0 h0) (f0 : Str Z h0 p0 p1 c0 [100, 105, 114, 101, 99, 116, 111, 114, 121, 45, 105, 110, x0]) :
    Met Z a0 ELs True n0 l (⟨"bindery/bindings/BindingType", "named", "(Ljava/lang/String;)Lbindery/bindings/BindingType;"⟩ : MethodName) prog_4_method_4_code 5 (Option.some (FieldType.object "bindery/bindings/BindingType")) ({ frames := 2, cells := 1, slots := 2, locals := 28 } : Room) #[(.ref p0)] h0 [] (fun v h so => (v = some .null ∧ so = [] ∧ Keep h0 h [])) := by
  refine Met.of (EWl V) (by first | decide +kernel | rfl) hO (L0 := #[.val (.ref p0), .unset, .unset, .unset, .unset]) rfl ?_
  intro p e s m below meth c T H
  show Go p e below _ (T.setTop (mkF m 0 #[.val (.ref p0), .unset, .unset, .unset, .unset] []))
  refine G.callS H (m2_values V h0 H.old) (wd41 V) (wd42 V) (wd36 V) (wd43 V) (by decide) (argsL := []) (rest := []) (W := 0) rfl rfl (lenOf (pd_1) rfl) rfl rfl D10_0 (pc' := 3) rfl (by decide) (by decide) (by decide) (by decide) all0 ?_
  intro T1 h1_ v2 s3 H1 Q4
  obtain ⟨a5, k6, rfl, rfl, K7, g8, F9, F10⟩ := Q4
  have na5 : n0 ≤ a5 := Nat.le_trans H.le g8
  show Go p e below _ (T1.setTop (mkF m 3 #[.val (.ref p0), .unset, .unset, .unset, .unset] [(.ref a5)]))
  refine G.astoreN H1 (L' := #[.val (.ref p0), .val (.ref a5), .unset, .unset, .unset]) D10_3 (pc' := 4) rfl rfl rfl ?_
  refine G.aloadN H1 D10_4 (pc' := 5) rfl rfl rfl ?_
  refine G.arrlen H1 F9 D10_5 (pc' := 6) rfl ?_
  refine G.istoreN H1 (L' := #[.val (.ref p0), .val (.ref a5), .val (.int 2), .unset, .unset]) D10_6 (pc' := 7) rfl rfl ?_
  refine G.iconst H1 D10_7 (pc' := 8) rfl (v := 0) rfl ?_
  refine G.istoreN H1 (L' := #[.val (.ref p0), .val (.ref a5), .val (.int 2), .val (.int 0), .unset]) D10_8 (pc' := 9) rfl rfl ?_
  refine G.iloadN H1 D10_9 (pc' := 10) rfl rfl ?_
  refine G.iloadN H1 D10_10 (pc' := 11) rfl rfl ?_
  refine G.icmpNo H1 D10_11 (pc' := 14) rfl (by decide) ?_
  refine G.aloadN H1 D10_14 (pc' := 15) rfl rfl rfl ?_
  refine G.iloadN H1 D10_15 (pc' := 16) rfl rfl ?_
  refine G.aaloadG H1 F9 rfl (j := 0) (v := (.ref uu1)) (by decide) rfl D10_16 (pc' := 17) rfl ?_
  refine G.astore H1 (L' := #[.val (.ref p0), .val (.ref a5), .val (.int 2), .val (.int 0), .val (.ref uu1)]) D10_17 (pc' := 19) rfl rfl rfl ?_
  refine G.aload H1 D10_19 (pc' := 21) rfl rfl rfl ?_
  have B11 := Fld.ext H1.old.2 (hv8 V)
  refine G.getF H1 (wd57 V) Via.refl B11 D10_21 (pc' := 24) rfl ?_
  intro T12 H13
  refine G.aloadN H13 D10_24 (pc' := 25) rfl rfl rfl ?_
  have B14 := Str.ext H13.old.2 (hv22 V)
  have F15 := (Str.keep f0 K7 nin0 nin0)
  refine G.strEq H13 (strwEq V) (wd2 V) (wd59 V) (wd60 V) (wd62 V) (wd61 V) B14 F15 (hv17 V) (hv18 V) (rest := []) (W := 0) rfl rfl D10_25 (pc' := 28) rfl (by decide) (by decide) (by decide) (by decide) ?_ ?_
  ·
    intro T16 H17 c18
    exact absurd c18 (by intro qq; simp at qq)
  ·
    intro T19 H20 c21
    refine G.ifYes H20 D10_28 (by decide) (by decide) (pc' := 34) rfl ?_
    refine G.iinc H20 (v := 1) (L' := #[.val (.ref p0), .val (.ref a5), .val (.int 2), .val (.int 1), .val (.ref uu1)]) D10_34 (pc' := 37) rfl rfl rfl rfl ?_
    refine G.goto H20 D10_37 (by decide) (pc' := 9) rfl ?_
    show Go p e below _ (T19.setTop (mkF m 9 #[.val (.ref p0), .val (.ref a5), .val (.int 2), .val (.int 1), .val (.ref uu1)] []))
    refine G.iloadN H20 D10_9 (pc' := 10) rfl rfl ?_
    refine G.iloadN H20 D10_10 (pc' := 11) rfl rfl ?_
    refine G.icmpNo H20 D10_11 (pc' := 14) rfl (by decide) ?_
    refine G.aloadN H20 D10_14 (pc' := 15) rfl rfl rfl ?_
    refine G.iloadN H20 D10_15 (pc' := 16) rfl rfl ?_
    refine G.aaloadG H20 F9 rfl (j := 1) (v := (.ref uu2)) (by decide) rfl D10_16 (pc' := 17) rfl ?_
    refine G.astore H20 (L' := #[.val (.ref p0), .val (.ref a5), .val (.int 2), .val (.int 1), .val (.ref uu2)]) D10_17 (pc' := 19) rfl rfl rfl ?_
    refine G.aload H20 D10_19 (pc' := 21) rfl rfl rfl ?_
    have B22 := Fld.ext H20.old.2 (hv6 V)
    refine G.getF H20 (wd57 V) Via.refl B22 D10_21 (pc' := 24) rfl ?_
    intro T23 H24
    refine G.aloadN H24 D10_24 (pc' := 25) rfl rfl rfl ?_
    have B25 := Str.ext H24.old.2 (hv21 V)
    refine G.strEq H24 (strwEq V) (wd2 V) (wd59 V) (wd60 V) (wd62 V) (wd61 V) B25 F15 (hv17 V) (hv18 V) (rest := []) (W := 0) rfl rfl D10_25 (pc' := 28) rfl (by decide) (by decide) (by decide) (by decide) ?_ ?_
    ·
      intro T26 H27 c28
      exact absurd c28 (by intro qq; simp at qq)
    ·
      intro T29 H30 c31
      refine G.ifYes H30 D10_28 (by decide) (by decide) (pc' := 34) rfl ?_
      refine G.iinc H30 (v := 2) (L' := #[.val (.ref p0), .val (.ref a5), .val (.int 2), .val (.int 2), .val (.ref uu2)]) D10_34 (pc' := 37) rfl rfl rfl rfl ?_
      refine G.goto H30 D10_37 (by decide) (pc' := 9) rfl ?_
      show Go p e below _ (T29.setTop (mkF m 9 #[.val (.ref p0), .val (.ref a5), .val (.int 2), .val (.int 2), .val (.ref uu2)] []))
      refine G.iloadN H30 D10_9 (pc' := 10) rfl rfl ?_
      refine G.iloadN H30 D10_10 (pc' := 11) rfl rfl ?_
      refine G.icmpYes H30 D10_11 (by decide) (by decide) (pc' := 40) rfl ?_
      refine G.aconstNull H30 D10_40 (pc' := 41) rfl ?_
      have K32 : Keep h0 h1_ [] := (Keep.trans (Keep.refl h0 []) K7 all0)
      exact G.retA H30 (t := (.object "bindery/bindings/BindingType")) rfl rfl rfl D10_41 (so := []) all0 (by decide) (by decide) ⟨rfl, rfl, K32⟩
set_option maxRecDepth 65536 in
set_option maxHeartbeats 40000000 in
theorem m59_named (V : Env1 Z a0 n0 uu0 uu1 uu2 uu3 uu4 uu5 uu6 uu7 uu8 uu9 uu10 uu11) (p0 : Addr) (p1 : Addr) (c0 : ClassId) (x0 : Int32) (h0 : Heap) (hO : Old Z n0 h0) (f0 : Str Z h0 p0 p1 c0 [100, 105, 114, 101, 99, 116, 111, 114, 121, 45, 111, 117, 116, x0]) :
    Met Z a0 ELs True n0 l (⟨"bindery/bindings/BindingType", "named", "(Ljava/lang/String;)Lbindery/bindings/BindingType;"⟩ : MethodName) prog_4_method_4_code 5 (Option.some (FieldType.object "bindery/bindings/BindingType")) ({ frames := 2, cells := 1, slots := 2, locals := 28 } : Room) #[(.ref p0)] h0 [] (fun v h so => (v = some .null ∧ so = [] ∧ Keep h0 h [])) := by
  refine Met.of (EWl V) (by first | decide +kernel | rfl) hO (L0 := #[.val (.ref p0), .unset, .unset, .unset, .unset]) rfl ?_
  intro p e s m below meth c T H
  show Go p e below _ (T.setTop (mkF m 0 #[.val (.ref p0), .unset, .unset, .unset, .unset] []))
  refine G.callS H (m2_values V h0 H.old) (wd41 V) (wd42 V) (wd36 V) (wd43 V) (by decide) (argsL := []) (rest := []) (W := 0) rfl rfl (lenOf (pd_1) rfl) rfl rfl D10_0 (pc' := 3) rfl (by decide) (by decide) (by decide) (by decide) all0 ?_
  intro T1 h1_ v2 s3 H1 Q4
  obtain ⟨a5, k6, rfl, rfl, K7, g8, F9, F10⟩ := Q4
  have na5 : n0 ≤ a5 := Nat.le_trans H.le g8
  show Go p e below _ (T1.setTop (mkF m 3 #[.val (.ref p0), .unset, .unset, .unset, .unset] [(.ref a5)]))
  refine G.astoreN H1 (L' := #[.val (.ref p0), .val (.ref a5), .unset, .unset, .unset]) D10_3 (pc' := 4) rfl rfl rfl ?_
  refine G.aloadN H1 D10_4 (pc' := 5) rfl rfl rfl ?_
  refine G.arrlen H1 F9 D10_5 (pc' := 6) rfl ?_
  refine G.istoreN H1 (L' := #[.val (.ref p0), .val (.ref a5), .val (.int 2), .unset, .unset]) D10_6 (pc' := 7) rfl rfl ?_
  refine G.iconst H1 D10_7 (pc' := 8) rfl (v := 0) rfl ?_
  refine G.istoreN H1 (L' := #[.val (.ref p0), .val (.ref a5), .val (.int 2), .val (.int 0), .unset]) D10_8 (pc' := 9) rfl rfl ?_
  refine G.iloadN H1 D10_9 (pc' := 10) rfl rfl ?_
  refine G.iloadN H1 D10_10 (pc' := 11) rfl rfl ?_
  refine G.icmpNo H1 D10_11 (pc' := 14) rfl (by decide) ?_
  refine G.aloadN H1 D10_14 (pc' := 15) rfl rfl rfl ?_
  refine G.iloadN H1 D10_15 (pc' := 16) rfl rfl ?_
  refine G.aaloadG H1 F9 rfl (j := 0) (v := (.ref uu1)) (by decide) rfl D10_16 (pc' := 17) rfl ?_
  refine G.astore H1 (L' := #[.val (.ref p0), .val (.ref a5), .val (.int 2), .val (.int 0), .val (.ref uu1)]) D10_17 (pc' := 19) rfl rfl rfl ?_
  refine G.aload H1 D10_19 (pc' := 21) rfl rfl rfl ?_
  have B11 := Fld.ext H1.old.2 (hv8 V)
  refine G.getF H1 (wd57 V) Via.refl B11 D10_21 (pc' := 24) rfl ?_
  intro T12 H13
  refine G.aloadN H13 D10_24 (pc' := 25) rfl rfl rfl ?_
  have B14 := Str.ext H13.old.2 (hv22 V)
  have F15 := (Str.keep f0 K7 nin0 nin0)
  refine G.strEq H13 (strwEq V) (wd2 V) (wd59 V) (wd60 V) (wd62 V) (wd61 V) B14 F15 (hv17 V) (hv18 V) (rest := []) (W := 0) rfl rfl D10_25 (pc' := 28) rfl (by decide) (by decide) (by decide) (by decide) ?_ ?_
  ·
    intro T16 H17 c18
    exact absurd c18 (by intro qq; simp at qq)
  ·
    intro T19 H20 c21
    refine G.ifYes H20 D10_28 (by decide) (by decide) (pc' := 34) rfl ?_
    refine G.iinc H20 (v := 1) (L' := #[.val (.ref p0), .val (.ref a5), .val (.int 2), .val (.int 1), .val (.ref uu1)]) D10_34 (pc' := 37) rfl rfl rfl rfl ?_
    refine G.goto H20 D10_37 (by decide) (pc' := 9) rfl ?_
    show Go p e below _ (T19.setTop (mkF m 9 #[.val (.ref p0), .val (.ref a5), .val (.int 2), .val (.int 1), .val (.ref uu1)] []))
    refine G.iloadN H20 D10_9 (pc' := 10) rfl rfl ?_
    refine G.iloadN H20 D10_10 (pc' := 11) rfl rfl ?_
    refine G.icmpNo H20 D10_11 (pc' := 14) rfl (by decide) ?_
    refine G.aloadN H20 D10_14 (pc' := 15) rfl rfl rfl ?_
    refine G.iloadN H20 D10_15 (pc' := 16) rfl rfl ?_
    refine G.aaloadG H20 F9 rfl (j := 1) (v := (.ref uu2)) (by decide) rfl D10_16 (pc' := 17) rfl ?_
    refine G.astore H20 (L' := #[.val (.ref p0), .val (.ref a5), .val (.int 2), .val (.int 1), .val (.ref uu2)]) D10_17 (pc' := 19) rfl rfl rfl ?_
    refine G.aload H20 D10_19 (pc' := 21) rfl rfl rfl ?_
    have B22 := Fld.ext H20.old.2 (hv6 V)
    refine G.getF H20 (wd57 V) Via.refl B22 D10_21 (pc' := 24) rfl ?_
    intro T23 H24
    refine G.aloadN H24 D10_24 (pc' := 25) rfl rfl rfl ?_
    have B25 := Str.ext H24.old.2 (hv21 V)
    refine G.strEq H24 (strwEq V) (wd2 V) (wd59 V) (wd60 V) (wd62 V) (wd61 V) B25 F15 (hv17 V) (hv18 V) (rest := []) (W := 0) rfl rfl D10_25 (pc' := 28) rfl (by decide) (by decide) (by decide) (by decide) ?_ ?_
    ·
      intro T26 H27 c28
      exact absurd c28 (by intro qq; simp at qq)
    ·
      intro T29 H30 c31
      refine G.ifYes H30 D10_28 (by decide) (by decide) (pc' := 34) rfl ?_
      refine G.iinc H30 (v := 2) (L' := #[.val (.ref p0), .val (.ref a5), .val (.int 2), .val (.int 2), .val (.ref uu2)]) D10_34 (pc' := 37) rfl rfl rfl rfl ?_
      refine G.goto H30 D10_37 (by decide) (pc' := 9) rfl ?_
      show Go p e below _ (T29.setTop (mkF m 9 #[.val (.ref p0), .val (.ref a5), .val (.int 2), .val (.int 2), .val (.ref uu2)] []))
      refine G.iloadN H30 D10_9 (pc' := 10) rfl rfl ?_
      refine G.iloadN H30 D10_10 (pc' := 11) rfl rfl ?_
      refine G.icmpYes H30 D10_11 (by decide) (by decide) (pc' := 40) rfl ?_
      refine G.aconstNull H30 D10_40 (pc' := 41) rfl ?_
      have K32 : Keep h0 h1_ [] := (Keep.trans (Keep.refl h0 []) K7 all0)
      exact G.retA H30 (t := (.object "bindery/bindings/BindingType")) rfl rfl rfl D10_41 (so := []) all0 (by decide) (by decide) ⟨rfl, rfl, K32⟩
set_option maxRecDepth 65536 in
set_option maxHeartbeats 40000000 in
theorem m60_named (V : Env1 Z a0 n0 uu0 uu1 uu2 uu3 uu4 uu5 uu6 uu7 uu8 uu9 uu10 uu11) (p0 : Addr) (p1 : Addr) (c0 : ClassId) (h0 : Heap) (hO : Old Z n0 h0) (f0 : Str Z h0 p0 p1 c0 [100, 105, 114, 101, 99, 116, 111, 114, 121, 45, 105]) :
    Met Z a0 ELs True n0 l (⟨"bindery/bindings/BindingType", "named", "(Ljava/lang/String;)Lbindery/bindings/BindingType;"⟩ : MethodName) prog_4_method_4_code 5 (Option.some (FieldType.object "bindery/bindings/BindingType")) ({ frames := 2, cells := 1, slots := 2, locals := 28 } : Room) #[(.ref p0)] h0 [] (fun v h so => (v = some .null ∧ so = [] ∧ Keep h0 h [])) := by
  refine Met.of (EWl V) (by first | decide +kernel | rfl) hO (L0 := #[.val (.ref p0), .unset, .unset, .unset, .unset]) rfl ?_
  intro p e s m below meth c T H
  show Go p e below _ (T.setTop (mkF m 0 #[.val (.ref p0), .unset, .unset, .unset, .unset] []))
  refine G.callS H (m2_values V h0 H.old) (wd41 V) (wd42 V) (wd36 V) (wd43 V) (by decide) (argsL := []) (rest := []) (W := 0) rfl rfl (lenOf (pd_1) rfl) rfl rfl D10_0 (pc' := 3) rfl (by decide) (by decide) (by decide) (by decide) all0 ?_
  intro T1 h1_ v2 s3 H1 Q4
  obtain ⟨a5, k6, rfl, rfl, K7, g8, F9, F10⟩ := Q4
  have na5 : n0 ≤ a5 := Nat.le_trans H.le g8
  show Go p e below _ (T1.setTop (mkF m 3 #[.val (.ref p0), .unset, .unset, .unset, .unset] [(.ref a5)]))
  refine G.astoreN H1 (L' := #[.val (.ref p0), .val (.ref a5), .unset, .unset, .unset]) D10_3 (pc' := 4) rfl rfl rfl ?_
  refine G.aloadN H1 D10_4 (pc' := 5) rfl rfl rfl ?_
  refine G.arrlen H1 F9 D10_5 (pc' := 6) rfl ?_
  refine G.istoreN H1 (L' := #[.val (.ref p0), .val (.ref a5), .val (.int 2), .unset, .unset]) D10_6 (pc' := 7) rfl rfl ?_
  refine G.iconst H1 D10_7 (pc' := 8) rfl (v := 0) rfl ?_
  refine G.istoreN H1 (L' := #[.val (.ref p0), .val (.ref a5), .val (.int 2), .val (.int 0), .unset]) D10_8 (pc' := 9) rfl rfl ?_
  refine G.iloadN H1 D10_9 (pc' := 10) rfl rfl ?_
  refine G.iloadN H1 D10_10 (pc' := 11) rfl rfl ?_
  refine G.icmpNo H1 D10_11 (pc' := 14) rfl (by decide) ?_
  refine G.aloadN H1 D10_14 (pc' := 15) rfl rfl rfl ?_
  refine G.iloadN H1 D10_15 (pc' := 16) rfl rfl ?_
  refine G.aaloadG H1 F9 rfl (j := 0) (v := (.ref uu1)) (by decide) rfl D10_16 (pc' := 17) rfl ?_
  refine G.astore H1 (L' := #[.val (.ref p0), .val (.ref a5), .val (.int 2), .val (.int 0), .val (.ref uu1)]) D10_17 (pc' := 19) rfl rfl rfl ?_
  refine G.aload H1 D10_19 (pc' := 21) rfl rfl rfl ?_
  have B11 := Fld.ext H1.old.2 (hv8 V)
  refine G.getF H1 (wd57 V) Via.refl B11 D10_21 (pc' := 24) rfl ?_
  intro T12 H13
  refine G.aloadN H13 D10_24 (pc' := 25) rfl rfl rfl ?_
  have B14 := Str.ext H13.old.2 (hv22 V)
  have F15 := (Str.keep f0 K7 nin0 nin0)
  refine G.strEq H13 (strwEq V) (wd2 V) (wd59 V) (wd60 V) (wd62 V) (wd61 V) B14 F15 (hv17 V) (hv18 V) (rest := []) (W := 0) rfl rfl D10_25 (pc' := 28) rfl (by decide) (by decide) (by decide) (by decide) ?_ ?_
  ·
    intro T16 H17 c18
    exact absurd c18 (by intro qq; simp at qq)
  ·
    intro T19 H20 c21
    refine G.ifYes H20 D10_28 (by decide) (by decide) (pc' := 34) rfl ?_
    refine G.iinc H20 (v := 1) (L' := #[.val (.ref p0), .val (.ref a5), .val (.int 2), .val (.int 1), .val (.ref uu1)]) D10_34 (pc' := 37) rfl rfl rfl rfl ?_
    refine G.goto H20 D10_37 (by decide) (pc' := 9) rfl ?_
    show Go p e below _ (T19.setTop (mkF m 9 #[.val (.ref p0), .val (.ref a5), .val (.int 2), .val (.int 1), .val (.ref uu1)] []))
    refine G.iloadN H20 D10_9 (pc' := 10) rfl rfl ?_
    refine G.iloadN H20 D10_10 (pc' := 11) rfl rfl ?_
    refine G.icmpNo H20 D10_11 (pc' := 14) rfl (by decide) ?_
    refine G.aloadN H20 D10_14 (pc' := 15) rfl rfl rfl ?_
    refine G.iloadN H20 D10_15 (pc' := 16) rfl rfl ?_
    refine G.aaloadG H20 F9 rfl (j := 1) (v := (.ref uu2)) (by decide) rfl D10_16 (pc' := 17) rfl ?_
    refine G.astore H20 (L' := #[.val (.ref p0), .val (.ref a5), .val (.int 2), .val (.int 1), .val (.ref uu2)]) D10_17 (pc' := 19) rfl rfl rfl ?_
    refine G.aload H20 D10_19 (pc' := 21) rfl rfl rfl ?_
    have B22 := Fld.ext H20.old.2 (hv6 V)
    refine G.getF H20 (wd57 V) Via.refl B22 D10_21 (pc' := 24) rfl ?_
    intro T23 H24
    refine G.aloadN H24 D10_24 (pc' := 25) rfl rfl rfl ?_
    have B25 := Str.ext H24.old.2 (hv21 V)
    refine G.strEq H24 (strwEq V) (wd2 V) (wd59 V) (wd60 V) (wd62 V) (wd61 V) B25 F15 (hv17 V) (hv18 V) (rest := []) (W := 0) rfl rfl D10_25 (pc' := 28) rfl (by decide) (by decide) (by decide) (by decide) ?_ ?_
    ·
      intro T26 H27 c28
      exact absurd c28 (by intro qq; simp at qq)
    ·
      intro T29 H30 c31
      refine G.ifYes H30 D10_28 (by decide) (by decide) (pc' := 34) rfl ?_
      refine G.iinc H30 (v := 2) (L' := #[.val (.ref p0), .val (.ref a5), .val (.int 2), .val (.int 2), .val (.ref uu2)]) D10_34 (pc' := 37) rfl rfl rfl rfl ?_
      refine G.goto H30 D10_37 (by decide) (pc' := 9) rfl ?_
      show Go p e below _ (T29.setTop (mkF m 9 #[.val (.ref p0), .val (.ref a5), .val (.int 2), .val (.int 2), .val (.ref uu2)] []))
      refine G.iloadN H30 D10_9 (pc' := 10) rfl rfl ?_
      refine G.iloadN H30 D10_10 (pc' := 11) rfl rfl ?_
      refine G.icmpYes H30 D10_11 (by decide) (by decide) (pc' := 40) rfl ?_
      refine G.aconstNull H30 D10_40 (pc' := 41) rfl ?_
      have K32 : Keep h0 h1_ [] := (Keep.trans (Keep.refl h0 []) K7 all0)
      exact G.retA H30 (t := (.object "bindery/bindings/BindingType")) rfl rfl rfl D10_41 (so := []) all0 (by decide) (by decide) ⟨rfl, rfl, K32⟩
set_option maxRecDepth 65536 in
set_option maxHeartbeats 40000000 in
theorem m61_named (V : Env1 Z a0 n0 uu0 uu1 uu2 uu3 uu4 uu5 uu6 uu7 uu8 uu9 uu10 uu11) (p0 : Addr) (p1 : Addr) (c0 : ClassId) (h0 : Heap) (hO : Old Z n0 h0) (f0 : Str Z h0 p0 p1 c0 [100, 105, 114, 101, 99, 116, 111, 114, 121, 45, 111, 117]) :
    Met Z a0 ELs True n0 l (⟨"bindery/bindings/BindingType", "named", "(Ljava/lang/String;)Lbindery/bindings/BindingType;"⟩ : MethodName) prog_4_method_4_code 5 (Option.some (FieldType.object "bindery/bindings/BindingType")) ({ frames := 2, cells := 1, slots := 2, locals := 28 } : Room) #[(.ref p0)] h0 [] (fun v h so => (v = some .null ∧ so = [] ∧ Keep h0 h [])) := by
  refine Met.of (EWl V) (by first | decide +kernel | rfl) hO (L0 := #[.val (.ref p0), .unset, .unset, .unset, .unset]) rfl ?_
  intro p e s m below meth c T H
  show Go p e below _ (T.setTop (mkF m 0 #[.val (.ref p0), .unset, .unset, .unset, .unset] []))
  refine G.callS H (m2_values V h0 H.old) (wd41 V) (wd42 V) (wd36 V) (wd43 V) (by decide) (argsL := []) (rest := []) (W := 0) rfl rfl (lenOf (pd_1) rfl) rfl rfl D10_0 (pc' := 3) rfl (by decide) (by decide) (by decide) (by decide) all0 ?_
  intro T1 h1_ v2 s3 H1 Q4
  obtain ⟨a5, k6, rfl, rfl, K7, g8, F9, F10⟩ := Q4
  have na5 : n0 ≤ a5 := Nat.le_trans H.le g8
  show Go p e below _ (T1.setTop (mkF m 3 #[.val (.ref p0), .unset, .unset, .unset, .unset] [(.ref a5)]))
  refine G.astoreN H1 (L' := #[.val (.ref p0), .val (.ref a5), .unset, .unset, .unset]) D10_3 (pc' := 4) rfl rfl rfl ?_
  refine G.aloadN H1 D10_4 (pc' := 5) rfl rfl rfl ?_
  refine G.arrlen H1 F9 D10_5 (pc' := 6) rfl ?_
  refine G.istoreN H1 (L' := #[.val (.ref p0), .val (.ref a5), .val (.int 2), .unset, .unset]) D10_6 (pc' := 7) rfl rfl ?_
  refine G.iconst H1 D10_7 (pc' := 8) rfl (v := 0) rfl ?_
  refine G.istoreN H1 (L' := #[.val (.ref p0), .val (.ref a5), .val (.int 2), .val (.int 0), .unset]) D10_8 (pc' := 9) rfl rfl ?_
  refine G.iloadN H1 D10_9 (pc' := 10) rfl rfl ?_
  refine G.iloadN H1 D10_10 (pc' := 11) rfl rfl ?_
  refine G.icmpNo H1 D10_11 (pc' := 14) rfl (by decide) ?_
  refine G.aloadN H1 D10_14 (pc' := 15) rfl rfl rfl ?_
  refine G.iloadN H1 D10_15 (pc' := 16) rfl rfl ?_
  refine G.aaloadG H1 F9 rfl (j := 0) (v := (.ref uu1)) (by decide) rfl D10_16 (pc' := 17) rfl ?_
  refine G.astore H1 (L' := #[.val (.ref p0), .val (.ref a5), .val (.int 2), .val (.int 0), .val (.ref uu1)]) D10_17 (pc' := 19) rfl rfl rfl ?_
  refine G.aload H1 D10_19 (pc' := 21) rfl rfl rfl ?_
  have B11 := Fld.ext H1.old.2 (hv8 V)
  refine G.getF H1 (wd57 V) Via.refl B11 D10_21 (pc' := 24) rfl ?_
  intro T12 H13
  refine G.aloadN H13 D10_24 (pc' := 25) rfl rfl rfl ?_
  have B14 := Str.ext H13.old.2 (hv22 V)
  have F15 := (Str.keep f0 K7 nin0 nin0)
  refine G.strEq H13 (strwEq V) (wd2 V) (wd59 V) (wd60 V) (wd62 V) (wd61 V) B14 F15 (hv17 V) (hv18 V) (rest := []) (W := 0) rfl rfl D10_25 (pc' := 28) rfl (by decide) (by decide) (by decide) (by decide) ?_ ?_
  ·
    intro T16 H17 c18
    exact absurd c18 (by intro qq; simp at qq)
  ·
    intro T19 H20 c21
    refine G.ifYes H20 D10_28 (by decide) (by decide) (pc' := 34) rfl ?_
    refine G.iinc H20 (v := 1) (L' := #[.val (.ref p0), .val (.ref a5), .val (.int 2), .val (.int 1), .val (.ref uu1)]) D10_34 (pc' := 37) rfl rfl rfl rfl ?_
    refine G.goto H20 D10_37 (by decide) (pc' := 9) rfl ?_
    show Go p e below _ (T19.setTop (mkF m 9 #[.val (.ref p0), .val (.ref a5), .val (.int 2), .val (.int 1), .val (.ref uu1)] []))
    refine G.iloadN H20 D10_9 (pc' := 10) rfl rfl ?_
    refine G.iloadN H20 D10_10 (pc' := 11) rfl rfl ?_
    refine G.icmpNo H20 D10_11 (pc' := 14) rfl (by decide) ?_
    refine G.aloadN H20 D10_14 (pc' := 15) rfl rfl rfl ?_
    refine G.iloadN H20 D10_15 (pc' := 16) rfl rfl ?_
    refine G.aaloadG H20 F9 rfl (j := 1) (v := (.ref uu2)) (by decide) rfl D10_16 (pc' := 17) rfl ?_
    refine G.astore H20 (L' := #[.val (.ref p0), .val (.ref a5), .val (.int 2), .val (.int 1), .val (.ref uu2)]) D10_17 (pc' := 19) rfl rfl rfl ?_
    refine G.aload H20 D10_19 (pc' := 21) rfl rfl rfl ?_
    have B22 := Fld.ext H20.old.2 (hv6 V)
    refine G.getF H20 (wd57 V) Via.refl B22 D10_21 (pc' := 24) rfl ?_
    intro T23 H24
    refine G.aloadN H24 D10_24 (pc' := 25) rfl rfl rfl ?_
    have B25 := Str.ext H24.old.2 (hv21 V)
    refine G.strEq H24 (strwEq V) (wd2 V) (wd59 V) (wd60 V) (wd62 V) (wd61 V) B25 F15 (hv17 V) (hv18 V) (rest := []) (W := 0) rfl rfl D10_25 (pc' := 28) rfl (by decide) (by decide) (by decide) (by decide) ?_ ?_
    ·
      intro T26 H27 c28
      exact absurd c28 (by intro qq; simp at qq)
    ·
      intro T29 H30 c31
      refine G.ifYes H30 D10_28 (by decide) (by decide) (pc' := 34) rfl ?_
      refine G.iinc H30 (v := 2) (L' := #[.val (.ref p0), .val (.ref a5), .val (.int 2), .val (.int 2), .val (.ref uu2)]) D10_34 (pc' := 37) rfl rfl rfl rfl ?_
      refine G.goto H30 D10_37 (by decide) (pc' := 9) rfl ?_
      show Go p e below _ (T29.setTop (mkF m 9 #[.val (.ref p0), .val (.ref a5), .val (.int 2), .val (.int 2), .val (.ref uu2)] []))
      refine G.iloadN H30 D10_9 (pc' := 10) rfl rfl ?_
      refine G.iloadN H30 D10_10 (pc' := 11) rfl rfl ?_
      refine G.icmpYes H30 D10_11 (by decide) (by decide) (pc' := 40) rfl ?_
      refine G.aconstNull H30 D10_40 (pc' := 41) rfl ?_
      have K32 : Keep h0 h1_ [] := (Keep.trans (Keep.refl h0 []) K7 all0)
      exact G.retA H30 (t := (.object "bindery/bindings/BindingType")) rfl rfl rfl D10_41 (so := []) all0 (by decide) (by decide) ⟨rfl, rfl, K32⟩
set_option maxRecDepth 65536 in
set_option maxHeartbeats 40000000 in
theorem m62_named (V : Env1 Z a0 n0 uu0 uu1 uu2 uu3 uu4 uu5 uu6 uu7 uu8 uu9 uu10 uu11) (p0 : Addr) (p1 : Addr) (c0 : ClassId) (h0 : Heap) (hO : Old Z n0 h0) (f0 : Str Z h0 p0 p1 c0 [100, 105, 114, 101, 99, 116, 111, 114, 121, 45]) :
    Met Z a0 ELs True n0 l (⟨"bindery/bindings/BindingType", "named", "(Ljava/lang/String;)Lbindery/bindings/BindingType;"⟩ : MethodName) prog_4_method_4_code 5 (Option.some (FieldType.object "bindery/bindings/BindingType")) ({ frames := 2, cells := 1, slots := 2, locals := 28 } : Room) #[(.ref p0)] h0 [] (fun v h so => (v = some .null ∧ so = [] ∧ Keep h0 h [])) := by
  refine Met.of (EWl V) (by first | decide +kernel | rfl) hO (L0 := #[.val (.ref p0), .unset, .unset, .unset, .unset]) rfl ?_
  intro p e s m below meth c T H
  show Go p e below _ (T.setTop (mkF m 0 #[.val (.ref p0), .unset, .unset, .unset, .unset] []))
  refine G.callS H (m2_values V h0 H.old) (wd41 V) (wd42 V) (wd36 V) (wd43 V) (by decide) (argsL := []) (rest := []) (W := 0) rfl rfl (lenOf (pd_1) rfl) rfl rfl D10_0 (pc' := 3) rfl (by decide) (by decide) (by decide) (by decide) all0 ?_
  intro T1 h1_ v2 s3 H1 Q4
  obtain ⟨a5, k6, rfl, rfl, K7, g8, F9, F10⟩ := Q4
  have na5 : n0 ≤ a5 := Nat.le_trans H.le g8
  show Go p e below _ (T1.setTop (mkF m 3 #[.val (.ref p0), .unset, .unset, .unset, .unset] [(.ref a5)]))
  refine G.astoreN H1 (L' := #[.val (.ref p0), .val (.ref a5), .unset, .unset, .unset]) D10_3 (pc' := 4) rfl rfl rfl ?_
  refine G.aloadN H1 D10_4 (pc' := 5) rfl rfl rfl ?_
  refine G.arrlen H1 F9 D10_5 (pc' := 6) rfl ?_
  refine G.istoreN H1 (L' := #[.val (.ref p0), .val (.ref a5), .val (.int 2), .unset, .unset]) D10_6 (pc' := 7) rfl rfl ?_
  refine G.iconst H1 D10_7 (pc' := 8) rfl (v := 0) rfl ?_
  refine G.istoreN H1 (L' := #[.val (.ref p0), .val (.ref a5), .val (.int 2), .val (.int 0), .unset]) D10_8 (pc' := 9) rfl rfl ?_
  refine G.iloadN H1 D10_9 (pc' := 10) rfl rfl ?_
  refine G.iloadN H1 D10_10 (pc' := 11) rfl rfl ?_
  refine G.icmpNo H1 D10_11 (pc' := 14) rfl (by decide) ?_
  refine G.aloadN H1 D10_14 (pc' := 15) rfl rfl rfl ?_
  refine G.iloadN H1 D10_15 (pc' := 16) rfl rfl ?_
  refine G.aaloadG H1 F9 rfl (j := 0) (v := (.ref uu1)) (by decide) rfl D10_16 (pc' := 17) rfl ?_
  refine G.astore H1 (L' := #[.val (.ref p0), .val (.ref a5), .val (.int 2), .val (.int 0), .val (.ref uu1)]) D10_17 (pc' := 19) rfl rfl rfl ?_
  refine G.aload H1 D10_19 (pc' := 21) rfl rfl rfl ?_
  have B11 := Fld.ext H1.old.2 (hv8 V)
  refine G.getF H1 (wd57 V) Via.refl B11 D10_21 (pc' := 24) rfl ?_
  intro T12 H13
  refine G.aloadN H13 D10_24 (pc' := 25) rfl rfl rfl ?_
  have B14 := Str.ext H13.old.2 (hv22 V)
  have F15 := (Str.keep f0 K7 nin0 nin0)
  refine G.strEq H13 (strwEq V) (wd2 V) (wd59 V) (wd60 V) (wd62 V) (wd61 V) B14 F15 (hv17 V) (hv18 V) (rest := []) (W := 0) rfl rfl D10_25 (pc' := 28) rfl (by decide) (by decide) (by decide) (by decide) ?_ ?_
  ·
    intro T16 H17 c18
    exact absurd c18 (by intro qq; simp at qq)
  ·
    intro T19 H20 c21
    refine G.ifYes H20 D10_28 (by decide) (by decide) (pc' := 34) rfl ?_
    refine G.iinc H20 (v := 1) (L' := #[.val (.ref p0), .val (.ref a5), .val (.int 2), .val (.int 1), .val (.ref uu1)]) D10_34 (pc' := 37) rfl rfl rfl rfl ?_
    refine G.goto H20 D10_37 (by decide) (pc' := 9) rfl ?_
    show Go p e below _ (T19.setTop (mkF m 9 #[.val (.ref p0), .val (.ref a5), .val (.int 2), .val (.int 1), .val (.ref uu1)] []))
    refine G.iloadN H20 D10_9 (pc' := 10) rfl rfl ?_
    refine G.iloadN H20 D10_10 (pc' := 11) rfl rfl ?_
    refine G.icmpNo H20 D10_11 (pc' := 14) rfl (by decide) ?_
    refine G.aloadN H20 D10_14 (pc' := 15) rfl rfl rfl ?_
    refine G.iloadN H20 D10_15 (pc' := 16) rfl rfl ?_
    refine G.aaloadG H20 F9 rfl (j := 1) (v := (.ref uu2)) (by decide) rfl D10_16 (pc' := 17) rfl ?_
    refine G.astore H20 (L' := #[.val (.ref p0), .val (.ref a5), .val (.int 2), .val (.int 1), .val (.ref uu2)]) D10_17 (pc' := 19) rfl rfl rfl ?_
    refine G.aload H20 D10_19 (pc' := 21) rfl rfl rfl ?_
    have B22 := Fld.ext H20.old.2 (hv6 V)
    refine G.getF H20 (wd57 V) Via.refl B22 D10_21 (pc' := 24) rfl ?_
    intro T23 H24
    refine G.aloadN H24 D10_24 (pc' := 25) rfl rfl rfl ?_
    have B25 := Str.ext H24.old.2 (hv21 V)
    refine G.strEq H24 (strwEq V) (wd2 V) (wd59 V) (wd60 V) (wd62 V) (wd61 V) B25 F15 (hv17 V) (hv18 V) (rest := []) (W := 0) rfl rfl D10_25 (pc' := 28) rfl (by decide) (by decide) (by decide) (by decide) ?_ ?_
    ·
      intro T26 H27 c28
      exact absurd c28 (by intro qq; simp at qq)
    ·
      intro T29 H30 c31
      refine G.ifYes H30 D10_28 (by decide) (by decide) (pc' := 34) rfl ?_
      refine G.iinc H30 (v := 2) (L' := #[.val (.ref p0), .val (.ref a5), .val (.int 2), .val (.int 2), .val (.ref uu2)]) D10_34 (pc' := 37) rfl rfl rfl rfl ?_
      refine G.goto H30 D10_37 (by decide) (pc' := 9) rfl ?_
      show Go p e below _ (T29.setTop (mkF m 9 #[.val (.ref p0), .val (.ref a5), .val (.int 2), .val (.int 2), .val (.ref uu2)] []))
      refine G.iloadN H30 D10_9 (pc' := 10) rfl rfl ?_
      refine G.iloadN H30 D10_10 (pc' := 11) rfl rfl ?_
      refine G.icmpYes H30 D10_11 (by decide) (by decide) (pc' := 40) rfl ?_
      refine G.aconstNull H30 D10_40 (pc' := 41) rfl ?_
      have K32 : Keep h0 h1_ [] := (Keep.trans (Keep.refl h0 []) K7 all0)
      exact G.retA H30 (t := (.object "bindery/bindings/BindingType")) rfl rfl rfl D10_41 (so := []) all0 (by decide) (by decide) ⟨rfl, rfl, K32⟩
set_option maxRecDepth 65536 in
set_option maxHeartbeats 40000000 in
theorem m63_named (V : Env1 Z a0 n0 uu0 uu1 uu2 uu3 uu4 uu5 uu6 uu7 uu8 uu9 uu10 uu11) (p0 : Addr) (p1 : Addr) (c0 : ClassId) (x0 : Int32) (h0 : Heap) (hO : Old Z n0 h0) (f0 : Str Z h0 p0 p1 c0 [x0, 100, 105, 114, 101, 99, 116, 111, 114, 121, 45, 105, 110]) :
    Met Z a0 ELs True n0 l (⟨"bindery/bindings/BindingType", "named", "(Ljava/lang/String;)Lbindery/bindings/BindingType;"⟩ : MethodName) prog_4_method_4_code 5 (Option.some (FieldType.object "bindery/bindings/BindingType")) ({ frames := 2, cells := 1, slots := 2, locals := 28 } : Room) #[(.ref p0)] h0 [] (fun v h so => (v = some .null ∧ so = [] ∧ Keep h0 h [])) := by
  refine Met.of (EWl V) (by first | decide +kernel | rfl) hO (L0 := #[.val (.ref p0), .unset, .unset, .unset, .unset]) rfl ?_
  intro p e s m below meth c T H
  show Go p e below _ (T.setTop (mkF m 0 #[.val (.ref p0), .unset, .unset, .unset, .unset] []))
  refine G.callS H (m2_values V h0 H.old) (wd41 V) (wd42 V) (wd36 V) (wd43 V) (by decide) (argsL := []) (rest := []) (W := 0) rfl rfl (lenOf (pd_1) rfl) rfl rfl D10_0 (pc' := 3) rfl (by decide) (by decide) (by decide) (by decide) all0 ?_
  intro T1 h1_ v2 s3 H1 Q4
  obtain ⟨a5, k6, rfl, rfl, K7, g8, F9, F10⟩ := Q4
  have na5 : n0 ≤ a5 := Nat.le_trans H.le g8
  show Go p e below _ (T1.setTop (mkF m 3 #[.val (.ref p0), .unset, .unset, .unset, .unset] [(.ref a5)]))
  refine G.astoreN H1 (L' := #[.val (.ref p0), .val (.ref a5), .unset, .unset, .unset]) D10_3 (pc' := 4) rfl rfl rfl ?_
  refine G.aloadN H1 D10_4 (pc' := 5) rfl rfl rfl ?_
  refine G.arrlen H1 F9 D10_5 (pc' := 6) rfl ?_
  refine G.istoreN H1 (L' := #[.val (.ref p0), .val (.ref a5), .val (.int 2), .unset, .unset]) D10_6 (pc' := 7) rfl rfl ?_
  refine G.iconst H1 D10_7 (pc' := 8) rfl (v := 0) rfl ?_
  refine G.istoreN H1 (L' := #[.val (.ref p0), .val (.ref a5), .val (.int 2), .val (.int 0), .unset]) D10_8 (pc' := 9) rfl rfl ?_
  refine G.iloadN H1 D10_9 (pc' := 10) rfl rfl ?_
  refine G.iloadN H1 D10_10 (pc' := 11) rfl rfl ?_
  refine G.icmpNo H1 D10_11 (pc' := 14) rfl (by decide) ?_
  refine G.aloadN H1 D10_14 (pc' := 15) rfl rfl rfl ?_
  refine G.iloadN H1 D10_15 (pc' := 16) rfl rfl ?_
  refine G.aaloadG H1 F9 rfl (j := 0) (v := (.ref uu1)) (by decide) rfl D10_16 (pc' := 17) rfl ?_
  refine G.astore H1 (L' := #[.val (.ref p0), .val (.ref a5), .val (.int 2), .val (.int 0), .val (.ref uu1)]) D10_17 (pc' := 19) rfl rfl rfl ?_
  refine G.aload H1 D10_19 (pc' := 21) rfl rfl rfl ?_
  have B11 := Fld.ext H1.old.2 (hv8 V)
  refine G.getF H1 (wd57 V) Via.refl B11 D10_21 (pc' := 24) rfl ?_
  intro T12 H13
  refine G.aloadN H13 D10_24 (pc' := 25) rfl rfl rfl ?_
  have B14 := Str.ext H13.old.2 (hv22 V)
  have F15 := (Str.keep f0 K7 nin0 nin0)
  refine G.strEq H13 (strwEq V) (wd2 V) (wd59 V) (wd60 V) (wd62 V) (wd61 V) B14 F15 (hv17 V) (hv18 V) (rest := []) (W := 0) rfl rfl D10_25 (pc' := 28) rfl (by decide) (by decide) (by decide) (by decide) ?_ ?_
  ·
    intro T16 H17 c18
    exact absurd c18 (by intro qq; simp at qq)
  ·
    intro T19 H20 c21
    refine G.ifYes H20 D10_28 (by decide) (by decide) (pc' := 34) rfl ?_
    refine G.iinc H20 (v := 1) (L' := #[.val (.ref p0), .val (.ref a5), .val (.int 2), .val (.int 1), .val (.ref uu1)]) D10_34 (pc' := 37) rfl rfl rfl rfl ?_
    refine G.goto H20 D10_37 (by decide) (pc' := 9) rfl ?_
    show Go p e below _ (T19.setTop (mkF m 9 #[.val (.ref p0), .val (.ref a5), .val (.int 2), .val (.int 1), .val (.ref uu1)] []))
    refine G.iloadN H20 D10_9 (pc' := 10) rfl rfl ?_
    refine G.iloadN H20 D10_10 (pc' := 11) rfl rfl ?_
    refine G.icmpNo H20 D10_11 (pc' := 14) rfl (by decide) ?_
    refine G.aloadN H20 D10_14 (pc' := 15) rfl rfl rfl ?_
    refine G.iloadN H20 D10_15 (pc' := 16) rfl rfl ?_
    refine G.aaloadG H20 F9 rfl (j := 1) (v := (.ref uu2)) (by decide) rfl D10_16 (pc' := 17) rfl ?_
    refine G.astore H20 (L' := #[.val (.ref p0), .val (.ref a5), .val (.int 2), .val (.int 1), .val (.ref uu2)]) D10_17 (pc' := 19) rfl rfl rfl ?_
    refine G.aload H20 D10_19 (pc' := 21) rfl rfl rfl ?_
    have B22 := Fld.ext H20.old.2 (hv6 V)
    refine G.getF H20 (wd57 V) Via.refl B22 D10_21 (pc' := 24) rfl ?_
    intro T23 H24
    refine G.aloadN H24 D10_24 (pc' := 25) rfl rfl rfl ?_
    have B25 := Str.ext H24.old.2 (hv21 V)
    refine G.strEq H24 (strwEq V) (wd2 V) (wd59 V) (wd60 V) (wd62 V) (wd61 V) B25 F15 (hv17 V) (hv18 V) (rest := []) (W := 0) rfl rfl D10_25 (pc' := 28) rfl (by decide) (by decide) (by decide) (by decide) ?_ ?_
    ·
      intro T26 H27 c28
      exact absurd c28 (by intro qq; simp at qq)
    ·
      intro T29 H30 c31
      refine G.ifYes H30 D10_28 (by decide) (by decide) (pc' := 34) rfl ?_
      refine G.iinc H30 (v := 2) (L' := #[.val (.ref p0), .val (.ref a5), .val (.int 2), .val (.int 2), .val (.ref uu2)]) D10_34 (pc' := 37) rfl rfl rfl rfl ?_
      refine G.goto H30 D10_37 (by decide) (pc' := 9) rfl ?_
      show Go p e below _ (T29.setTop (mkF m 9 #[.val (.ref p0), .val (.ref a5), .val (.int 2), .val (.int 2), .val (.ref uu2)] []))
      refine G.iloadN H30 D10_9 (pc' := 10) rfl rfl ?_
      refine G.iloadN H30 D10_10 (pc' := 11) rfl rfl ?_
      refine G.icmpYes H30 D10_11 (by decide) (by decide) (pc' := 40) rfl ?_
      refine G.aconstNull H30 D10_40 (pc' := 41) rfl ?_
      have K32 : Keep h0 h1_ [] := (Keep.trans (Keep.refl h0 []) K7 all0)
      exact G.retA H30 (t := (.object "bindery/bindings/BindingType")) rfl rfl rfl D10_41 (so := []) all0 (by decide) (by decide) ⟨rfl, rfl, K32⟩
set_option maxRecDepth 65536 in
set_option maxHeartbeats 40000000 in
theorem m64_equals (V : Env1 Z a0 n0 uu0 uu1 uu2 uu3 uu4 uu5 uu6 uu7 uu8 uu9 uu10 uu11)  (h0 : Heap) (hO : Old Z n0 h0)  :
    Met Z a0 ELs True n0 l (⟨"java/lang/String", "equals", "(Ljava/lang/Object;)Z"⟩ : MethodName) jdk_42_method_66_code 3 (Option.some FieldType.boolean) ({ frames := 0, cells := 0, slots := 0, locals := 0 } : Room) #[(.ref uu4), .null] h0 [] (fun v h so => (v = some (.int 0) ∧ so = [] ∧ h0 = h)) := by
  refine Met.of (EWl V) (by first | decide +kernel | rfl) hO (L0 := #[.val (.ref uu4), .val .null, .unset]) rfl ?_
  intro p e s m below meth c T H
  show Go p e below _ (T.setTop (mkF m 0 #[.val (.ref uu4), .val .null, .unset] []))
  refine G.aloadN H D4_0 (pc' := 1) rfl rfl rfl ?_
  refine G.aloadN H D4_1 (pc' := 2) rfl rfl rfl ?_
  refine G.acmpYes H D4_2 rfl rfl (XT.aa_ne_t (fun q => nomatch q)) (by decide) (pc' := 7) rfl ?_
  refine G.aloadN H D4_7 (pc' := 8) rfl rfl rfl ?_
  refine G.instN H D4_8 (pc' := 11) rfl ?_
  refine G.ifYes H D4_11 (by decide) (by decide) (pc' := 54) rfl ?_
  refine G.iconst H D4_54 (pc' := 55) rfl (v := 0) rfl ?_
  exact G.retN H (t := .boolean) rfl (by decide) D4_55 (so := []) all0 (by decide) (by decide) ⟨rfl, rfl, rfl⟩
set_option maxRecDepth 65536 in
set_option maxHeartbeats 40000000 in
theorem m65_equals (V : Env1 Z a0 n0 uu0 uu1 uu2 uu3 uu4 uu5 uu6 uu7 uu8 uu9 uu10 uu11)  (h0 : Heap) (hO : Old Z n0 h0)  :
    Met Z a0 ELs True n0 l (⟨"java/lang/String", "equals", "(Ljava/lang/Object;)Z"⟩ : MethodName) jdk_42_method_66_code 3 (Option.some FieldType.boolean) ({ frames := 0, cells := 0, slots := 0, locals := 0 } : Room) #[(.ref uu3), .null] h0 [] (fun v h so => (v = some (.int 0) ∧ so = [] ∧ h0 = h)) := by
  refine Met.of (EWl V) (by first | decide +kernel | rfl) hO (L0 := #[.val (.ref uu3), .val .null, .unset]) rfl ?_
  intro p e s m below meth c T H
  show Go p e below _ (T.setTop (mkF m 0 #[.val (.ref uu3), .val .null, .unset] []))
  refine G.aloadN H D4_0 (pc' := 1) rfl rfl rfl ?_
  refine G.aloadN H D4_1 (pc' := 2) rfl rfl rfl ?_
  refine G.acmpYes H D4_2 rfl rfl (XT.aa_ne_t (fun q => nomatch q)) (by decide) (pc' := 7) rfl ?_
  refine G.aloadN H D4_7 (pc' := 8) rfl rfl rfl ?_
  refine G.instN H D4_8 (pc' := 11) rfl ?_
  refine G.ifYes H D4_11 (by decide) (by decide) (pc' := 54) rfl ?_
  refine G.iconst H D4_54 (pc' := 55) rfl (v := 0) rfl ?_
  exact G.retN H (t := .boolean) rfl (by decide) D4_55 (so := []) all0 (by decide) (by decide) ⟨rfl, rfl, rfl⟩
set_option maxRecDepth 65536 in
set_option maxHeartbeats 40000000 in
theorem m66_named (V : Env1 Z a0 n0 uu0 uu1 uu2 uu3 uu4 uu5 uu6 uu7 uu8 uu9 uu10 uu11)  (h0 : Heap) (hO : Old Z n0 h0)  :
    Met Z a0 ELs True n0 l (⟨"bindery/bindings/BindingType", "named", "(Ljava/lang/String;)Lbindery/bindings/BindingType;"⟩ : MethodName) prog_4_method_4_code 5 (Option.some (FieldType.object "bindery/bindings/BindingType")) ({ frames := 2, cells := 1, slots := 2, locals := 25 } : Room) #[.null] h0 [] (fun v h so => (v = some .null ∧ so = [] ∧ Keep h0 h [])) := by
  refine Met.of (EWl V) (by first | decide +kernel | rfl) hO (L0 := #[.val .null, .unset, .unset, .unset, .unset]) rfl ?_
  intro p e s m below meth c T H
  show Go p e below _ (T.setTop (mkF m 0 #[.val .null, .unset, .unset, .unset, .unset] []))
  refine G.callS H (m2_values V h0 H.old) (wd41 V) (wd42 V) (wd36 V) (wd43 V) (by decide) (argsL := []) (rest := []) (W := 0) rfl rfl (lenOf (pd_1) rfl) rfl rfl D10_0 (pc' := 3) rfl (by decide) (by decide) (by decide) (by decide) all0 ?_
  intro T1 h1_ v2 s3 H1 Q4
  obtain ⟨a5, k6, rfl, rfl, K7, g8, F9, F10⟩ := Q4
  have na5 : n0 ≤ a5 := Nat.le_trans H.le g8
  show Go p e below _ (T1.setTop (mkF m 3 #[.val .null, .unset, .unset, .unset, .unset] [(.ref a5)]))
  refine G.astoreN H1 (L' := #[.val .null, .val (.ref a5), .unset, .unset, .unset]) D10_3 (pc' := 4) rfl rfl rfl ?_
  refine G.aloadN H1 D10_4 (pc' := 5) rfl rfl rfl ?_
  refine G.arrlen H1 F9 D10_5 (pc' := 6) rfl ?_
  refine G.istoreN H1 (L' := #[.val .null, .val (.ref a5), .val (.int 2), .unset, .unset]) D10_6 (pc' := 7) rfl rfl ?_
  refine G.iconst H1 D10_7 (pc' := 8) rfl (v := 0) rfl ?_
  refine G.istoreN H1 (L' := #[.val .null, .val (.ref a5), .val (.int 2), .val (.int 0), .unset]) D10_8 (pc' := 9) rfl rfl ?_
  refine G.iloadN H1 D10_9 (pc' := 10) rfl rfl ?_
  refine G.iloadN H1 D10_10 (pc' := 11) rfl rfl ?_
  refine G.icmpNo H1 D10_11 (pc' := 14) rfl (by decide) ?_
  refine G.aloadN H1 D10_14 (pc' := 15) rfl rfl rfl ?_
  refine G.iloadN H1 D10_15 (pc' := 16) rfl rfl ?_
  refine G.aaloadG H1 F9 rfl (j := 0) (v := (.ref uu1)) (by decide) rfl D10_16 (pc' := 17) rfl ?_
  refine G.astore H1 (L' := #[.val .null, .val (.ref a5), .val (.int 2), .val (.int 0), .val (.ref uu1)]) D10_17 (pc' := 19) rfl rfl rfl ?_
  refine G.aload H1 D10_19 (pc' := 21) rfl rfl rfl ?_
  have B11 := Fld.ext H1.old.2 (hv8 V)
  refine G.getF H1 (wd57 V) Via.refl B11 D10_21 (pc' := 24) rfl ?_
  intro T12 H13
  refine G.aloadN H13 D10_24 (pc' := 25) rfl rfl rfl ?_
  have B18 := Exa.ext H13.old.2 (hv9 V)
  refine G.callV H13 (m64_equals V h1_ H13.old) (wd59 V) (wd60 V) (nf_sel (wd62 V)) (wd62 V) (wd61 V) (wd3 V) (wd63 V) (by decide) B18 (argsL := [.null]) (rest := []) (W := 0) rfl rfl (lenOf (pd_3) rfl) rfl rfl D10_25 (pc' := 28) rfl (by decide) (by decide) (by decide) (by decide) all0 ?_
  intro T14 h14_ v15 s16 H14 Q17
  obtain ⟨rfl, rfl, rfl⟩ := Q17
  show Go p e below _ (T14.setTop (mkF m 28 #[.val .null, .val (.ref a5), .val (.int 2), .val (.int 0), .val (.ref uu1)] [(.int 0)]))
  refine G.ifYes H14 D10_28 (by decide) (by decide) (pc' := 34) rfl ?_
  refine G.iinc H14 (v := 1) (L' := #[.val .null, .val (.ref a5), .val (.int 2), .val (.int 1), .val (.ref uu1)]) D10_34 (pc' := 37) rfl rfl rfl rfl ?_
  refine G.goto H14 D10_37 (by decide) (pc' := 9) rfl ?_
  show Go p e below _ (T14.setTop (mkF m 9 #[.val .null, .val (.ref a5), .val (.int 2), .val (.int 1), .val (.ref uu1)] []))
  refine G.iloadN H14 D10_9 (pc' := 10) rfl rfl ?_
  refine G.iloadN H14 D10_10 (pc' := 11) rfl rfl ?_
  refine G.icmpNo H14 D10_11 (pc' := 14) rfl (by decide) ?_
  refine G.aloadN H14 D10_14 (pc' := 15) rfl rfl rfl ?_
  refine G.iloadN H14 D10_15 (pc' := 16) rfl rfl ?_
  refine G.aaloadG H14 F9 rfl (j := 1) (v := (.ref uu2)) (by decide) rfl D10_16 (pc' := 17) rfl ?_
  refine G.astore H14 (L' := #[.val .null, .val (.ref a5), .val (.int 2), .val (.int 1), .val (.ref uu2)]) D10_17 (pc' := 19) rfl rfl rfl ?_
  refine G.aload H14 D10_19 (pc' := 21) rfl rfl rfl ?_
  have B19 := Fld.ext H14.old.2 (hv6 V)
  refine G.getF H14 (wd57 V) Via.refl B19 D10_21 (pc' := 24) rfl ?_
  intro T20 H21
  refine G.aloadN H21 D10_24 (pc' := 25) rfl rfl rfl ?_
  have B26 := Exa.ext H21.old.2 (hv7 V)
  refine G.callV H21 (m65_equals V h1_ H21.old) (wd59 V) (wd60 V) (nf_sel (wd62 V)) (wd62 V) (wd61 V) (wd3 V) (wd63 V) (by decide) B26 (argsL := [.null]) (rest := []) (W := 0) rfl rfl (lenOf (pd_3) rfl) rfl rfl D10_25 (pc' := 28) rfl (by decide) (by decide) (by decide) (by decide) all0 ?_
  intro T22 h22_ v23 s24 H22 Q25
  obtain ⟨rfl, rfl, rfl⟩ := Q25
  show Go p e below _ (T22.setTop (mkF m 28 #[.val .null, .val (.ref a5), .val (.int 2), .val (.int 1), .val (.ref uu2)] [(.int 0)]))
  refine G.ifYes H22 D10_28 (by decide) (by decide) (pc' := 34) rfl ?_
  refine G.iinc H22 (v := 2) (L' := #[.val .null, .val (.ref a5), .val (.int 2), .val (.int 2), .val (.ref uu2)]) D10_34 (pc' := 37) rfl rfl rfl rfl ?_
  refine G.goto H22 D10_37 (by decide) (pc' := 9) rfl ?_
  show Go p e below _ (T22.setTop (mkF m 9 #[.val .null, .val (.ref a5), .val (.int 2), .val (.int 2), .val (.ref uu2)] []))
  refine G.iloadN H22 D10_9 (pc' := 10) rfl rfl ?_
  refine G.iloadN H22 D10_10 (pc' := 11) rfl rfl ?_
  refine G.icmpYes H22 D10_11 (by decide) (by decide) (pc' := 40) rfl ?_
  refine G.aconstNull H22 D10_40 (pc' := 41) rfl ?_
  have K27 : Keep h0 h1_ [] := (Keep.trans (Keep.refl h0 []) K7 all0)
  exact G.retA H22 (t := (.object "bindery/bindings/BindingType")) rfl rfl rfl D10_41 (so := []) all0 (by decide) (by decide) ⟨rfl, rfl, K27⟩
set_option maxRecDepth 65536 in
set_option maxHeartbeats 40000000 in
theorem m67_init (V : Env1 Z a0 n0 uu0 uu1 uu2 uu3 uu4 uu5 uu6 uu7 uu8 uu9 uu10 uu11) (p0 : Addr) (p1 : Addr) (h0 : Heap) (hO : Old Z n0 h0) (f0 : Exa Z h0 p0 "java/lang/String") (f1 : Fld Z h0 p0 "java/lang/String" "value" "[B" .null) (g2 : n0 ≤ p0) (f3 : Fld Z h0 p0 "java/lang/String" "coder" "B" (.int 0)) :
    Met Z a0 ELs True n0 l (⟨"java/lang/String", "<init>", "([CIILjava/lang/Void;)V"⟩ : MethodName) jdk_42_method_149_code 6 (Option.none : Option FieldType) ({ frames := 1, cells := 4, slots := 8, locals := 12 } : Room) #[(.ref p0), (.ref p1), (.int 0), (.int 0), .null] h0 [p0] (fun v h so => (∃ b6 : Addr, ∃ k7 : ClassId, v = none ∧ so = [] ∧ Keep h0 h [p0] ∧ (∀ (O n d : String) (w : Value), Fld Z h0 p0 O n d w → RoadKit.slotOf Z O n d ≠ RoadKit.slotOf Z "java/lang/String" "value" "[B" → RoadKit.slotOf Z O n d ≠ RoadKit.slotOf Z "java/lang/String" "coder" "B" → Fld Z h p0 O n d w) ∧ Exa Z h p0 "java/lang/String" ∧ Fld Z h p0 "java/lang/String" "value" "[B" (.ref b6) ∧ Fld Z h p0 "java/lang/String" "coder" "B" (.int 0) ∧ Arv Z h b6 k7 .byte 0 [] (.int 0))) := by
  refine Met.of (EWl V) (by first | decide +kernel | rfl) hO (L0 := #[.val (.ref p0), .val (.ref p1), .val (.int 0), .val (.int 0), .val .null, .unset]) rfl ?_
  intro p e s m below meth c T H
  show Go p e below _ (T.setTop (mkF m 0 #[.val (.ref p0), .val (.ref p1), .val (.int 0), .val (.int 0), .val .null, .unset] []))
  refine G.aloadN H D1_0 (pc' := 1) rfl rfl rfl ?_
  refine G.initO H (wd16 V) (wd17 V) (wd18 V) rfl D1_1 (pc' := 4) rfl (by decide) (W := 0) rfl (by decide) ?_
  intro T1 H2
  refine G.iloadN H2 D1_4 (pc' := 5) rfl rfl ?_
  refine G.ifNo H2 D1_5 (pc' := 8) rfl (by decide) ?_
  refine G.aloadN H2 D1_8 (pc' := 9) rfl rfl rfl ?_
  refine G.ldcS H2 trivial (wS V) (wd76 V) (by decide) (vs := []) (z := 0) (by decide) (by decide) rfl (n := 0) (by decide) (by decide) (by decide) (by decide) D1_9 (pc' := 11) rfl ?_
  intro T3 h3_ a4 b6 k7 H3 E5 X8 F9 F10 A11 Q12
  have S13 : Str Z h3_ a4 b6 k7 [] := ⟨X8, F9, F10, A11, by decide, by decide⟩
  refine G.getF H3 (wd33 V) Via.refl F10 D1_11 (pc' := 14) rfl ?_
  intro T14 H15
  have F16 := (Exa.ext E5 f0)
  have F17 := (Fld.ext E5 f1)
  refine G.putF H15 (wd33 V) Via.refl F17 F16 (Or.inr ⟨(wd34 V), rfl, rfl⟩) (wd2 V) (ty := (.array .byte)) (by decide) rfl rfl g2 (Sf.mem (mG (i := 0) rfl)) D1_14 (pc' := 17) rfl ?_
  intro T18 h18_ H18 W19
  have F20 : Fld Z h18_ p0 "java/lang/String" "value" "[B" (.ref b6) := Fld.same W19 F17
  refine G.aloadN H18 D1_17 (pc' := 18) rfl rfl rfl ?_
  refine G.ldcS H18 trivial (wS V) (wd76 V) (by decide) (vs := []) (z := 0) (by decide) (by decide) rfl (n := 0) (by decide) (by decide) (by decide) (by decide) D1_18 (pc' := 20) rfl ?_
  intro T21 h21_ a22 b24 k25 H21 E23 X26 F27 F28 A29 Q30
  have S31 : Str Z h21_ a22 b24 k25 [] := ⟨X26, F27, F28, A29, by decide, by decide⟩
  refine G.getF H21 (wd31 V) Via.refl F27 D1_20 (pc' := 23) rfl ?_
  intro T32 H33
  have K34 : Keep h3_ h21_ [p0] := (Keep.ext (Keep.wr (Keep.refl h3_ [p0]) W19 (Or.inl (mG (i := 0) rfl))) E23)
  have F35 := (Exa.keep F16 K34)
  have F36 := (Fld.ext E23 (Fld.other W19 (Fld.ext E5 f3) (Or.inr (slot_ne (Or.inr (wd32 V)) (Or.inr (wd34 V)) (by decide) (t := .byte) (t' := (.array .byte)) (by decide) (by decide)))))
  refine G.putF H33 (wd31 V) Via.refl F36 F35 (Or.inr ⟨(wd32 V), rfl, rfl⟩) (wd2 V) (ty := .byte) (by decide) rfl rfl g2 (Sf.mem (mG (i := 0) rfl)) D1_23 (pc' := 26) rfl ?_
  intro T37 h37_ H37 W38
  have F39 : Fld Z h37_ p0 "java/lang/String" "coder" "B" (.int 0) := Fld.same W38 F36
  have F40 := (Exa.wr W38 F35)
  have F41 := (Fld.other W38 (Fld.ext E23 F20) (Or.inr (slot_ne (Or.inr (wd34 V)) (Or.inr (wd32 V)) (by decide) (t := (.array .byte)) (t' := .byte) (by decide) (by decide))))
  have K42 : Keep h3_ h37_ [p0] := (Keep.wr (Keep.ext (Keep.wr (Keep.refl h3_ [p0]) W19 (Or.inl (mG (i := 0) rfl))) E23) W38 (Or.inl (mG (i := 0) rfl)))
  have F43 := (Arv.keep A11 K42 (ninS (Ne.symm (Q12 _ (mG (i := 0) rfl)).2) nin0))
  have K44 : Keep h0 h37_ [p0] := (Keep.wr (Keep.ext (Keep.wr (Keep.ext (Keep.refl h0 [p0]) E5) W19 (Or.inl (mG (i := 0) rfl))) E23) W38 (Or.inl (mG (i := 0) rfl)))
  exact G.retV H37 rfl D1_26 (so := []) all0 (by decide) (by decide) ⟨b6, k7, rfl, rfl, K44, (fun O n d w F hn0 hn1 => (Fld.other W38 (Fld.ext E23 (Fld.other W19 (Fld.ext E5 F) (Or.inr hn0))) (Or.inr hn1))), F40, F41, F39, F43⟩
set_option maxRecDepth 65536 in
set_option maxHeartbeats 40000000 in
theorem m68_init (V : Env1 Z a0 n0 uu0 uu1 uu2 uu3 uu4 uu5 uu6 uu7 uu8 uu9 uu10 uu11) (p0 : Addr) (p1 : Addr) (c0 : ClassId) (h0 : Heap) (hO : Old Z n0 h0) (f0 : Arv Z h0 p1 c0 .char 0 [] (.int 0)) (f1 : Exa Z h0 p0 "java/lang/String") (f2 : Fld Z h0 p0 "java/lang/String" "value" "[B" .null) (g3 : n0 ≤ p0) (f4 : Fld Z h0 p0 "java/lang/String" "coder" "B" (.int 0)) :
    Met Z a0 ELs True n0 l (⟨"java/lang/String", "<init>", "([C)V"⟩ : MethodName) jdk_42_method_3_code 2 (Option.none : Option FieldType) ({ frames := 2, cells := 4, slots := 8, locals := 29 } : Room) #[(.ref p0), (.ref p1)] h0 [p0] (fun v h so => (∃ a5 : Addr, ∃ k6 : ClassId, v = none ∧ so = [] ∧ Keep h0 h [p0] ∧ (∀ (O n d : String) (w : Value), Fld Z h0 p0 O n d w → RoadKit.slotOf Z O n d ≠ RoadKit.slotOf Z "java/lang/String" "value" "[B" → RoadKit.slotOf Z O n d ≠ RoadKit.slotOf Z "java/lang/String" "coder" "B" → Fld Z h p0 O n d w) ∧ Exa Z h p0 "java/lang/String" ∧ Fld Z h p0 "java/lang/String" "value" "[B" (.ref a5) ∧ Fld Z h p0 "java/lang/String" "coder" "B" (.int 0) ∧ Arv Z h a5 k6 .byte 0 [] (.int 0))) := by
  refine Met.of (EWl V) (by first | decide +kernel | rfl) hO (L0 := #[.val (.ref p0), .val (.ref p1)]) rfl ?_
  intro p e s m below meth c T H
  show Go p e below _ (T.setTop (mkF m 0 #[.val (.ref p0), .val (.ref p1)] []))
  refine G.aloadN H D3_0 (pc' := 1) rfl rfl rfl ?_
  refine G.aloadN H D3_1 (pc' := 2) rfl rfl rfl ?_
  refine G.iconst H D3_2 (pc' := 3) rfl (v := 0) rfl ?_
  refine G.aloadN H D3_3 (pc' := 4) rfl rfl rfl ?_
  refine G.arrlen H f0 D3_4 (pc' := 5) rfl ?_
  refine G.aconstNull H D3_5 (pc' := 6) rfl ?_
  refine G.callI H (m67_init V p0 p1 h0 H.old f1 f2 g3 f4) rfl (wd12 V) (wd13 V) (wd3 V) (wd15 V) (by decide) (a := p0) (argsL := [(.ref p1), (.int 0), (.int 0), .null]) (rest := []) (W := 0) rfl rfl (lenOf (pd_4) rfl) rfl rfl D3_6 (pc' := 9) rfl (by decide) (by decide) (by decide) (by decide) (allS (mG (i := 0) rfl) all0) ?_
  intro T1 h1_ v2 s3 H1 Q4
  obtain ⟨a5, k6, rfl, rfl, K7, U8, F9, F10, F11, F12⟩ := Q4
  show Go p e below _ (T1.setTop (mkF m 9 #[.val (.ref p0), .val (.ref p1)] []))
  have K13 : Keep h0 h1_ [p0] := (Keep.trans (Keep.refl h0 [p0]) K7 (allS (Or.inl (mG (i := 0) rfl)) all0))
  exact G.retV H1 rfl D3_9 (so := []) all0 (by decide) (by decide) ⟨a5, k6, rfl, rfl, K13, (fun O n d w F hn0 hn1 => (U8 O n d w F hn0 hn1)), F9, F10, F11, F12⟩
set_option maxRecDepth 65536 in
set_option maxHeartbeats 40000000 in
theorem m69_named (V : Env1 Z a0 n0 uu0 uu1 uu2 uu3 uu4 uu5 uu6 uu7 uu8 uu9 uu10 uu11) (p0 : Addr) (p1 : Addr) (c0 : ClassId) (h0 : Heap) (hO : Old Z n0 h0) (f0 : Str Z h0 p0 p1 c0 []) :
    Met Z a0 ELs True n0 l (⟨"bindery/bindings/BindingType", "named", "(Ljava/lang/String;)Lbindery/bindings/BindingType;"⟩ : MethodName) prog_4_method_4_code 5 (Option.some (FieldType.object "bindery/bindings/BindingType")) ({ frames := 2, cells := 1, slots := 2, locals := 28 } : Room) #[(.ref p0)] h0 [] (fun v h so => (v = some .null ∧ so = [] ∧ Keep h0 h [])) := by
  refine Met.of (EWl V) (by first | decide +kernel | rfl) hO (L0 := #[.val (.ref p0), .unset, .unset, .unset, .unset]) rfl ?_
  intro p e s m below meth c T H
  show Go p e below _ (T.setTop (mkF m 0 #[.val (.ref p0), .unset, .unset, .unset, .unset] []))
  refine G.callS H (m2_values V h0 H.old) (wd41 V) (wd42 V) (wd36 V) (wd43 V) (by decide) (argsL := []) (rest := []) (W := 0) rfl rfl (lenOf (pd_1) rfl) rfl rfl D10_0 (pc' := 3) rfl (by decide) (by decide) (by decide) (by decide) all0 ?_
  intro T1 h1_ v2 s3 H1 Q4
  obtain ⟨a5, k6, rfl, rfl, K7, g8, F9, F10⟩ := Q4
  have na5 : n0 ≤ a5 := Nat.le_trans H.le g8
  show Go p e below _ (T1.setTop (mkF m 3 #[.val (.ref p0), .unset, .unset, .unset, .unset] [(.ref a5)]))
  refine G.astoreN H1 (L' := #[.val (.ref p0), .val (.ref a5), .unset, .unset, .unset]) D10_3 (pc' := 4) rfl rfl rfl ?_
  refine G.aloadN H1 D10_4 (pc' := 5) rfl rfl rfl ?_
  refine G.arrlen H1 F9 D10_5 (pc' := 6) rfl ?_
  refine G.istoreN H1 (L' := #[.val (.ref p0), .val (.ref a5), .val (.int 2), .unset, .unset]) D10_6 (pc' := 7) rfl rfl ?_
  refine G.iconst H1 D10_7 (pc' := 8) rfl (v := 0) rfl ?_
  refine G.istoreN H1 (L' := #[.val (.ref p0), .val (.ref a5), .val (.int 2), .val (.int 0), .unset]) D10_8 (pc' := 9) rfl rfl ?_
  refine G.iloadN H1 D10_9 (pc' := 10) rfl rfl ?_
  refine G.iloadN H1 D10_10 (pc' := 11) rfl rfl ?_
  refine G.icmpNo H1 D10_11 (pc' := 14) rfl (by decide) ?_
  refine G.aloadN H1 D10_14 (pc' := 15) rfl rfl rfl ?_
  refine G.iloadN H1 D10_15 (pc' := 16) rfl rfl ?_
  refine G.aaloadG H1 F9 rfl (j := 0) (v := (.ref uu1)) (by decide) rfl D10_16 (pc' := 17) rfl ?_
  refine G.astore H1 (L' := #[.val (.ref p0), .val (.ref a5), .val (.int 2), .val (.int 0), .val (.ref uu1)]) D10_17 (pc' := 19) rfl rfl rfl ?_
  refine G.aload H1 D10_19 (pc' := 21) rfl rfl rfl ?_
  have B11 := Fld.ext H1.old.2 (hv8 V)
  refine G.getF H1 (wd57 V) Via.refl B11 D10_21 (pc' := 24) rfl ?_
  intro T12 H13
  refine G.aloadN H13 D10_24 (pc' := 25) rfl rfl rfl ?_
  have B14 := Str.ext H13.old.2 (hv22 V)
  have F15 := (Str.keep f0 K7 nin0 nin0)
  refine G.strEq H13 (strwEq V) (wd2 V) (wd59 V) (wd60 V) (wd62 V) (wd61 V) B14 F15 (hv17 V) (hv18 V) (rest := []) (W := 0) rfl rfl D10_25 (pc' := 28) rfl (by decide) (by decide) (by decide) (by decide) ?_ ?_
  ·
    intro T16 H17 c18
    exact absurd c18 (by intro qq; simp at qq)
  ·
    intro T19 H20 c21
    refine G.ifYes H20 D10_28 (by decide) (by decide) (pc' := 34) rfl ?_
    refine G.iinc H20 (v := 1) (L' := #[.val (.ref p0), .val (.ref a5), .val (.int 2), .val (.int 1), .val (.ref uu1)]) D10_34 (pc' := 37) rfl rfl rfl rfl ?_
    refine G.goto H20 D10_37 (by decide) (pc' := 9) rfl ?_
    show Go p e below _ (T19.setTop (mkF m 9 #[.val (.ref p0), .val (.ref a5), .val (.int 2), .val (.int 1), .val (.ref uu1)] []))
    refine G.iloadN H20 D10_9 (pc' := 10) rfl rfl ?_
    refine G.iloadN H20 D10_10 (pc' := 11) rfl rfl ?_
    refine G.icmpNo H20 D10_11 (pc' := 14) rfl (by decide) ?_
    refine G.aloadN H20 D10_14 (pc' := 15) rfl rfl rfl ?_
    refine G.iloadN H20 D10_15 (pc' := 16) rfl rfl ?_
    refine G.aaloadG H20 F9 rfl (j := 1) (v := (.ref uu2)) (by decide) rfl D10_16 (pc' := 17) rfl ?_
    refine G.astore H20 (L' := #[.val (.ref p0), .val (.ref a5), .val (.int 2), .val (.int 1), .val (.ref uu2)]) D10_17 (pc' := 19) rfl rfl rfl ?_
    refine G.aload H20 D10_19 (pc' := 21) rfl rfl rfl ?_
    have B22 := Fld.ext H20.old.2 (hv6 V)
    refine G.getF H20 (wd57 V) Via.refl B22 D10_21 (pc' := 24) rfl ?_
    intro T23 H24
    refine G.aloadN H24 D10_24 (pc' := 25) rfl rfl rfl ?_
    have B25 := Str.ext H24.old.2 (hv21 V)
    refine G.strEq H24 (strwEq V) (wd2 V) (wd59 V) (wd60 V) (wd62 V) (wd61 V) B25 F15 (hv17 V) (hv18 V) (rest := []) (W := 0) rfl rfl D10_25 (pc' := 28) rfl (by decide) (by decide) (by decide) (by decide) ?_ ?_
    ·
      intro T26 H27 c28
      exact absurd c28 (by intro qq; simp at qq)
    ·
      intro T29 H30 c31
      refine G.ifYes H30 D10_28 (by decide) (by decide) (pc' := 34) rfl ?_
      refine G.iinc H30 (v := 2) (L' := #[.val (.ref p0), .val (.ref a5), .val (.int 2), .val (.int 2), .val (.ref uu2)]) D10_34 (pc' := 37) rfl rfl rfl rfl ?_
      refine G.goto H30 D10_37 (by decide) (pc' := 9) rfl ?_
      show Go p e below _ (T29.setTop (mkF m 9 #[.val (.ref p0), .val (.ref a5), .val (.int 2), .val (.int 2), .val (.ref uu2)] []))
      refine G.iloadN H30 D10_9 (pc' := 10) rfl rfl ?_
      refine G.iloadN H30 D10_10 (pc' := 11) rfl rfl ?_
      refine G.icmpYes H30 D10_11 (by decide) (by decide) (pc' := 40) rfl ?_
      refine G.aconstNull H30 D10_40 (pc' := 41) rfl ?_
      have K32 : Keep h0 h1_ [] := (Keep.trans (Keep.refl h0 []) K7 all0)
      exact G.retA H30 (t := (.object "bindery/bindings/BindingType")) rfl rfl rfl D10_41 (so := []) all0 (by decide) (by decide) ⟨rfl, rfl, K32⟩
set_option maxRecDepth 65536 in
set_option maxHeartbeats 40000000 in
theorem m70_canEncode (V : Env1 Z a0 n0 uu0 uu1 uu2 uu3 uu4 uu5 uu6 uu7 uu8 uu9 uu10 uu11) (x0 : Int32) (h0 : Heap) (hO : Old Z n0 h0) (r0 : ¬ x0 < 0 ∧ ¬ 255 < x0) :
    Met Z a0 ELs True n0 l (⟨"java/lang/StringLatin1", "canEncode", "(C)Z"⟩ : MethodName) jdk_43_method_3_code 1 (Option.some FieldType.boolean) ({ frames := 0, cells := 0, slots := 0, locals := 0 } : Room) #[(.int x0)] h0 [] (fun v h so => (v = some (.int 1) ∧ so = [] ∧ h0 = h)) := by
  refine Met.of (EWl V) (by first | decide +kernel | rfl) hO (L0 := #[.val (.int x0)]) rfl ?_
  intro p e s m below meth c T H
  show Go p e below _ (T.setTop (mkF m 0 #[.val (.int x0)] []))
  refine G.iloadN H D5_0 (pc' := 1) rfl rfl ?_
  refine G.sipush H D5_1 (pc' := 4) rfl (v := 255) rfl ?_
  refine G.icmpNo H D5_4 (pc' := 7) rfl (XT.ii_gt_f r0.2) ?_
  refine G.iconst H D5_7 (pc' := 8) rfl (v := 1) rfl ?_
  refine G.goto H D5_8 (by decide) (pc' := 12) rfl ?_
  exact G.retN H (t := .boolean) rfl (by decide) D5_12 (so := []) all0 (by decide) (by decide) ⟨rfl, rfl, rfl⟩
set_option maxRecDepth 65536 in
set_option maxHeartbeats 40000000 in
theorem m71_toBytes (V : Env1 Z a0 n0 uu0 uu1 uu2 uu3 uu4 uu5 uu6 uu7 uu8 uu9 uu10 uu11) (x0 : Int32) (h0 : Heap) (hO : Old Z n0 h0)  :
    Met Z a0 ELs True n0 l (⟨"java/lang/StringLatin1", "toBytes", "(C)[B"⟩ : MethodName) jdk_43_method_46_code 1 (Option.some (FieldType.array FieldType.byte)) ({ frames := 0, cells := 1, slots := 1, locals := 0 } : Room) #[(.int x0)] h0 [] (fun v h so => (∃ a2 : Addr, ∃ k5 : ClassId, v = some (.ref a2) ∧ so = [a2] ∧ Keep h0 h [] ∧ h0.size ≤ a2 ∧ Arv Z h a2 k5 .byte 1 [(.int (x0.toInt8.toInt32))] (.int 0) ∧ Exa Z h a2 "[B")) := by
  refine Met.of (EWl V) (by first | decide +kernel | rfl) hO (L0 := #[.val (.int x0)]) rfl ?_
  intro p e s m below meth c T H
  show Go p e below _ (T.setTop (mkF m 0 #[.val (.int x0)] []))
  refine G.iconst H D6_0 (pc' := 1) rfl (v := 1) rfl ?_
  refine G.newP H (aty := .byte) (wd24 V) D6_1 (pc' := 3) rfl (by decide) (cap := 1) (by decide) (by decide) (by decide) (by decide) (vs := [(.int 0)]) rfl (ad := "[B") rfl ?_
  intro T1 h1_ a2 k5 ga2 H1 E3 A4 X6
  have na2 := H.nle ga2
  replace A4 : Arv Z h1_ a2 k5 .byte 1 [(.int 0)] (.int 0) := A4
  refine G.dup H1 D6_3 (pc' := 4) rfl rfl ?_
  refine G.iconst H1 D6_4 (pc' := 5) rfl (v := 0) rfl ?_
  refine G.iloadN H1 D6_5 (pc' := 6) rfl rfl ?_
  refine G.i2b H1 D6_6 (pc' := 7) rfl ?_
  refine G.stB H1 A4 (by decide) (i := 0) rfl lB na2 (Sf.mem (mG (i := 0) rfl)) (y := (x0.toInt8.toInt32)) (own_narB _) D6_7 (pc' := 8) rfl ?_
  intro T7 h7_ H7 W8 A9
  replace A9 : Arv Z h7_ a2 k5 .byte 1 [(.int (x0.toInt8.toInt32))] (.int 0) := A9
  have F10 := (Exa.wr W8 X6)
  have K11 : Keep h0 h7_ [] := (Keep.wr (Keep.ext (Keep.refl h0 []) E3) W8 (Or.inr (Nat.le_of_eq ga2.symm)))
  exact G.retA H7 (t := (.array .byte)) rfl rfl rfl D6_8 (so := [a2]) (allS (mG (i := 0) rfl) all0) (by decide) (by decide) ⟨a2, k5, rfl, rfl, K11, (Nat.le_of_eq ga2.symm), A9, F10⟩
set_option maxRecDepth 65536 in
set_option maxHeartbeats 40000000 in
theorem m72_init (V : Env1 Z a0 n0 uu0 uu1 uu2 uu3 uu4 uu5 uu6 uu7 uu8 uu9 uu10 uu11) (p0 : Addr) (p1 : Addr) (h0 : Heap) (hO : Old Z n0 h0) (f0 : Exa Z h0 p0 "java/lang/String") (f1 : Fld Z h0 p0 "java/lang/String" "value" "[B" .null) (g2 : n0 ≤ p0) (f3 : Fld Z h0 p0 "java/lang/String" "coder" "B" (.int 0)) :
    Met Z a0 ELs True n0 l (⟨"java/lang/String", "<init>", "([BB)V"⟩ : MethodName) jdk_42_method_151_code 3 (Option.none : Option FieldType) ({ frames := 1, cells := 0, slots := 0, locals := 12 } : Room) #[(.ref p0), (.ref p1), (.int 0)] h0 [p0] (fun v h so => (v = none ∧ so = [] ∧ Keep h0 h [p0] ∧ (∀ (O n d : String) (w : Value), Fld Z h0 p0 O n d w → RoadKit.slotOf Z O n d ≠ RoadKit.slotOf Z "java/lang/String" "value" "[B" → RoadKit.slotOf Z O n d ≠ RoadKit.slotOf Z "java/lang/String" "coder" "B" → Fld Z h p0 O n d w) ∧ Exa Z h p0 "java/lang/String" ∧ Fld Z h p0 "java/lang/String" "value" "[B" (.ref p1) ∧ Fld Z h p0 "java/lang/String" "coder" "B" (.int 0))) := by
  refine Met.of (EWl V) (by first | decide +kernel | rfl) hO (L0 := #[.val (.ref p0), .val (.ref p1), .val (.int 0)]) rfl ?_
  intro p e s m below meth c T H
  show Go p e below _ (T.setTop (mkF m 0 #[.val (.ref p0), .val (.ref p1), .val (.int 0)] []))
  refine G.aloadN H D2_0 (pc' := 1) rfl rfl rfl ?_
  refine G.initO H (wd16 V) (wd17 V) (wd18 V) rfl D2_1 (pc' := 4) rfl (by decide) (W := 0) rfl (by decide) ?_
  intro T1 H2
  refine G.aloadN H2 D2_4 (pc' := 5) rfl rfl rfl ?_
  refine G.aloadN H2 D2_5 (pc' := 6) rfl rfl rfl ?_
  refine G.putF H2 (wd33 V) Via.refl f1 f0 (Or.inr ⟨(wd34 V), rfl, rfl⟩) (wd2 V) (ty := (.array .byte)) (by decide) rfl rfl g2 (Sf.mem (mG (i := 0) rfl)) D2_6 (pc' := 9) rfl ?_
  intro T3 h3_ H3 W4
  have F5 : Fld Z h3_ p0 "java/lang/String" "value" "[B" (.ref p1) := Fld.same W4 f1
  refine G.aloadN H3 D2_9 (pc' := 10) rfl rfl rfl ?_
  refine G.iloadN H3 D2_10 (pc' := 11) rfl rfl ?_
  have F6 := (Exa.wr W4 f0)
  have F7 := (Fld.other W4 f3 (Or.inr (slot_ne (Or.inr (wd32 V)) (Or.inr (wd34 V)) (by decide) (t := .byte) (t' := (.array .byte)) (by decide) (by decide))))
  refine G.putF H3 (wd31 V) Via.refl F7 F6 (Or.inr ⟨(wd32 V), rfl, rfl⟩) (wd2 V) (ty := .byte) (by decide) rfl rfl g2 (Sf.mem (mG (i := 0) rfl)) D2_11 (pc' := 14) rfl ?_
  intro T8 h8_ H8 W9
  have F10 : Fld Z h8_ p0 "java/lang/String" "coder" "B" (.int 0) := Fld.same W9 F7
  have F11 := (Exa.wr W9 F6)
  have F12 := (Fld.other W9 F5 (Or.inr (slot_ne (Or.inr (wd34 V)) (Or.inr (wd32 V)) (by decide) (t := (.array .byte)) (t' := .byte) (by decide) (by decide))))
  have K13 : Keep h0 h8_ [p0] := (Keep.wr (Keep.wr (Keep.refl h0 [p0]) W4 (Or.inl (mG (i := 0) rfl))) W9 (Or.inl (mG (i := 0) rfl)))
  exact G.retV H8 rfl D2_14 (so := []) all0 (by decide) (by decide) ⟨rfl, rfl, K13, (fun O n d w F hn0 hn1 => (Fld.other W9 (Fld.other W4 F (Or.inr hn0)) (Or.inr hn1))), F11, F12, F10⟩
set_option maxRecDepth 65536 in
set_option maxHeartbeats 40000000 in
theorem m73_valueOf (V : Env1 Z a0 n0 uu0 uu1 uu2 uu3 uu4 uu5 uu6 uu7 uu8 uu9 uu10 uu11) (x0 : Int32) (h0 : Heap) (hO : Old Z n0 h0) (r0 : ¬ x0 < 0 ∧ ¬ 255 < x0) :
    Met Z a0 ELs True n0 l (⟨"java/lang/String", "valueOf", "(C)Ljava/lang/String;"⟩ : MethodName) jdk_42_method_139_code 1 (Option.some (FieldType.object "java/lang/String")) ({ frames := 2, cells := 2, slots := 5, locals := 27 } : Room) #[(.int x0)] h0 [] (fun v h so => (∃ a8 a16 : Addr, ∃ k17 : ClassId, v = some (.ref a8) ∧ so = [a8, a16] ∧ Keep h0 h [] ∧ h0.size ≤ a8 ∧ a8 < a16 ∧ Exa Z h a8 "java/lang/String" ∧ Fld Z h a8 "java/lang/String" "value" "[B" (.ref a16) ∧ Fld Z h a8 "java/lang/String" "coder" "B" (.int 0) ∧ Arv Z h a16 k17 .byte 1 [(.int (x0.toInt8.toInt32))] (.int 0) ∧ Exa Z h a16 "[B")) := by
  refine Met.of (EWl V) (by first | decide +kernel | rfl) hO (L0 := #[.val (.int x0)]) rfl ?_
  intro p e s m below meth c T H
  show Go p e below _ (T.setTop (mkF m 0 #[.val (.int x0)] []))
  refine G.getS H (wd19 V) Via.refl (Sta.ext H.old.2 (hv17 V)) D0_0 (pc' := 3) rfl ?_
  intro T1 H2
  refine G.ifNo H2 D0_3 (pc' := 6) rfl (XT.i0_eq_f (hv18 V)) ?_
  refine G.iloadN H2 D0_6 (pc' := 7) rfl rfl ?_
  refine G.callS H2 (m70_canEncode V x0 h0 H2.old r0) (wd80 V) (wd81 V) (wd67 V) (wd82 V) (by decide) (argsL := [(.int x0)]) (rest := []) (W := 0) rfl rfl (lenOf (pd_6) rfl) rfl rfl D0_7 (pc' := 10) rfl (by decide) (by decide) (by decide) (by decide) all0 ?_
  intro T3 h3_ v4 s5 H3 Q6
  obtain ⟨rfl, rfl, rfl⟩ := Q6
  show Go p e below _ (T3.setTop (mkF m 10 #[.val (.int x0)] [(.int 1)]))
  refine G.ifNo H3 D0_10 (pc' := 13) rfl (by decide) ?_
  refine G.new H3 (wd64 V) (wd2 V) (wd3 V) D0_13 (pc' := 16) rfl (by decide) (by decide) ?_
  intro T7 h7_ a8 ga8 H7 E9 A10 D11
  have na8 := H3.nle ga8
  refine G.dup H7 D0_16 (pc' := 17) rfl rfl ?_
  refine G.iloadN H7 D0_17 (pc' := 18) rfl rfl ?_
  refine G.callS H7 (m71_toBytes V x0 h7_ H7.old) (wd83 V) (wd84 V) (wd67 V) (wd85 V) (by decide) (argsL := [(.int x0)]) (rest := [(.ref a8), (.ref a8)]) (W := 2) rfl rfl (lenOf (pd_7) rfl) rfl rfl D0_18 (pc' := 21) rfl (by decide) (by decide) (by decide) (by decide) all0 ?_
  intro T12 h12_ v13 s14 H12 Q15
  obtain ⟨a16, k17, rfl, rfl, K18, g19, F20, F21⟩ := Q15
  have na16 : n0 ≤ a16 := Nat.le_trans H7.le g19
  show Go p e below _ (T12.setTop (mkF m 21 #[.val (.int x0)] [(.ref a16), (.ref a8), (.ref a8)]))
  refine G.iconst H12 D0_21 (pc' := 22) rfl (v := 0) rfl ?_
  have F22 := (Exa.keep A10 K18)
  have F23 : Fld Z h7_ a8 "java/lang/String" "value" "[B" .null := D11 (Or.inr (wd34 V)) (ty := (.array .byte)) (by decide)
  have F24 := (Fld.keep F23 K18 nin0)
  have F25 : Fld Z h7_ a8 "java/lang/String" "coder" "B" (.int 0) := D11 (Or.inr (wd32 V)) (ty := .byte) (by decide)
  have F26 := (Fld.keep F25 K18 nin0)
  refine G.callI H12 (m72_init V a8 a16 h12_ H12.old F22 F24 na8 F26) rfl (wd86 V) (wd87 V) (wd3 V) (wd88 V) (by decide) (a := a8) (argsL := [(.ref a16), (.int 0)]) (rest := [(.ref a8)]) (W := 1) rfl rfl (lenOf (pd_8) rfl) rfl rfl D0_22 (pc' := 25) rfl (by decide) (by decide) (by decide) (by decide) (allS (mG (i := 1) rfl) all0) ?_
  intro T27 h27_ v28 s29 H27 Q30
  obtain ⟨rfl, rfl, K31, U32, F33, F34, F35⟩ := Q30
  show Go p e below _ (T27.setTop (mkF m 25 #[.val (.int x0)] [(.ref a8)]))
  have N36 : a16 ≠ a8 := (Ne.symm (Nat.ne_of_lt (Nat.lt_of_lt_of_le A10.lt g19)))
  have F37 := (Arv.keep F20 K31 (ninS N36 nin0))
  have F38 := (Exa.keep F21 K31)
  have K39 : Keep h0 h27_ [] := (Keep.trans (Keep.trans (Keep.ext (Keep.refl h0 []) E9) K18 all0) K31 (allS (Or.inr (Nat.le_of_eq ga8.symm)) all0))
  exact G.retA H27 (t := (.object "java/lang/String")) rfl rfl rfl D0_25 (so := [a8, a16]) (allS (mG (i := 1) rfl) (allS (mG (i := 0) rfl) all0)) (by decide) (by decide) ⟨a8, a16, k17, rfl, rfl, K39, (Nat.le_of_eq ga8.symm), (Nat.lt_of_lt_of_le A10.lt g19), F33, F34, F35, F37, F38⟩
set_option maxRecDepth 65536 in
set_option maxHeartbeats 40000000 in
theorem m74_named (V : Env1 Z a0 n0 uu0 uu1 uu2 uu3 uu4 uu5 uu6 uu7 uu8 uu9 uu10 uu11) (p0 : Addr) (p1 : Addr) (c0 : ClassId) (x0 : Int32) (h0 : Heap) (hO : Old Z n0 h0) (f0 : Str Z h0 p0 p1 c0 [x0]) :
    Met Z a0 ELs True n0 l (⟨"bindery/bindings/BindingType", "named", "(Ljava/lang/String;)Lbindery/bindings/BindingType;"⟩ : MethodName) prog_4_method_4_code 5 (Option.some (FieldType.object "bindery/bindings/BindingType")) ({ frames := 2, cells := 1, slots := 2, locals := 28 } : Room) #[(.ref p0)] h0 [] (fun v h so => (v = some .null ∧ so = [] ∧ Keep h0 h [])) := by
  refine Met.of (EWl V) (by first | decide +kernel | rfl) hO (L0 := #[.val (.ref p0), .unset, .unset, .unset, .unset]) rfl ?_
  intro p e s m below meth c T H
  show Go p e below _ (T.setTop (mkF m 0 #[.val (.ref p0), .unset, .unset, .unset, .unset] []))
  refine G.callS H (m2_values V h0 H.old) (wd41 V) (wd42 V) (wd36 V) (wd43 V) (by decide) (argsL := []) (rest := []) (W := 0) rfl rfl (lenOf (pd_1) rfl) rfl rfl D10_0 (pc' := 3) rfl (by decide) (by decide) (by decide) (by decide) all0 ?_
  intro T1 h1_ v2 s3 H1 Q4
  obtain ⟨a5, k6, rfl, rfl, K7, g8, F9, F10⟩ := Q4
  have na5 : n0 ≤ a5 := Nat.le_trans H.le g8
  show Go p e below _ (T1.setTop (mkF m 3 #[.val (.ref p0), .unset, .unset, .unset, .unset] [(.ref a5)]))
  refine G.astoreN H1 (L' := #[.val (.ref p0), .val (.ref a5), .unset, .unset, .unset]) D10_3 (pc' := 4) rfl rfl rfl ?_
  refine G.aloadN H1 D10_4 (pc' := 5) rfl rfl rfl ?_
  refine G.arrlen H1 F9 D10_5 (pc' := 6) rfl ?_
  refine G.istoreN H1 (L' := #[.val (.ref p0), .val (.ref a5), .val (.int 2), .unset, .unset]) D10_6 (pc' := 7) rfl rfl ?_
  refine G.iconst H1 D10_7 (pc' := 8) rfl (v := 0) rfl ?_
  refine G.istoreN H1 (L' := #[.val (.ref p0), .val (.ref a5), .val (.int 2), .val (.int 0), .unset]) D10_8 (pc' := 9) rfl rfl ?_
  refine G.iloadN H1 D10_9 (pc' := 10) rfl rfl ?_
  refine G.iloadN H1 D10_10 (pc' := 11) rfl rfl ?_
  refine G.icmpNo H1 D10_11 (pc' := 14) rfl (by decide) ?_
  refine G.aloadN H1 D10_14 (pc' := 15) rfl rfl rfl ?_
  refine G.iloadN H1 D10_15 (pc' := 16) rfl rfl ?_
  refine G.aaloadG H1 F9 rfl (j := 0) (v := (.ref uu1)) (by decide) rfl D10_16 (pc' := 17) rfl ?_
  refine G.astore H1 (L' := #[.val (.ref p0), .val (.ref a5), .val (.int 2), .val (.int 0), .val (.ref uu1)]) D10_17 (pc' := 19) rfl rfl rfl ?_
  refine G.aload H1 D10_19 (pc' := 21) rfl rfl rfl ?_
  have B11 := Fld.ext H1.old.2 (hv8 V)
  refine G.getF H1 (wd57 V) Via.refl B11 D10_21 (pc' := 24) rfl ?_
  intro T12 H13
  refine G.aloadN H13 D10_24 (pc' := 25) rfl rfl rfl ?_
  have B14 := Str.ext H13.old.2 (hv22 V)
  have F15 := (Str.keep f0 K7 nin0 nin0)
  refine G.strEq H13 (strwEq V) (wd2 V) (wd59 V) (wd60 V) (wd62 V) (wd61 V) B14 F15 (hv17 V) (hv18 V) (rest := []) (W := 0) rfl rfl D10_25 (pc' := 28) rfl (by decide) (by decide) (by decide) (by decide) ?_ ?_
  ·
    intro T16 H17 c18
    exact absurd c18 (by intro qq; simp at qq)
  ·
    intro T19 H20 c21
    refine G.ifYes H20 D10_28 (by decide) (by decide) (pc' := 34) rfl ?_
    refine G.iinc H20 (v := 1) (L' := #[.val (.ref p0), .val (.ref a5), .val (.int 2), .val (.int 1), .val (.ref uu1)]) D10_34 (pc' := 37) rfl rfl rfl rfl ?_
    refine G.goto H20 D10_37 (by decide) (pc' := 9) rfl ?_
    show Go p e below _ (T19.setTop (mkF m 9 #[.val (.ref p0), .val (.ref a5), .val (.int 2), .val (.int 1), .val (.ref uu1)] []))
    refine G.iloadN H20 D10_9 (pc' := 10) rfl rfl ?_
    refine G.iloadN H20 D10_10 (pc' := 11) rfl rfl ?_
    refine G.icmpNo H20 D10_11 (pc' := 14) rfl (by decide) ?_
    refine G.aloadN H20 D10_14 (pc' := 15) rfl rfl rfl ?_
    refine G.iloadN H20 D10_15 (pc' := 16) rfl rfl ?_
    refine G.aaloadG H20 F9 rfl (j := 1) (v := (.ref uu2)) (by decide) rfl D10_16 (pc' := 17) rfl ?_
    refine G.astore H20 (L' := #[.val (.ref p0), .val (.ref a5), .val (.int 2), .val (.int 1), .val (.ref uu2)]) D10_17 (pc' := 19) rfl rfl rfl ?_
    refine G.aload H20 D10_19 (pc' := 21) rfl rfl rfl ?_
    have B22 := Fld.ext H20.old.2 (hv6 V)
    refine G.getF H20 (wd57 V) Via.refl B22 D10_21 (pc' := 24) rfl ?_
    intro T23 H24
    refine G.aloadN H24 D10_24 (pc' := 25) rfl rfl rfl ?_
    have B25 := Str.ext H24.old.2 (hv21 V)
    refine G.strEq H24 (strwEq V) (wd2 V) (wd59 V) (wd60 V) (wd62 V) (wd61 V) B25 F15 (hv17 V) (hv18 V) (rest := []) (W := 0) rfl rfl D10_25 (pc' := 28) rfl (by decide) (by decide) (by decide) (by decide) ?_ ?_
    ·
      intro T26 H27 c28
      exact absurd c28 (by intro qq; simp at qq)
    ·
      intro T29 H30 c31
      refine G.ifYes H30 D10_28 (by decide) (by decide) (pc' := 34) rfl ?_
      refine G.iinc H30 (v := 2) (L' := #[.val (.ref p0), .val (.ref a5), .val (.int 2), .val (.int 2), .val (.ref uu2)]) D10_34 (pc' := 37) rfl rfl rfl rfl ?_
      refine G.goto H30 D10_37 (by decide) (pc' := 9) rfl ?_
      show Go p e below _ (T29.setTop (mkF m 9 #[.val (.ref p0), .val (.ref a5), .val (.int 2), .val (.int 2), .val (.ref uu2)] []))
      refine G.iloadN H30 D10_9 (pc' := 10) rfl rfl ?_
      refine G.iloadN H30 D10_10 (pc' := 11) rfl rfl ?_
      refine G.icmpYes H30 D10_11 (by decide) (by decide) (pc' := 40) rfl ?_
      refine G.aconstNull H30 D10_40 (pc' := 41) rfl ?_
      have K32 : Keep h0 h1_ [] := (Keep.trans (Keep.refl h0 []) K7 all0)
      exact G.retA H30 (t := (.object "bindery/bindings/BindingType")) rfl rfl rfl D10_41 (so := []) all0 (by decide) (by decide) ⟨rfl, rfl, K32⟩
set_option maxRecDepth 65536 in
set_option maxHeartbeats 40000000 in
theorem m75_named (V : Env1 Z a0 n0 uu0 uu1 uu2 uu3 uu4 uu5 uu6 uu7 uu8 uu9 uu10 uu11) (p0 : Addr) (p1 : Addr) (c0 : ClassId) (x0 : Int32) (x1 : Int32) (h0 : Heap) (hO : Old Z n0 h0) (f0 : Str Z h0 p0 p1 c0 [x0, x1]) :
    Met Z a0 ELs True n0 l (⟨"bindery/bindings/BindingType", "named", "(Ljava/lang/String;)Lbindery/bindings/BindingType;"⟩ : MethodName) prog_4_method_4_code 5 (Option.some (FieldType.object "bindery/bindings/BindingType")) ({ frames := 2, cells := 1, slots := 2, locals := 28 } : Room) #[(.ref p0)] h0 [] (fun v h so => (v = some .null ∧ so = [] ∧ Keep h0 h [])) := by
  refine Met.of (EWl V) (by first | decide +kernel | rfl) hO (L0 := #[.val (.ref p0), .unset, .unset, .unset, .unset]) rfl ?_
  intro p e s m below meth c T H
  show Go p e below _ (T.setTop (mkF m 0 #[.val (.ref p0), .unset, .unset, .unset, .unset] []))
  refine G.callS H (m2_values V h0 H.old) (wd41 V) (wd42 V) (wd36 V) (wd43 V) (by decide) (argsL := []) (rest := []) (W := 0) rfl rfl (lenOf (pd_1) rfl) rfl rfl D10_0 (pc' := 3) rfl (by decide) (by decide) (by decide) (by decide) all0 ?_
  intro T1 h1_ v2 s3 H1 Q4
  obtain ⟨a5, k6, rfl, rfl, K7, g8, F9, F10⟩ := Q4
  have na5 : n0 ≤ a5 := Nat.le_trans H.le g8
  show Go p e below _ (T1.setTop (mkF m 3 #[.val (.ref p0), .unset, .unset, .unset, .unset] [(.ref a5)]))
  refine G.astoreN H1 (L' := #[.val (.ref p0), .val (.ref a5), .unset, .unset, .unset]) D10_3 (pc' := 4) rfl rfl rfl ?_
  refine G.aloadN H1 D10_4 (pc' := 5) rfl rfl rfl ?_
  refine G.arrlen H1 F9 D10_5 (pc' := 6) rfl ?_
  refine G.istoreN H1 (L' := #[.val (.ref p0), .val (.ref a5), .val (.int 2), .unset, .unset]) D10_6 (pc' := 7) rfl rfl ?_
  refine G.iconst H1 D10_7 (pc' := 8) rfl (v := 0) rfl ?_
  refine G.istoreN H1 (L' := #[.val (.ref p0), .val (.ref a5), .val (.int 2), .val (.int 0), .unset]) D10_8 (pc' := 9) rfl rfl ?_
  refine G.iloadN H1 D10_9 (pc' := 10) rfl rfl ?_
  refine G.iloadN H1 D10_10 (pc' := 11) rfl rfl ?_
  refine G.icmpNo H1 D10_11 (pc' := 14) rfl (by decide) ?_
  refine G.aloadN H1 D10_14 (pc' := 15) rfl rfl rfl ?_
  refine G.iloadN H1 D10_15 (pc' := 16) rfl rfl ?_
  refine G.aaloadG H1 F9 rfl (j := 0) (v := (.ref uu1)) (by decide) rfl D10_16 (pc' := 17) rfl ?_
  refine G.astore H1 (L' := #[.val (.ref p0), .val (.ref a5), .val (.int 2), .val (.int 0), .val (.ref uu1)]) D10_17 (pc' := 19) rfl rfl rfl ?_
  refine G.aload H1 D10_19 (pc' := 21) rfl rfl rfl ?_
  have B11 := Fld.ext H1.old.2 (hv8 V)
  refine G.getF H1 (wd57 V) Via.refl B11 D10_21 (pc' := 24) rfl ?_
  intro T12 H13
  refine G.aloadN H13 D10_24 (pc' := 25) rfl rfl rfl ?_
  have B14 := Str.ext H13.old.2 (hv22 V)
  have F15 := (Str.keep f0 K7 nin0 nin0)
  refine G.strEq H13 (strwEq V) (wd2 V) (wd59 V) (wd60 V) (wd62 V) (wd61 V) B14 F15 (hv17 V) (hv18 V) (rest := []) (W := 0) rfl rfl D10_25 (pc' := 28) rfl (by decide) (by decide) (by decide) (by decide) ?_ ?_
  ·
    intro T16 H17 c18
    exact absurd c18 (by intro qq; simp at qq)
  ·
    intro T19 H20 c21
    refine G.ifYes H20 D10_28 (by decide) (by decide) (pc' := 34) rfl ?_
    refine G.iinc H20 (v := 1) (L' := #[.val (.ref p0), .val (.ref a5), .val (.int 2), .val (.int 1), .val (.ref uu1)]) D10_34 (pc' := 37) rfl rfl rfl rfl ?_
    refine G.goto H20 D10_37 (by decide) (pc' := 9) rfl ?_
    show Go p e below _ (T19.setTop (mkF m 9 #[.val (.ref p0), .val (.ref a5), .val (.int 2), .val (.int 1), .val (.ref uu1)] []))
    refine G.iloadN H20 D10_9 (pc' := 10) rfl rfl ?_
    refine G.iloadN H20 D10_10 (pc' := 11) rfl rfl ?_
    refine G.icmpNo H20 D10_11 (pc' := 14) rfl (by decide) ?_
    refine G.aloadN H20 D10_14 (pc' := 15) rfl rfl rfl ?_
    refine G.iloadN H20 D10_15 (pc' := 16) rfl rfl ?_
    refine G.aaloadG H20 F9 rfl (j := 1) (v := (.ref uu2)) (by decide) rfl D10_16 (pc' := 17) rfl ?_
    refine G.astore H20 (L' := #[.val (.ref p0), .val (.ref a5), .val (.int 2), .val (.int 1), .val (.ref uu2)]) D10_17 (pc' := 19) rfl rfl rfl ?_
    refine G.aload H20 D10_19 (pc' := 21) rfl rfl rfl ?_
    have B22 := Fld.ext H20.old.2 (hv6 V)
    refine G.getF H20 (wd57 V) Via.refl B22 D10_21 (pc' := 24) rfl ?_
    intro T23 H24
    refine G.aloadN H24 D10_24 (pc' := 25) rfl rfl rfl ?_
    have B25 := Str.ext H24.old.2 (hv21 V)
    refine G.strEq H24 (strwEq V) (wd2 V) (wd59 V) (wd60 V) (wd62 V) (wd61 V) B25 F15 (hv17 V) (hv18 V) (rest := []) (W := 0) rfl rfl D10_25 (pc' := 28) rfl (by decide) (by decide) (by decide) (by decide) ?_ ?_
    ·
      intro T26 H27 c28
      exact absurd c28 (by intro qq; simp at qq)
    ·
      intro T29 H30 c31
      refine G.ifYes H30 D10_28 (by decide) (by decide) (pc' := 34) rfl ?_
      refine G.iinc H30 (v := 2) (L' := #[.val (.ref p0), .val (.ref a5), .val (.int 2), .val (.int 2), .val (.ref uu2)]) D10_34 (pc' := 37) rfl rfl rfl rfl ?_
      refine G.goto H30 D10_37 (by decide) (pc' := 9) rfl ?_
      show Go p e below _ (T29.setTop (mkF m 9 #[.val (.ref p0), .val (.ref a5), .val (.int 2), .val (.int 2), .val (.ref uu2)] []))
      refine G.iloadN H30 D10_9 (pc' := 10) rfl rfl ?_
      refine G.iloadN H30 D10_10 (pc' := 11) rfl rfl ?_
      refine G.icmpYes H30 D10_11 (by decide) (by decide) (pc' := 40) rfl ?_
      refine G.aconstNull H30 D10_40 (pc' := 41) rfl ?_
      have K32 : Keep h0 h1_ [] := (Keep.trans (Keep.refl h0 []) K7 all0)
      exact G.retA H30 (t := (.object "bindery/bindings/BindingType")) rfl rfl rfl D10_41 (so := []) all0 (by decide) (by decide) ⟨rfl, rfl, K32⟩
set_option maxRecDepth 65536 in
set_option maxHeartbeats 40000000 in
theorem m76_named (V : Env1 Z a0 n0 uu0 uu1 uu2 uu3 uu4 uu5 uu6 uu7 uu8 uu9 uu10 uu11) (p0 : Addr) (p1 : Addr) (c0 : ClassId) (x0 : Int32) (x1 : Int32) (h0 : Heap) (hO : Old Z n0 h0) (f0 : Str Z h0 p0 p1 c0 [x0, x1, x0]) :
    Met Z a0 ELs True n0 l (⟨"bindery/bindings/BindingType", "named", "(Ljava/lang/String;)Lbindery/bindings/BindingType;"⟩ : MethodName) prog_4_method_4_code 5 (Option.some (FieldType.object "bindery/bindings/BindingType")) ({ frames := 2, cells := 1, slots := 2, locals := 28 } : Room) #[(.ref p0)] h0 [] (fun v h so => (v = some .null ∧ so = [] ∧ Keep h0 h [])) := by
  refine Met.of (EWl V) (by first | decide +kernel | rfl) hO (L0 := #[.val (.ref p0), .unset, .unset, .unset, .unset]) rfl ?_
  intro p e s m below meth c T H
  show Go p e below _ (T.setTop (mkF m 0 #[.val (.ref p0), .unset, .unset, .unset, .unset] []))
  refine G.callS H (m2_values V h0 H.old) (wd41 V) (wd42 V) (wd36 V) (wd43 V) (by decide) (argsL := []) (rest := []) (W := 0) rfl rfl (lenOf (pd_1) rfl) rfl rfl D10_0 (pc' := 3) rfl (by decide) (by decide) (by decide) (by decide) all0 ?_
  intro T1 h1_ v2 s3 H1 Q4
  obtain ⟨a5, k6, rfl, rfl, K7, g8, F9, F10⟩ := Q4
  have na5 : n0 ≤ a5 := Nat.le_trans H.le g8
  show Go p e below _ (T1.setTop (mkF m 3 #[.val (.ref p0), .unset, .unset, .unset, .unset] [(.ref a5)]))
  refine G.astoreN H1 (L' := #[.val (.ref p0), .val (.ref a5), .unset, .unset, .unset]) D10_3 (pc' := 4) rfl rfl rfl ?_
  refine G.aloadN H1 D10_4 (pc' := 5) rfl rfl rfl ?_
  refine G.arrlen H1 F9 D10_5 (pc' := 6) rfl ?_
  refine G.istoreN H1 (L' := #[.val (.ref p0), .val (.ref a5), .val (.int 2), .unset, .unset]) D10_6 (pc' := 7) rfl rfl ?_
  refine G.iconst H1 D10_7 (pc' := 8) rfl (v := 0) rfl ?_
  refine G.istoreN H1 (L' := #[.val (.ref p0), .val (.ref a5), .val (.int 2), .val (.int 0), .unset]) D10_8 (pc' := 9) rfl rfl ?_
  refine G.iloadN H1 D10_9 (pc' := 10) rfl rfl ?_
  refine G.iloadN H1 D10_10 (pc' := 11) rfl rfl ?_
  refine G.icmpNo H1 D10_11 (pc' := 14) rfl (by decide) ?_
  refine G.aloadN H1 D10_14 (pc' := 15) rfl rfl rfl ?_
  refine G.iloadN H1 D10_15 (pc' := 16) rfl rfl ?_
  refine G.aaloadG H1 F9 rfl (j := 0) (v := (.ref uu1)) (by decide) rfl D10_16 (pc' := 17) rfl ?_
  refine G.astore H1 (L' := #[.val (.ref p0), .val (.ref a5), .val (.int 2), .val (.int 0), .val (.ref uu1)]) D10_17 (pc' := 19) rfl rfl rfl ?_
  refine G.aload H1 D10_19 (pc' := 21) rfl rfl rfl ?_
  have B11 := Fld.ext H1.old.2 (hv8 V)
  refine G.getF H1 (wd57 V) Via.refl B11 D10_21 (pc' := 24) rfl ?_
  intro T12 H13
  refine G.aloadN H13 D10_24 (pc' := 25) rfl rfl rfl ?_
  have B14 := Str.ext H13.old.2 (hv22 V)
  have F15 := (Str.keep f0 K7 nin0 nin0)
  refine G.strEq H13 (strwEq V) (wd2 V) (wd59 V) (wd60 V) (wd62 V) (wd61 V) B14 F15 (hv17 V) (hv18 V) (rest := []) (W := 0) rfl rfl D10_25 (pc' := 28) rfl (by decide) (by decide) (by decide) (by decide) ?_ ?_
  ·
    intro T16 H17 c18
    exact absurd c18 (by intro qq; simp at qq)
  ·
    intro T19 H20 c21
    refine G.ifYes H20 D10_28 (by decide) (by decide) (pc' := 34) rfl ?_
    refine G.iinc H20 (v := 1) (L' := #[.val (.ref p0), .val (.ref a5), .val (.int 2), .val (.int 1), .val (.ref uu1)]) D10_34 (pc' := 37) rfl rfl rfl rfl ?_
    refine G.goto H20 D10_37 (by decide) (pc' := 9) rfl ?_
    show Go p e below _ (T19.setTop (mkF m 9 #[.val (.ref p0), .val (.ref a5), .val (.int 2), .val (.int 1), .val (.ref uu1)] []))
    refine G.iloadN H20 D10_9 (pc' := 10) rfl rfl ?_
    refine G.iloadN H20 D10_10 (pc' := 11) rfl rfl ?_
    refine G.icmpNo H20 D10_11 (pc' := 14) rfl (by decide) ?_
    refine G.aloadN H20 D10_14 (pc' := 15) rfl rfl rfl ?_
    refine G.iloadN H20 D10_15 (pc' := 16) rfl rfl ?_
    refine G.aaloadG H20 F9 rfl (j := 1) (v := (.ref uu2)) (by decide) rfl D10_16 (pc' := 17) rfl ?_
    refine G.astore H20 (L' := #[.val (.ref p0), .val (.ref a5), .val (.int 2), .val (.int 1), .val (.ref uu2)]) D10_17 (pc' := 19) rfl rfl rfl ?_
    refine G.aload H20 D10_19 (pc' := 21) rfl rfl rfl ?_
    have B22 := Fld.ext H20.old.2 (hv6 V)
    refine G.getF H20 (wd57 V) Via.refl B22 D10_21 (pc' := 24) rfl ?_
    intro T23 H24
    refine G.aloadN H24 D10_24 (pc' := 25) rfl rfl rfl ?_
    have B25 := Str.ext H24.old.2 (hv21 V)
    refine G.strEq H24 (strwEq V) (wd2 V) (wd59 V) (wd60 V) (wd62 V) (wd61 V) B25 F15 (hv17 V) (hv18 V) (rest := []) (W := 0) rfl rfl D10_25 (pc' := 28) rfl (by decide) (by decide) (by decide) (by decide) ?_ ?_
    ·
      intro T26 H27 c28
      exact absurd c28 (by intro qq; simp at qq)
    ·
      intro T29 H30 c31
      refine G.ifYes H30 D10_28 (by decide) (by decide) (pc' := 34) rfl ?_
      refine G.iinc H30 (v := 2) (L' := #[.val (.ref p0), .val (.ref a5), .val (.int 2), .val (.int 2), .val (.ref uu2)]) D10_34 (pc' := 37) rfl rfl rfl rfl ?_
      refine G.goto H30 D10_37 (by decide) (pc' := 9) rfl ?_
      show Go p e below _ (T29.setTop (mkF m 9 #[.val (.ref p0), .val (.ref a5), .val (.int 2), .val (.int 2), .val (.ref uu2)] []))
      refine G.iloadN H30 D10_9 (pc' := 10) rfl rfl ?_
      refine G.iloadN H30 D10_10 (pc' := 11) rfl rfl ?_
      refine G.icmpYes H30 D10_11 (by decide) (by decide) (pc' := 40) rfl ?_
      refine G.aconstNull H30 D10_40 (pc' := 41) rfl ?_
      have K32 : Keep h0 h1_ [] := (Keep.trans (Keep.refl h0 []) K7 all0)
      exact G.retA H30 (t := (.object "bindery/bindings/BindingType")) rfl rfl rfl D10_41 (so := []) all0 (by decide) (by decide) ⟨rfl, rfl, K32⟩
set_option maxRecDepth 65536 in
set_option maxHeartbeats 40000000 in
theorem m77_named (V : Env1 Z a0 n0 uu0 uu1 uu2 uu3 uu4 uu5 uu6 uu7 uu8 uu9 uu10 uu11) (p0 : Addr) (p1 : Addr) (c0 : ClassId) (h0 : Heap) (hO : Old Z n0 h0) (f0 : Str Z h0 p0 p1 c0 [68, 73, 82, 69, 67, 84, 79, 82, 89, 95, 73, 78]) :
    Met Z a0 ELs True n0 l (⟨"bindery/bindings/BindingType", "named", "(Ljava/lang/String;)Lbindery/bindings/BindingType;"⟩ : MethodName) prog_4_method_4_code 5 (Option.some (FieldType.object "bindery/bindings/BindingType")) ({ frames := 2, cells := 1, slots := 2, locals := 28 } : Room) #[(.ref p0)] h0 [] (fun v h so => (v = some .null ∧ so = [] ∧ Keep h0 h [])) := by
  refine Met.of (EWl V) (by first | decide +kernel | rfl) hO (L0 := #[.val (.ref p0), .unset, .unset, .unset, .unset]) rfl ?_
  intro p e s m below meth c T H
  show Go p e below _ (T.setTop (mkF m 0 #[.val (.ref p0), .unset, .unset, .unset, .unset] []))
  refine G.callS H (m2_values V h0 H.old) (wd41 V) (wd42 V) (wd36 V) (wd43 V) (by decide) (argsL := []) (rest := []) (W := 0) rfl rfl (lenOf (pd_1) rfl) rfl rfl D10_0 (pc' := 3) rfl (by decide) (by decide) (by decide) (by decide) all0 ?_
  intro T1 h1_ v2 s3 H1 Q4
  obtain ⟨a5, k6, rfl, rfl, K7, g8, F9, F10⟩ := Q4
  have na5 : n0 ≤ a5 := Nat.le_trans H.le g8
  show Go p e below _ (T1.setTop (mkF m 3 #[.val (.ref p0), .unset, .unset, .unset, .unset] [(.ref a5)]))
  refine G.astoreN H1 (L' := #[.val (.ref p0), .val (.ref a5), .unset, .unset, .unset]) D10_3 (pc' := 4) rfl rfl rfl ?_
  refine G.aloadN H1 D10_4 (pc' := 5) rfl rfl rfl ?_
  refine G.arrlen H1 F9 D10_5 (pc' := 6) rfl ?_
  refine G.istoreN H1 (L' := #[.val (.ref p0), .val (.ref a5), .val (.int 2), .unset, .unset]) D10_6 (pc' := 7) rfl rfl ?_
  refine G.iconst H1 D10_7 (pc' := 8) rfl (v := 0) rfl ?_
  refine G.istoreN H1 (L' := #[.val (.ref p0), .val (.ref a5), .val (.int 2), .val (.int 0), .unset]) D10_8 (pc' := 9) rfl rfl ?_
  refine G.iloadN H1 D10_9 (pc' := 10) rfl rfl ?_
  refine G.iloadN H1 D10_10 (pc' := 11) rfl rfl ?_
  refine G.icmpNo H1 D10_11 (pc' := 14) rfl (by decide) ?_
  refine G.aloadN H1 D10_14 (pc' := 15) rfl rfl rfl ?_
  refine G.iloadN H1 D10_15 (pc' := 16) rfl rfl ?_
  refine G.aaloadG H1 F9 rfl (j := 0) (v := (.ref uu1)) (by decide) rfl D10_16 (pc' := 17) rfl ?_
  refine G.astore H1 (L' := #[.val (.ref p0), .val (.ref a5), .val (.int 2), .val (.int 0), .val (.ref uu1)]) D10_17 (pc' := 19) rfl rfl rfl ?_
  refine G.aload H1 D10_19 (pc' := 21) rfl rfl rfl ?_
  have B11 := Fld.ext H1.old.2 (hv8 V)
  refine G.getF H1 (wd57 V) Via.refl B11 D10_21 (pc' := 24) rfl ?_
  intro T12 H13
  refine G.aloadN H13 D10_24 (pc' := 25) rfl rfl rfl ?_
  have B14 := Str.ext H13.old.2 (hv22 V)
  have F15 := (Str.keep f0 K7 nin0 nin0)
  refine G.strEq H13 (strwEq V) (wd2 V) (wd59 V) (wd60 V) (wd62 V) (wd61 V) B14 F15 (hv17 V) (hv18 V) (rest := []) (W := 0) rfl rfl D10_25 (pc' := 28) rfl (by decide) (by decide) (by decide) (by decide) ?_ ?_
  ·
    intro T16 H17 c18
    exact absurd c18 (by intro qq; simp at qq)
  ·
    intro T19 H20 c21
    refine G.ifYes H20 D10_28 (by decide) (by decide) (pc' := 34) rfl ?_
    refine G.iinc H20 (v := 1) (L' := #[.val (.ref p0), .val (.ref a5), .val (.int 2), .val (.int 1), .val (.ref uu1)]) D10_34 (pc' := 37) rfl rfl rfl rfl ?_
    refine G.goto H20 D10_37 (by decide) (pc' := 9) rfl ?_
    show Go p e below _ (T19.setTop (mkF m 9 #[.val (.ref p0), .val (.ref a5), .val (.int 2), .val (.int 1), .val (.ref uu1)] []))
    refine G.iloadN H20 D10_9 (pc' := 10) rfl rfl ?_
    refine G.iloadN H20 D10_10 (pc' := 11) rfl rfl ?_
    refine G.icmpNo H20 D10_11 (pc' := 14) rfl (by decide) ?_
    refine G.aloadN H20 D10_14 (pc' := 15) rfl rfl rfl ?_
    refine G.iloadN H20 D10_15 (pc' := 16) rfl rfl ?_
    refine G.aaloadG H20 F9 rfl (j := 1) (v := (.ref uu2)) (by decide) rfl D10_16 (pc' := 17) rfl ?_
    refine G.astore H20 (L' := #[.val (.ref p0), .val (.ref a5), .val (.int 2), .val (.int 1), .val (.ref uu2)]) D10_17 (pc' := 19) rfl rfl rfl ?_
    refine G.aload H20 D10_19 (pc' := 21) rfl rfl rfl ?_
    have B22 := Fld.ext H20.old.2 (hv6 V)
    refine G.getF H20 (wd57 V) Via.refl B22 D10_21 (pc' := 24) rfl ?_
    intro T23 H24
    refine G.aloadN H24 D10_24 (pc' := 25) rfl rfl rfl ?_
    have B25 := Str.ext H24.old.2 (hv21 V)
    refine G.strEq H24 (strwEq V) (wd2 V) (wd59 V) (wd60 V) (wd62 V) (wd61 V) B25 F15 (hv17 V) (hv18 V) (rest := []) (W := 0) rfl rfl D10_25 (pc' := 28) rfl (by decide) (by decide) (by decide) (by decide) ?_ ?_
    ·
      intro T26 H27 c28
      exact absurd c28 (by intro qq; simp at qq)
    ·
      intro T29 H30 c31
      refine G.ifYes H30 D10_28 (by decide) (by decide) (pc' := 34) rfl ?_
      refine G.iinc H30 (v := 2) (L' := #[.val (.ref p0), .val (.ref a5), .val (.int 2), .val (.int 2), .val (.ref uu2)]) D10_34 (pc' := 37) rfl rfl rfl rfl ?_
      refine G.goto H30 D10_37 (by decide) (pc' := 9) rfl ?_
      show Go p e below _ (T29.setTop (mkF m 9 #[.val (.ref p0), .val (.ref a5), .val (.int 2), .val (.int 2), .val (.ref uu2)] []))
      refine G.iloadN H30 D10_9 (pc' := 10) rfl rfl ?_
      refine G.iloadN H30 D10_10 (pc' := 11) rfl rfl ?_
      refine G.icmpYes H30 D10_11 (by decide) (by decide) (pc' := 40) rfl ?_
      refine G.aconstNull H30 D10_40 (pc' := 41) rfl ?_
      have K32 : Keep h0 h1_ [] := (Keep.trans (Keep.refl h0 []) K7 all0)
      exact G.retA H30 (t := (.object "bindery/bindings/BindingType")) rfl rfl rfl D10_41 (so := []) all0 (by decide) (by decide) ⟨rfl, rfl, K32⟩
set_option maxRecDepth 65536 in
set_option maxHeartbeats 40000000 in
theorem m78_named (V : Env1 Z a0 n0 uu0 uu1 uu2 uu3 uu4 uu5 uu6 uu7 uu8 uu9 uu10 uu11) (p0 : Addr) (p1 : Addr) (c0 : ClassId) (h0 : Heap) (hO : Old Z n0 h0) (f0 : Str Z h0 p0 p1 c0 [68, 73, 82, 69, 67, 84, 79, 82, 89, 95, 79, 85, 84]) :
    Met Z a0 ELs True n0 l (⟨"bindery/bindings/BindingType", "named", "(Ljava/lang/String;)Lbindery/bindings/BindingType;"⟩ : MethodName) prog_4_method_4_code 5 (Option.some (FieldType.object "bindery/bindings/BindingType")) ({ frames := 2, cells := 1, slots := 2, locals := 28 } : Room) #[(.ref p0)] h0 [] (fun v h so => (v = some .null ∧ so = [] ∧ Keep h0 h [])) := by
  refine Met.of (EWl V) (by first | decide +kernel | rfl) hO (L0 := #[.val (.ref p0), .unset, .unset, .unset, .unset]) rfl ?_
  intro p e s m below meth c T H
  show Go p e below _ (T.setTop (mkF m 0 #[.val (.ref p0), .unset, .unset, .unset, .unset] []))
  refine G.callS H (m2_values V h0 H.old) (wd41 V) (wd42 V) (wd36 V) (wd43 V) (by decide) (argsL := []) (rest := []) (W := 0) rfl rfl (lenOf (pd_1) rfl) rfl rfl D10_0 (pc' := 3) rfl (by decide) (by decide) (by decide) (by decide) all0 ?_
  intro T1 h1_ v2 s3 H1 Q4
  obtain ⟨a5, k6, rfl, rfl, K7, g8, F9, F10⟩ := Q4
  have na5 : n0 ≤ a5 := Nat.le_trans H.le g8
  show Go p e below _ (T1.setTop (mkF m 3 #[.val (.ref p0), .unset, .unset, .unset, .unset] [(.ref a5)]))
  refine G.astoreN H1 (L' := #[.val (.ref p0), .val (.ref a5), .unset, .unset, .unset]) D10_3 (pc' := 4) rfl rfl rfl ?_
  refine G.aloadN H1 D10_4 (pc' := 5) rfl rfl rfl ?_
  refine G.arrlen H1 F9 D10_5 (pc' := 6) rfl ?_
  refine G.istoreN H1 (L' := #[.val (.ref p0), .val (.ref a5), .val (.int 2), .unset, .unset]) D10_6 (pc' := 7) rfl rfl ?_
  refine G.iconst H1 D10_7 (pc' := 8) rfl (v := 0) rfl ?_
  refine G.istoreN H1 (L' := #[.val (.ref p0), .val (.ref a5), .val (.int 2), .val (.int 0), .unset]) D10_8 (pc' := 9) rfl rfl ?_
  refine G.iloadN H1 D10_9 (pc' := 10) rfl rfl ?_
  refine G.iloadN H1 D10_10 (pc' := 11) rfl rfl ?_
  refine G.icmpNo H1 D10_11 (pc' := 14) rfl (by decide) ?_
  refine G.aloadN H1 D10_14 (pc' := 15) rfl rfl rfl ?_
  refine G.iloadN H1 D10_15 (pc' := 16) rfl rfl ?_
  refine G.aaloadG H1 F9 rfl (j := 0) (v := (.ref uu1)) (by decide) rfl D10_16 (pc' := 17) rfl ?_
  refine G.astore H1 (L' := #[.val (.ref p0), .val (.ref a5), .val (.int 2), .val (.int 0), .val (.ref uu1)]) D10_17 (pc' := 19) rfl rfl rfl ?_
  refine G.aload H1 D10_19 (pc' := 21) rfl rfl rfl ?_
  have B11 := Fld.ext H1.old.2 (hv8 V)
  refine G.getF H1 (wd57 V) Via.refl B11 D10_21 (pc' := 24) rfl ?_
  intro T12 H13
  refine G.aloadN H13 D10_24 (pc' := 25) rfl rfl rfl ?_
  have B14 := Str.ext H13.old.2 (hv22 V)
  have F15 := (Str.keep f0 K7 nin0 nin0)
  refine G.strEq H13 (strwEq V) (wd2 V) (wd59 V) (wd60 V) (wd62 V) (wd61 V) B14 F15 (hv17 V) (hv18 V) (rest := []) (W := 0) rfl rfl D10_25 (pc' := 28) rfl (by decide) (by decide) (by decide) (by decide) ?_ ?_
  ·
    intro T16 H17 c18
    exact absurd c18 (by intro qq; simp at qq)
  ·
    intro T19 H20 c21
    refine G.ifYes H20 D10_28 (by decide) (by decide) (pc' := 34) rfl ?_
    refine G.iinc H20 (v := 1) (L' := #[.val (.ref p0), .val (.ref a5), .val (.int 2), .val (.int 1), .val (.ref uu1)]) D10_34 (pc' := 37) rfl rfl rfl rfl ?_
    refine G.goto H20 D10_37 (by decide) (pc' := 9) rfl ?_
    show Go p e below _ (T19.setTop (mkF m 9 #[.val (.ref p0), .val (.ref a5), .val (.int 2), .val (.int 1), .val (.ref uu1)] []))
    refine G.iloadN H20 D10_9 (pc' := 10) rfl rfl ?_
    refine G.iloadN H20 D10_10 (pc' := 11) rfl rfl ?_
    refine G.icmpNo H20 D10_11 (pc' := 14) rfl (by decide) ?_
    refine G.aloadN H20 D10_14 (pc' := 15) rfl rfl rfl ?_
    refine G.iloadN H20 D10_15 (pc' := 16) rfl rfl ?_
    refine G.aaloadG H20 F9 rfl (j := 1) (v := (.ref uu2)) (by decide) rfl D10_16 (pc' := 17) rfl ?_
    refine G.astore H20 (L' := #[.val (.ref p0), .val (.ref a5), .val (.int 2), .val (.int 1), .val (.ref uu2)]) D10_17 (pc' := 19) rfl rfl rfl ?_
    refine G.aload H20 D10_19 (pc' := 21) rfl rfl rfl ?_
    have B22 := Fld.ext H20.old.2 (hv6 V)
    refine G.getF H20 (wd57 V) Via.refl B22 D10_21 (pc' := 24) rfl ?_
    intro T23 H24
    refine G.aloadN H24 D10_24 (pc' := 25) rfl rfl rfl ?_
    have B25 := Str.ext H24.old.2 (hv21 V)
    refine G.strEq H24 (strwEq V) (wd2 V) (wd59 V) (wd60 V) (wd62 V) (wd61 V) B25 F15 (hv17 V) (hv18 V) (rest := []) (W := 0) rfl rfl D10_25 (pc' := 28) rfl (by decide) (by decide) (by decide) (by decide) ?_ ?_
    ·
      intro T26 H27 c28
      exact absurd c28 (by intro qq; simp at qq)
    ·
      intro T29 H30 c31
      refine G.ifYes H30 D10_28 (by decide) (by decide) (pc' := 34) rfl ?_
      refine G.iinc H30 (v := 2) (L' := #[.val (.ref p0), .val (.ref a5), .val (.int 2), .val (.int 2), .val (.ref uu2)]) D10_34 (pc' := 37) rfl rfl rfl rfl ?_
      refine G.goto H30 D10_37 (by decide) (pc' := 9) rfl ?_
      show Go p e below _ (T29.setTop (mkF m 9 #[.val (.ref p0), .val (.ref a5), .val (.int 2), .val (.int 2), .val (.ref uu2)] []))
      refine G.iloadN H30 D10_9 (pc' := 10) rfl rfl ?_
      refine G.iloadN H30 D10_10 (pc' := 11) rfl rfl ?_
      refine G.icmpYes H30 D10_11 (by decide) (by decide) (pc' := 40) rfl ?_
      refine G.aconstNull H30 D10_40 (pc' := 41) rfl ?_
      have K32 : Keep h0 h1_ [] := (Keep.trans (Keep.refl h0 []) K7 all0)
      exact G.retA H30 (t := (.object "bindery/bindings/BindingType")) rfl rfl rfl D10_41 (so := []) all0 (by decide) (by decide) ⟨rfl, rfl, K32⟩
set_option maxRecDepth 65536 in
set_option maxHeartbeats 40000000 in
theorem m79_named (V : Env1 Z a0 n0 uu0 uu1 uu2 uu3 uu4 uu5 uu6 uu7 uu8 uu9 uu10 uu11) (p0 : Addr) (p1 : Addr) (c0 : ClassId) (h0 : Heap) (hO : Old Z n0 h0) (f0 : Str Z h0 p0 p1 c0 [68, 105, 114, 101, 99, 116, 111, 114, 121, 45, 73, 110]) :
    Met Z a0 ELs True n0 l (⟨"bindery/bindings/BindingType", "named", "(Ljava/lang/String;)Lbindery/bindings/BindingType;"⟩ : MethodName) prog_4_method_4_code 5 (Option.some (FieldType.object "bindery/bindings/BindingType")) ({ frames := 2, cells := 1, slots := 2, locals := 28 } : Room) #[(.ref p0)] h0 [] (fun v h so => (v = some .null ∧ so = [] ∧ Keep h0 h [])) := by
  refine Met.of (EWl V) (by first | decide +kernel | rfl) hO (L0 := #[.val (.ref p0), .unset, .unset, .unset, .unset]) rfl ?_
  intro p e s m below meth c T H
  show Go p e below _ (T.setTop (mkF m 0 #[.val (.ref p0), .unset, .unset, .unset, .unset] []))
  refine G.callS H (m2_values V h0 H.old) (wd41 V) (wd42 V) (wd36 V) (wd43 V) (by decide) (argsL := []) (rest := []) (W := 0) rfl rfl (lenOf (pd_1) rfl) rfl rfl D10_0 (pc' := 3) rfl (by decide) (by decide) (by decide) (by decide) all0 ?_
  intro T1 h1_ v2 s3 H1 Q4
  obtain ⟨a5, k6, rfl, rfl, K7, g8, F9, F10⟩ := Q4
  have na5 : n0 ≤ a5 := Nat.le_trans H.le g8
  show Go p e below _ (T1.setTop (mkF m 3 #[.val (.ref p0), .unset, .unset, .unset, .unset] [(.ref a5)]))
  refine G.astoreN H1 (L' := #[.val (.ref p0), .val (.ref a5), .unset, .unset, .unset]) D10_3 (pc' := 4) rfl rfl rfl ?_
  refine G.aloadN H1 D10_4 (pc' := 5) rfl rfl rfl ?_
  refine G.arrlen H1 F9 D10_5 (pc' := 6) rfl ?_
  refine G.istoreN H1 (L' := #[.val (.ref p0), .val (.ref a5), .val (.int 2), .unset, .unset]) D10_6 (pc' := 7) rfl rfl ?_
  refine G.iconst H1 D10_7 (pc' := 8) rfl (v := 0) rfl ?_
  refine G.istoreN H1 (L' := #[.val (.ref p0), .val (.ref a5), .val (.int 2), .val (.int 0), .unset]) D10_8 (pc' := 9) rfl rfl ?_
  refine G.iloadN H1 D10_9 (pc' := 10) rfl rfl ?_
  refine G.iloadN H1 D10_10 (pc' := 11) rfl rfl ?_
  refine G.icmpNo H1 D10_11 (pc' := 14) rfl (by decide) ?_
  refine G.aloadN H1 D10_14 (pc' := 15) rfl rfl rfl ?_
  refine G.iloadN H1 D10_15 (pc' := 16) rfl rfl ?_
  refine G.aaloadG H1 F9 rfl (j := 0) (v := (.ref uu1)) (by decide) rfl D10_16 (pc' := 17) rfl ?_
  refine G.astore H1 (L' := #[.val (.ref p0), .val (.ref a5), .val (.int 2), .val (.int 0), .val (.ref uu1)]) D10_17 (pc' := 19) rfl rfl rfl ?_
  refine G.aload H1 D10_19 (pc' := 21) rfl rfl rfl ?_
  have B11 := Fld.ext H1.old.2 (hv8 V)
  refine G.getF H1 (wd57 V) Via.refl B11 D10_21 (pc' := 24) rfl ?_
  intro T12 H13
  refine G.aloadN H13 D10_24 (pc' := 25) rfl rfl rfl ?_
  have B14 := Str.ext H13.old.2 (hv22 V)
  have F15 := (Str.keep f0 K7 nin0 nin0)
  refine G.strEq H13 (strwEq V) (wd2 V) (wd59 V) (wd60 V) (wd62 V) (wd61 V) B14 F15 (hv17 V) (hv18 V) (rest := []) (W := 0) rfl rfl D10_25 (pc' := 28) rfl (by decide) (by decide) (by decide) (by decide) ?_ ?_
  ·
    intro T16 H17 c18
    exact absurd c18 (by intro qq; simp at qq)
  ·
    intro T19 H20 c21
    refine G.ifYes H20 D10_28 (by decide) (by decide) (pc' := 34) rfl ?_
    refine G.iinc H20 (v := 1) (L' := #[.val (.ref p0), .val (.ref a5), .val (.int 2), .val (.int 1), .val (.ref uu1)]) D10_34 (pc' := 37) rfl rfl rfl rfl ?_
    refine G.goto H20 D10_37 (by decide) (pc' := 9) rfl ?_
    show Go p e below _ (T19.setTop (mkF m 9 #[.val (.ref p0), .val (.ref a5), .val (.int 2), .val (.int 1), .val (.ref uu1)] []))
    refine G.iloadN H20 D10_9 (pc' := 10) rfl rfl ?_
    refine G.iloadN H20 D10_10 (pc' := 11) rfl rfl ?_
    refine G.icmpNo H20 D10_11 (pc' := 14) rfl (by decide) ?_
    refine G.aloadN H20 D10_14 (pc' := 15) rfl rfl rfl ?_
    refine G.iloadN H20 D10_15 (pc' := 16) rfl rfl ?_
    refine G.aaloadG H20 F9 rfl (j := 1) (v := (.ref uu2)) (by decide) rfl D10_16 (pc' := 17) rfl ?_
    refine G.astore H20 (L' := #[.val (.ref p0), .val (.ref a5), .val (.int 2), .val (.int 1), .val (.ref uu2)]) D10_17 (pc' := 19) rfl rfl rfl ?_
    refine G.aload H20 D10_19 (pc' := 21) rfl rfl rfl ?_
    have B22 := Fld.ext H20.old.2 (hv6 V)
    refine G.getF H20 (wd57 V) Via.refl B22 D10_21 (pc' := 24) rfl ?_
    intro T23 H24
    refine G.aloadN H24 D10_24 (pc' := 25) rfl rfl rfl ?_
    have B25 := Str.ext H24.old.2 (hv21 V)
    refine G.strEq H24 (strwEq V) (wd2 V) (wd59 V) (wd60 V) (wd62 V) (wd61 V) B25 F15 (hv17 V) (hv18 V) (rest := []) (W := 0) rfl rfl D10_25 (pc' := 28) rfl (by decide) (by decide) (by decide) (by decide) ?_ ?_
    ·
      intro T26 H27 c28
      exact absurd c28 (by intro qq; simp at qq)
    ·
      intro T29 H30 c31
      refine G.ifYes H30 D10_28 (by decide) (by decide) (pc' := 34) rfl ?_
      refine G.iinc H30 (v := 2) (L' := #[.val (.ref p0), .val (.ref a5), .val (.int 2), .val (.int 2), .val (.ref uu2)]) D10_34 (pc' := 37) rfl rfl rfl rfl ?_
      refine G.goto H30 D10_37 (by decide) (pc' := 9) rfl ?_
      show Go p e below _ (T29.setTop (mkF m 9 #[.val (.ref p0), .val (.ref a5), .val (.int 2), .val (.int 2), .val (.ref uu2)] []))
      refine G.iloadN H30 D10_9 (pc' := 10) rfl rfl ?_
      refine G.iloadN H30 D10_10 (pc' := 11) rfl rfl ?_
      refine G.icmpYes H30 D10_11 (by decide) (by decide) (pc' := 40) rfl ?_
      refine G.aconstNull H30 D10_40 (pc' := 41) rfl ?_
      have K32 : Keep h0 h1_ [] := (Keep.trans (Keep.refl h0 []) K7 all0)
      exact G.retA H30 (t := (.object "bindery/bindings/BindingType")) rfl rfl rfl D10_41 (so := []) all0 (by decide) (by decide) ⟨rfl, rfl, K32⟩
set_option maxRecDepth 65536 in
set_option maxHeartbeats 40000000 in
theorem m80_named (V : Env1 Z a0 n0 uu0 uu1 uu2 uu3 uu4 uu5 uu6 uu7 uu8 uu9 uu10 uu11) (p0 : Addr) (p1 : Addr) (c0 : ClassId) (h0 : Heap) (hO : Old Z n0 h0) (f0 : Str Z h0 p0 p1 c0 [100, 105, 114, 101, 99, 116, 111, 114, 121, 95, 111, 117, 116]) :
    Met Z a0 ELs True n0 l (⟨"bindery/bindings/BindingType", "named", "(Ljava/lang/String;)Lbindery/bindings/BindingType;"⟩ : MethodName) prog_4_method_4_code 5 (Option.some (FieldType.object "bindery/bindings/BindingType")) ({ frames := 2, cells := 1, slots := 2, locals := 28 } : Room) #[(.ref p0)] h0 [] (fun v h so => (v = some .null ∧ so = [] ∧ Keep h0 h [])) := by
  refine Met.of (EWl V) (by first | decide +kernel | rfl) hO (L0 := #[.val (.ref p0), .unset, .unset, .unset, .unset]) rfl ?_
  intro p e s m below meth c T H
  show Go p e below _ (T.setTop (mkF m 0 #[.val (.ref p0), .unset, .unset, .unset, .unset] []))
  refine G.callS H (m2_values V h0 H.old) (wd41 V) (wd42 V) (wd36 V) (wd43 V) (by decide) (argsL := []) (rest := []) (W := 0) rfl rfl (lenOf (pd_1) rfl) rfl rfl D10_0 (pc' := 3) rfl (by decide) (by decide) (by decide) (by decide) all0 ?_
  intro T1 h1_ v2 s3 H1 Q4
  obtain ⟨a5, k6, rfl, rfl, K7, g8, F9, F10⟩ := Q4
  have na5 : n0 ≤ a5 := Nat.le_trans H.le g8
  show Go p e below _ (T1.setTop (mkF m 3 #[.val (.ref p0), .unset, .unset, .unset, .unset] [(.ref a5)]))
  refine G.astoreN H1 (L' := #[.val (.ref p0), .val (.ref a5), .unset, .unset, .unset]) D10_3 (pc' := 4) rfl rfl rfl ?_
  refine G.aloadN H1 D10_4 (pc' := 5) rfl rfl rfl ?_
  refine G.arrlen H1 F9 D10_5 (pc' := 6) rfl ?_
  refine G.istoreN H1 (L' := #[.val (.ref p0), .val (.ref a5), .val (.int 2), .unset, .unset]) D10_6 (pc' := 7) rfl rfl ?_
  refine G.iconst H1 D10_7 (pc' := 8) rfl (v := 0) rfl ?_
  refine G.istoreN H1 (L' := #[.val (.ref p0), .val (.ref a5), .val (.int 2), .val (.int 0), .unset]) D10_8 (pc' := 9) rfl rfl ?_
  refine G.iloadN H1 D10_9 (pc' := 10) rfl rfl ?_
  refine G.iloadN H1 D10_10 (pc' := 11) rfl rfl ?_
  refine G.icmpNo H1 D10_11 (pc' := 14) rfl (by decide) ?_
  refine G.aloadN H1 D10_14 (pc' := 15) rfl rfl rfl ?_
  refine G.iloadN H1 D10_15 (pc' := 16) rfl rfl ?_
  refine G.aaloadG H1 F9 rfl (j := 0) (v := (.ref uu1)) (by decide) rfl D10_16 (pc' := 17) rfl ?_
  refine G.astore H1 (L' := #[.val (.ref p0), .val (.ref a5), .val (.int 2), .val (.int 0), .val (.ref uu1)]) D10_17 (pc' := 19) rfl rfl rfl ?_
  refine G.aload H1 D10_19 (pc' := 21) rfl rfl rfl ?_
  have B11 := Fld.ext H1.old.2 (hv8 V)
  refine G.getF H1 (wd57 V) Via.refl B11 D10_21 (pc' := 24) rfl ?_
  intro T12 H13
  refine G.aloadN H13 D10_24 (pc' := 25) rfl rfl rfl ?_
  have B14 := Str.ext H13.old.2 (hv22 V)
  have F15 := (Str.keep f0 K7 nin0 nin0)
  refine G.strEq H13 (strwEq V) (wd2 V) (wd59 V) (wd60 V) (wd62 V) (wd61 V) B14 F15 (hv17 V) (hv18 V) (rest := []) (W := 0) rfl rfl D10_25 (pc' := 28) rfl (by decide) (by decide) (by decide) (by decide) ?_ ?_
  ·
    intro T16 H17 c18
    exact absurd c18 (by intro qq; simp at qq)
  ·
    intro T19 H20 c21
    refine G.ifYes H20 D10_28 (by decide) (by decide) (pc' := 34) rfl ?_
    refine G.iinc H20 (v := 1) (L' := #[.val (.ref p0), .val (.ref a5), .val (.int 2), .val (.int 1), .val (.ref uu1)]) D10_34 (pc' := 37) rfl rfl rfl rfl ?_
    refine G.goto H20 D10_37 (by decide) (pc' := 9) rfl ?_
    show Go p e below _ (T19.setTop (mkF m 9 #[.val (.ref p0), .val (.ref a5), .val (.int 2), .val (.int 1), .val (.ref uu1)] []))
    refine G.iloadN H20 D10_9 (pc' := 10) rfl rfl ?_
    refine G.iloadN H20 D10_10 (pc' := 11) rfl rfl ?_
    refine G.icmpNo H20 D10_11 (pc' := 14) rfl (by decide) ?_
    refine G.aloadN H20 D10_14 (pc' := 15) rfl rfl rfl ?_
    refine G.iloadN H20 D10_15 (pc' := 16) rfl rfl ?_
    refine G.aaloadG H20 F9 rfl (j := 1) (v := (.ref uu2)) (by decide) rfl D10_16 (pc' := 17) rfl ?_
    refine G.astore H20 (L' := #[.val (.ref p0), .val (.ref a5), .val (.int 2), .val (.int 1), .val (.ref uu2)]) D10_17 (pc' := 19) rfl rfl rfl ?_
    refine G.aload H20 D10_19 (pc' := 21) rfl rfl rfl ?_
    have B22 := Fld.ext H20.old.2 (hv6 V)
    refine G.getF H20 (wd57 V) Via.refl B22 D10_21 (pc' := 24) rfl ?_
    intro T23 H24
    refine G.aloadN H24 D10_24 (pc' := 25) rfl rfl rfl ?_
    have B25 := Str.ext H24.old.2 (hv21 V)
    refine G.strEq H24 (strwEq V) (wd2 V) (wd59 V) (wd60 V) (wd62 V) (wd61 V) B25 F15 (hv17 V) (hv18 V) (rest := []) (W := 0) rfl rfl D10_25 (pc' := 28) rfl (by decide) (by decide) (by decide) (by decide) ?_ ?_
    ·
      intro T26 H27 c28
      exact absurd c28 (by intro qq; simp at qq)
    ·
      intro T29 H30 c31
      refine G.ifYes H30 D10_28 (by decide) (by decide) (pc' := 34) rfl ?_
      refine G.iinc H30 (v := 2) (L' := #[.val (.ref p0), .val (.ref a5), .val (.int 2), .val (.int 2), .val (.ref uu2)]) D10_34 (pc' := 37) rfl rfl rfl rfl ?_
      refine G.goto H30 D10_37 (by decide) (pc' := 9) rfl ?_
      show Go p e below _ (T29.setTop (mkF m 9 #[.val (.ref p0), .val (.ref a5), .val (.int 2), .val (.int 2), .val (.ref uu2)] []))
      refine G.iloadN H30 D10_9 (pc' := 10) rfl rfl ?_
      refine G.iloadN H30 D10_10 (pc' := 11) rfl rfl ?_
      refine G.icmpYes H30 D10_11 (by decide) (by decide) (pc' := 40) rfl ?_
      refine G.aconstNull H30 D10_40 (pc' := 41) rfl ?_
      have K32 : Keep h0 h1_ [] := (Keep.trans (Keep.refl h0 []) K7 all0)
      exact G.retA H30 (t := (.object "bindery/bindings/BindingType")) rfl rfl rfl D10_41 (so := []) all0 (by decide) (by decide) ⟨rfl, rfl, K32⟩
set_option maxRecDepth 65536 in
set_option maxHeartbeats 40000000 in
theorem rmLaw (V : Env1 Z a0 n0 uu0 uu1 uu2 uu3 uu4 uu5 uu6 uu7 uu8 uu9 uu10 uu11) (x0 : Int32) (x1 : Int32) (x2 : Int32) (x3 : Int32) (h0 : Heap) (hO : Old Z n0 h0) :
    Met Z a0 ELs True n0 l x code maxLocals ret room_1 #[(.int x0), (.int x1), (.int x2), (.int x3)] h0 [] (fun v h so => v = some (.int 1)) := by
  refine Met.of (EWl V) (by first | decide +kernel | rfl) hO (L0 := #[.val (.int x0), .val (.int x1), .val (.int x2), .val (.int x3), .unset, .unset, .unset, .unset, .unset, .unset, .unset, .unset, .unset]) rfl ?_
  intro p e s m below meth c T H
  show Go p e below _ (T.setTop (mkF m 0 #[.val (.int x0), .val (.int x1), .val (.int x2), .val (.int x3), .unset, .unset, .unset, .unset, .unset, .unset, .unset, .unset, .unset] []))
  refine G.iloadN H at_0 (pc' := 1) rfl rfl ?_
  refine G.sipush H at_1 (pc' := 4) rfl (v := 255) rfl ?_
  refine G.iand H at_4 (pc' := 5) rfl ?_
  refine G.i2c H (y := (x2 &&& 255)) at_5 (pc' := 6) rfl (own_c16 (own_u16 (own_and255 _))) ?_
  refine G.istore H (L' := #[.val (.int x0), .val (.int x1), .val (.int x2), .val (.int x3), .val (.int (x2 &&& 255)), .unset, .unset, .unset, .unset, .unset, .unset, .unset, .unset]) at_6 (pc' := 8) rfl rfl ?_
  refine G.iloadN H at_8 (pc' := 9) rfl rfl ?_
  refine G.sipush H at_9 (pc' := 12) rfl (v := 255) rfl ?_
  refine G.iand H at_12 (pc' := 13) rfl ?_
  refine G.i2c H (y := (x3 &&& 255)) at_13 (pc' := 14) rfl (own_c16 (own_u16 (own_and255 _))) ?_
  refine G.istore H (L' := #[.val (.int x0), .val (.int x1), .val (.int x2), .val (.int x3), .val (.int (x2 &&& 255)), .val (.int (x3 &&& 255)), .unset, .unset, .unset, .unset, .unset, .unset, .unset]) at_14 (pc' := 16) rfl rfl ?_
  refine G.iloadN H at_16 (pc' := 17) rfl rfl ?_
  refine G.ldcI H (wd0 V) at_17 (pc' := 19) rfl ?_
  refine G.iand H at_19 (pc' := 20) rfl ?_
  refine G.istore H (L' := #[.val (.int x0), .val (.int x1), .val (.int x2), .val (.int x3), .val (.int (x2 &&& 255)), .val (.int (x3 &&& 255)), .val (.int (x1 &&& 2147483647)), .unset, .unset, .unset, .unset, .unset, .unset]) at_20 (pc' := 22) rfl rfl ?_
  refine G.iloadN H at_22 (pc' := 23) rfl rfl ?_
  refine G.bipush H at_23 (pc' := 25) rfl (v := 7) rfl ?_
  refine G.iand H at_25 (pc' := 26) rfl ?_
  refine G.istore H (L' := #[.val (.int x0), .val (.int x1), .val (.int x2), .val (.int x3), .val (.int (x2 &&& 255)), .val (.int (x3 &&& 255)), .val (.int (x1 &&& 2147483647)), .val (.int (x0 &&& 7)), .unset, .unset, .unset, .unset, .unset]) at_26 (pc' := 28) rfl rfl ?_
  refine G.iload H at_28 (pc' := 30) rfl rfl ?_
  by_cases c1 : (x0 &&& 7) = 0
  ·
    refine G.ifNo H at_30 (pc' := 33) rfl (XT.i0_ne_f c1) ?_
    refine G.new H (wd1 V) (wd2 V) (wd3 V) at_33 (pc' := 36) rfl (by decide) (by decide) ?_
    intro T2 h2_ a3 ga3 H2 E4 A5 D6
    have na3 := H.nle ga3
    refine G.dup H2 at_36 (pc' := 37) rfl rfl ?_
    refine G.callS H2 (m1_inChars V h2_ H2.old) (wd4 V) (wd5 V) (wd6 V) (wd7 V) (by decide) (argsL := []) (rest := [(.ref a3), (.ref a3)]) (W := 2) rfl rfl (lenOf (pd_0) rfl) rfl rfl at_37 (pc' := 40) rfl (by decide) (by decide) (by decide) (by decide) all0 ?_
    intro T7 h7_ v8 s9 H7 Q10
    obtain ⟨a11, k12, rfl, rfl, K13, g14, F15, F16⟩ := Q10
    have na11 : n0 ≤ a11 := Nat.le_trans H2.le g14
    show Go p e below _ (T7.setTop (mkF m 40 #[.val (.int x0), .val (.int x1), .val (.int x2), .val (.int x3), .val (.int (x2 &&& 255)), .val (.int (x3 &&& 255)), .val (.int (x1 &&& 2147483647)), .val (.int (x0 &&& 7)), .unset, .unset, .unset, .unset, .unset] [(.ref a11), (.ref a3), (.ref a3)]))
    have F17 := (Exa.keep A5 K13)
    have F18 : Fld Z h2_ a3 "java/lang/String" "value" "[B" .null := D6 (Or.inr (wd34 V)) (ty := (.array .byte)) (by decide)
    have F19 := (Fld.keep F18 K13 nin0)
    have F20 : Fld Z h2_ a3 "java/lang/String" "coder" "B" (.int 0) := D6 (Or.inr (wd32 V)) (ty := .byte) (by decide)
    have F21 := (Fld.keep F20 K13 nin0)
    refine G.newStr H7 (strw V) (wd2 V) (wd9 V) (wd10 V) (cs := [100, 105, 114, 101, 99, 116, 111, 114, 121, 45, 105, 110]) (n := 12) na3 F17 F19 F21 F15 (hv17 V) (hv18 V) rfl rfl (by decide) (by decide) (cbS (by decide) (cbS (by decide) (cbS (by decide) (cbS (by decide) (cbS (by decide) (cbS (by decide) (cbS (by decide) (cbS (by decide) (cbS (by decide) (cbS (by decide) (cbS (by decide) (cbS (by decide) cb0)))))))))))) (Sf.mem (mG (i := 0) rfl)) (rest := [(.ref a3)]) (W := 1) rfl rfl at_40 (pc' := 43) rfl (by decide) (by decide) (by decide) (by decide) ?_
    intro T22 h22_ t23 k24 g27 H22 K25 S26
    have nt23 : n0 ≤ t23 := Nat.le_trans H7.le g27
    refine G.astore H22 (L' := #[.val (.int x0), .val (.int x1), .val (.int x2), .val (.int x3), .val (.int (x2 &&& 255)), .val (.int (x3 &&& 255)), .val (.int (x1 &&& 2147483647)), .val (.int (x0 &&& 7)), .val (.ref a3), .unset, .unset, .unset, .unset]) at_43 (pc' := 45) rfl rfl rfl ?_
    refine G.getS H22 (wd35 V) Via.refl (Sta.ext H22.old.2 (hv2 V)) at_45 (pc' := 48) rfl ?_
    intro T28 H29
    refine G.astore H29 (L' := #[.val (.int x0), .val (.int x1), .val (.int x2), .val (.int x3), .val (.int (x2 &&& 255)), .val (.int (x3 &&& 255)), .val (.int (x1 &&& 2147483647)), .val (.int (x0 &&& 7)), .val (.ref a3), .val (.ref uu1), .unset, .unset, .unset]) at_48 (pc' := 50) rfl rfl rfl ?_
    refine G.goto H29 at_50 (by decide) (pc' := 922) rfl ?_
    refine G.aload H29 at_922 (pc' := 924) rfl rfl rfl ?_
    refine G.callS H29 (m3_named V a3 t23 k24 h22_ H29.old S26) (wd38 V) (wd39 V) (wd36 V) (wd40 V) (by decide) (argsL := [(.ref a3)]) (rest := []) (W := 0) rfl rfl (lenOf (pd_2) rfl) rfl rfl at_924 (pc' := 927) rfl (by decide) (by decide) (by decide) (by decide) all0 ?_
    intro T30 h30_ v31 s32 H30 Q33
    obtain ⟨rfl, rfl, K34⟩ := Q33
    show Go p e below _ (T30.setTop (mkF m 927 #[.val (.int x0), .val (.int x1), .val (.int x2), .val (.int x3), .val (.int (x2 &&& 255)), .val (.int (x3 &&& 255)), .val (.int (x1 &&& 2147483647)), .val (.int (x0 &&& 7)), .val (.ref a3), .val (.ref uu1), .unset, .unset, .unset] [(.ref uu1)]))
    refine G.aload H30 at_927 (pc' := 929) rfl rfl rfl ?_
    refine G.acmpNo H30 at_929 (pc' := 932) rfl rfl rfl (XT.aa_ne_f rfl) ?_
    refine G.iconst H30 at_932 (pc' := 933) rfl (v := 1) rfl ?_
    refine G.goto H30 at_933 (by decide) (pc' := 937) rfl ?_
    exact G.retN H30 (t := .boolean) rfl (by decide) at_937 (so := []) all0 (by decide) (by decide) rfl
  ·
    refine G.ifYes H at_30 (XT.i0_ne_t c1) (by decide) (pc' := 53) rfl ?_
    refine G.iload H at_53 (pc' := 55) rfl rfl ?_
    refine G.iconst H at_55 (pc' := 56) rfl (v := 1) rfl ?_
    by_cases c35 : (x0 &&& 7) = 1
    ·
      refine G.icmpNo H at_56 (pc' := 59) rfl (XT.ii_ne_f c35) ?_
      refine G.new H (wd1 V) (wd2 V) (wd3 V) at_59 (pc' := 62) rfl (by decide) (by decide) ?_
      intro T36 h36_ a37 ga37 H36 E38 A39 D40
      have na37 := H.nle ga37
      refine G.dup H36 at_62 (pc' := 63) rfl rfl ?_
      refine G.callS H36 (m4_outChars V h36_ H36.old) (wd72 V) (wd73 V) (wd6 V) (wd74 V) (by decide) (argsL := []) (rest := [(.ref a37), (.ref a37)]) (W := 2) rfl rfl (lenOf (pd_0) rfl) rfl rfl at_63 (pc' := 66) rfl (by decide) (by decide) (by decide) (by decide) all0 ?_
      intro T41 h41_ v42 s43 H41 Q44
      obtain ⟨a45, k46, rfl, rfl, K47, g48, F49, F50⟩ := Q44
      have na45 : n0 ≤ a45 := Nat.le_trans H36.le g48
      show Go p e below _ (T41.setTop (mkF m 66 #[.val (.int x0), .val (.int x1), .val (.int x2), .val (.int x3), .val (.int (x2 &&& 255)), .val (.int (x3 &&& 255)), .val (.int (x1 &&& 2147483647)), .val (.int (x0 &&& 7)), .unset, .unset, .unset, .unset, .unset] [(.ref a45), (.ref a37), (.ref a37)]))
      have F51 := (Exa.keep A39 K47)
      have F52 : Fld Z h36_ a37 "java/lang/String" "value" "[B" .null := D40 (Or.inr (wd34 V)) (ty := (.array .byte)) (by decide)
      have F53 := (Fld.keep F52 K47 nin0)
      have F54 : Fld Z h36_ a37 "java/lang/String" "coder" "B" (.int 0) := D40 (Or.inr (wd32 V)) (ty := .byte) (by decide)
      have F55 := (Fld.keep F54 K47 nin0)
      refine G.newStr H41 (strw V) (wd2 V) (wd9 V) (wd10 V) (cs := [100, 105, 114, 101, 99, 116, 111, 114, 121, 45, 111, 117, 116]) (n := 13) na37 F51 F53 F55 F49 (hv17 V) (hv18 V) rfl rfl (by decide) (by decide) (cbS (by decide) (cbS (by decide) (cbS (by decide) (cbS (by decide) (cbS (by decide) (cbS (by decide) (cbS (by decide) (cbS (by decide) (cbS (by decide) (cbS (by decide) (cbS (by decide) (cbS (by decide) (cbS (by decide) cb0))))))))))))) (Sf.mem (mG (i := 0) rfl)) (rest := [(.ref a37)]) (W := 1) rfl rfl at_66 (pc' := 69) rfl (by decide) (by decide) (by decide) (by decide) ?_
      intro T56 h56_ t57 k58 g61 H56 K59 S60
      have nt57 : n0 ≤ t57 := Nat.le_trans H41.le g61
      refine G.astore H56 (L' := #[.val (.int x0), .val (.int x1), .val (.int x2), .val (.int x3), .val (.int (x2 &&& 255)), .val (.int (x3 &&& 255)), .val (.int (x1 &&& 2147483647)), .val (.int (x0 &&& 7)), .val (.ref a37), .unset, .unset, .unset, .unset]) at_69 (pc' := 71) rfl rfl rfl ?_
      refine G.getS H56 (wd75 V) Via.refl (Sta.ext H56.old.2 (hv4 V)) at_71 (pc' := 74) rfl ?_
      intro T62 H63
      refine G.astore H63 (L' := #[.val (.int x0), .val (.int x1), .val (.int x2), .val (.int x3), .val (.int (x2 &&& 255)), .val (.int (x3 &&& 255)), .val (.int (x1 &&& 2147483647)), .val (.int (x0 &&& 7)), .val (.ref a37), .val (.ref uu2), .unset, .unset, .unset]) at_74 (pc' := 76) rfl rfl rfl ?_
      refine G.goto H63 at_76 (by decide) (pc' := 922) rfl ?_
      refine G.aload H63 at_922 (pc' := 924) rfl rfl rfl ?_
      refine G.callS H63 (m5_named V a37 t57 k58 h56_ H63.old S60) (wd38 V) (wd39 V) (wd36 V) (wd40 V) (by decide) (argsL := [(.ref a37)]) (rest := []) (W := 0) rfl rfl (lenOf (pd_2) rfl) rfl rfl at_924 (pc' := 927) rfl (by decide) (by decide) (by decide) (by decide) all0 ?_
      intro T64 h64_ v65 s66 H64 Q67
      obtain ⟨rfl, rfl, K68⟩ := Q67
      show Go p e below _ (T64.setTop (mkF m 927 #[.val (.int x0), .val (.int x1), .val (.int x2), .val (.int x3), .val (.int (x2 &&& 255)), .val (.int (x3 &&& 255)), .val (.int (x1 &&& 2147483647)), .val (.int (x0 &&& 7)), .val (.ref a37), .val (.ref uu2), .unset, .unset, .unset] [(.ref uu2)]))
      refine G.aload H64 at_927 (pc' := 929) rfl rfl rfl ?_
      refine G.acmpNo H64 at_929 (pc' := 932) rfl rfl rfl (XT.aa_ne_f rfl) ?_
      refine G.iconst H64 at_932 (pc' := 933) rfl (v := 1) rfl ?_
      refine G.goto H64 at_933 (by decide) (pc' := 937) rfl ?_
      exact G.retN H64 (t := .boolean) rfl (by decide) at_937 (so := []) all0 (by decide) (by decide) rfl
    ·
      refine G.icmpYes H at_56 (XT.ii_ne_t c35) (by decide) (pc' := 79) rfl ?_
      refine G.iload H at_79 (pc' := 81) rfl rfl ?_
      refine G.iconst H at_81 (pc' := 82) rfl (v := 2) rfl ?_
      by_cases c69 : (x0 &&& 7) = 2
      ·
        refine G.icmpNo H at_82 (pc' := 85) rfl (XT.ii_ne_f c69) ?_
        refine G.callS H (m1_inChars V h0 H.old) (wd4 V) (wd5 V) (wd6 V) (wd7 V) (by decide) (argsL := []) (rest := []) (W := 0) rfl rfl (lenOf (pd_0) rfl) rfl rfl at_85 (pc' := 88) rfl (by decide) (by decide) (by decide) (by decide) all0 ?_
        intro T70 h70_ v71 s72 H70 Q73
        obtain ⟨a74, k75, rfl, rfl, K76, g77, F78, F79⟩ := Q73
        have na74 : n0 ≤ a74 := Nat.le_trans H.le g77
        show Go p e below _ (T70.setTop (mkF m 88 #[.val (.int x0), .val (.int x1), .val (.int x2), .val (.int x3), .val (.int (x2 &&& 255)), .val (.int (x3 &&& 255)), .val (.int (x1 &&& 2147483647)), .val (.int (x0 &&& 7)), .unset, .unset, .unset, .unset, .unset] [(.ref a74)]))
        refine G.astore H70 (L' := #[.val (.int x0), .val (.int x1), .val (.int x2), .val (.int x3), .val (.int (x2 &&& 255)), .val (.int (x3 &&& 255)), .val (.int (x1 &&& 2147483647)), .val (.int (x0 &&& 7)), .unset, .unset, .val (.ref a74), .unset, .unset]) at_88 (pc' := 90) rfl rfl rfl ?_
        refine G.iload H70 at_90 (pc' := 92) rfl rfl ?_
        refine G.bipush H70 at_92 (pc' := 94) rfl (v := 12) rfl ?_
        refine G.irem H70 at_94 (pc' := 95) rfl (by decide) ?_
        refine G.istore H70 (L' := #[.val (.int x0), .val (.int x1), .val (.int x2), .val (.int x3), .val (.int (x2 &&& 255)), .val (.int (x3 &&& 255)), .val (.int (x1 &&& 2147483647)), .val (.int (x0 &&& 7)), .unset, .unset, .val (.ref a74), .val (.int ((x1 &&& 2147483647) % 12)), .unset]) at_95 (pc' := 97) rfl rfl ?_
        exact cut30_97 V ((x1 &&& 2147483647) % 12) x0 x1 x2 x3 a74 k75 ((H70.less all0).mono (C' := 1) (S' := 12) (by decide) (by decide)) (own_r12 _) F78 na74
      ·
        refine G.icmpYes H at_82 (XT.ii_ne_t c69) (by decide) (pc' := 141) rfl ?_
        refine G.iload H at_141 (pc' := 143) rfl rfl ?_
        refine G.iconst H at_143 (pc' := 144) rfl (v := 3) rfl ?_
        by_cases c80 : (x0 &&& 7) = 3
        ·
          refine G.icmpNo H at_144 (pc' := 147) rfl (XT.ii_ne_f c80) ?_
          refine G.callS H (m4_outChars V h0 H.old) (wd72 V) (wd73 V) (wd6 V) (wd74 V) (by decide) (argsL := []) (rest := []) (W := 0) rfl rfl (lenOf (pd_0) rfl) rfl rfl at_147 (pc' := 150) rfl (by decide) (by decide) (by decide) (by decide) all0 ?_
          intro T81 h81_ v82 s83 H81 Q84
          obtain ⟨a85, k86, rfl, rfl, K87, g88, F89, F90⟩ := Q84
          have na85 : n0 ≤ a85 := Nat.le_trans H.le g88
          show Go p e below _ (T81.setTop (mkF m 150 #[.val (.int x0), .val (.int x1), .val (.int x2), .val (.int x3), .val (.int (x2 &&& 255)), .val (.int (x3 &&& 255)), .val (.int (x1 &&& 2147483647)), .val (.int (x0 &&& 7)), .unset, .unset, .unset, .unset, .unset] [(.ref a85)]))
          refine G.astore H81 (L' := #[.val (.int x0), .val (.int x1), .val (.int x2), .val (.int x3), .val (.int (x2 &&& 255)), .val (.int (x3 &&& 255)), .val (.int (x1 &&& 2147483647)), .val (.int (x0 &&& 7)), .unset, .unset, .val (.ref a85), .unset, .unset]) at_150 (pc' := 152) rfl rfl rfl ?_
          refine G.iload H81 at_152 (pc' := 154) rfl rfl ?_
          refine G.bipush H81 at_154 (pc' := 156) rfl (v := 13) rfl ?_
          refine G.irem H81 at_156 (pc' := 157) rfl (by decide) ?_
          refine G.istore H81 (L' := #[.val (.int x0), .val (.int x1), .val (.int x2), .val (.int x3), .val (.int (x2 &&& 255)), .val (.int (x3 &&& 255)), .val (.int (x1 &&& 2147483647)), .val (.int (x0 &&& 7)), .unset, .unset, .val (.ref a85), .val (.int ((x1 &&& 2147483647) % 13)), .unset]) at_157 (pc' := 159) rfl rfl ?_
          exact cut57_159 V ((x1 &&& 2147483647) % 13) x0 x1 x2 x3 a85 k86 ((H81.less all0).mono (C' := 1) (S' := 13) (by decide) (by decide)) (own_r13 _) F89 na85
        ·
          refine G.icmpYes H at_144 (XT.ii_ne_t c80) (by decide) (pc' := 203) rfl ?_
          refine G.iload H at_203 (pc' := 205) rfl rfl ?_
          refine G.iconst H at_205 (pc' := 206) rfl (v := 4) rfl ?_
          by_cases c91 : (x0 &&& 7) = 4
          ·
            refine G.icmpNo H at_206 (pc' := 209) rfl (XT.ii_ne_f c91) ?_
            refine G.iload H at_209 (pc' := 211) rfl rfl ?_
            refine G.iconst H at_211 (pc' := 212) rfl (v := 1) rfl ?_
            refine G.iand H at_212 (pc' := 213) rfl ?_
            by_cases c92 : ((x1 &&& 2147483647) &&& 1) = 0
            ·
              refine G.ifNo H at_213 (pc' := 216) rfl (XT.i0_ne_f c92) ?_
              refine G.new H (wd1 V) (wd2 V) (wd3 V) at_216 (pc' := 219) rfl (by decide) (by decide) ?_
              intro T93 h93_ a94 ga94 H93 E95 A96 D97
              have na94 := H.nle ga94
              refine G.dup H93 at_219 (pc' := 220) rfl rfl ?_
              refine G.bipush H93 at_220 (pc' := 222) rfl (v := 13) rfl ?_
              refine G.newP H93 (aty := .char) (wd8 V) at_222 (pc' := 224) rfl (by decide) (cap := 13) (by decide) (by decide) (by decide) (by decide) (vs := [(.int 0), (.int 0), (.int 0), (.int 0), (.int 0), (.int 0), (.int 0), (.int 0), (.int 0), (.int 0), (.int 0), (.int 0), (.int 0)]) rfl (ad := "[C") rfl ?_
              intro T98 h98_ a99 k102 ga99 H98 E100 A101 X103
              have na99 := H93.nle ga99
              replace A101 : Arv Z h98_ a99 k102 .char 13 [(.int 0), (.int 0), (.int 0), (.int 0), (.int 0), (.int 0), (.int 0), (.int 0), (.int 0), (.int 0), (.int 0), (.int 0), (.int 0)] (.int 0) := A101
              refine G.dup H98 at_224 (pc' := 225) rfl rfl ?_
              refine G.iconst H98 at_225 (pc' := 226) rfl (v := 0) rfl ?_
              refine G.bipush H98 at_226 (pc' := 228) rfl (v := 100) rfl ?_
              refine G.stC H98 A101 (by decide) (i := 0) rfl lB na99 (y := 100) rfl at_228 (pc' := 229) rfl ?_
              intro T104 h104_ H104 W105 A106
              replace A106 : Arv Z h104_ a99 k102 .char 13 [(.int 100), (.int 0), (.int 0), (.int 0), (.int 0), (.int 0), (.int 0), (.int 0), (.int 0), (.int 0), (.int 0), (.int 0), (.int 0)] (.int 0) := A106
              refine G.dup H104 at_229 (pc' := 230) rfl rfl ?_
              refine G.iconst H104 at_230 (pc' := 231) rfl (v := 1) rfl ?_
              refine G.bipush H104 at_231 (pc' := 233) rfl (v := 105) rfl ?_
              refine G.stC H104 A106 (by decide) (i := 1) rfl lB na99 (y := 105) rfl at_233 (pc' := 234) rfl ?_
              intro T107 h107_ H107 W108 A109
              replace A109 : Arv Z h107_ a99 k102 .char 13 [(.int 100), (.int 105), (.int 0), (.int 0), (.int 0), (.int 0), (.int 0), (.int 0), (.int 0), (.int 0), (.int 0), (.int 0), (.int 0)] (.int 0) := A109
              refine G.dup H107 at_234 (pc' := 235) rfl rfl ?_
              refine G.iconst H107 at_235 (pc' := 236) rfl (v := 2) rfl ?_
              refine G.bipush H107 at_236 (pc' := 238) rfl (v := 114) rfl ?_
              refine G.stC H107 A109 (by decide) (i := 2) rfl lB na99 (y := 114) rfl at_238 (pc' := 239) rfl ?_
              intro T110 h110_ H110 W111 A112
              replace A112 : Arv Z h110_ a99 k102 .char 13 [(.int 100), (.int 105), (.int 114), (.int 0), (.int 0), (.int 0), (.int 0), (.int 0), (.int 0), (.int 0), (.int 0), (.int 0), (.int 0)] (.int 0) := A112
              refine G.dup H110 at_239 (pc' := 240) rfl rfl ?_
              refine G.iconst H110 at_240 (pc' := 241) rfl (v := 3) rfl ?_
              refine G.bipush H110 at_241 (pc' := 243) rfl (v := 101) rfl ?_
              refine G.stC H110 A112 (by decide) (i := 3) rfl lB na99 (y := 101) rfl at_243 (pc' := 244) rfl ?_
              intro T113 h113_ H113 W114 A115
              replace A115 : Arv Z h113_ a99 k102 .char 13 [(.int 100), (.int 105), (.int 114), (.int 101), (.int 0), (.int 0), (.int 0), (.int 0), (.int 0), (.int 0), (.int 0), (.int 0), (.int 0)] (.int 0) := A115
              refine G.dup H113 at_244 (pc' := 245) rfl rfl ?_
              refine G.iconst H113 at_245 (pc' := 246) rfl (v := 4) rfl ?_
              refine G.bipush H113 at_246 (pc' := 248) rfl (v := 99) rfl ?_
              refine G.stC H113 A115 (by decide) (i := 4) rfl lB na99 (y := 99) rfl at_248 (pc' := 249) rfl ?_
              intro T116 h116_ H116 W117 A118
              replace A118 : Arv Z h116_ a99 k102 .char 13 [(.int 100), (.int 105), (.int 114), (.int 101), (.int 99), (.int 0), (.int 0), (.int 0), (.int 0), (.int 0), (.int 0), (.int 0), (.int 0)] (.int 0) := A118
              refine G.dup H116 at_249 (pc' := 250) rfl rfl ?_
              refine G.iconst H116 at_250 (pc' := 251) rfl (v := 5) rfl ?_
              refine G.bipush H116 at_251 (pc' := 253) rfl (v := 116) rfl ?_
              refine G.stC H116 A118 (by decide) (i := 5) rfl lB na99 (y := 116) rfl at_253 (pc' := 254) rfl ?_
              intro T119 h119_ H119 W120 A121
              replace A121 : Arv Z h119_ a99 k102 .char 13 [(.int 100), (.int 105), (.int 114), (.int 101), (.int 99), (.int 116), (.int 0), (.int 0), (.int 0), (.int 0), (.int 0), (.int 0), (.int 0)] (.int 0) := A121
              refine G.dup H119 at_254 (pc' := 255) rfl rfl ?_
              refine G.bipush H119 at_255 (pc' := 257) rfl (v := 6) rfl ?_
              refine G.bipush H119 at_257 (pc' := 259) rfl (v := 111) rfl ?_
              refine G.stC H119 A121 (by decide) (i := 6) rfl lB na99 (y := 111) rfl at_259 (pc' := 260) rfl ?_
              intro T122 h122_ H122 W123 A124
              replace A124 : Arv Z h122_ a99 k102 .char 13 [(.int 100), (.int 105), (.int 114), (.int 101), (.int 99), (.int 116), (.int 111), (.int 0), (.int 0), (.int 0), (.int 0), (.int 0), (.int 0)] (.int 0) := A124
              refine G.dup H122 at_260 (pc' := 261) rfl rfl ?_
              refine G.bipush H122 at_261 (pc' := 263) rfl (v := 7) rfl ?_
              refine G.bipush H122 at_263 (pc' := 265) rfl (v := 114) rfl ?_
              refine G.stC H122 A124 (by decide) (i := 7) rfl lB na99 (y := 114) rfl at_265 (pc' := 266) rfl ?_
              intro T125 h125_ H125 W126 A127
              replace A127 : Arv Z h125_ a99 k102 .char 13 [(.int 100), (.int 105), (.int 114), (.int 101), (.int 99), (.int 116), (.int 111), (.int 114), (.int 0), (.int 0), (.int 0), (.int 0), (.int 0)] (.int 0) := A127
              refine G.dup H125 at_266 (pc' := 267) rfl rfl ?_
              refine G.bipush H125 at_267 (pc' := 269) rfl (v := 8) rfl ?_
              refine G.bipush H125 at_269 (pc' := 271) rfl (v := 121) rfl ?_
              refine G.stC H125 A127 (by decide) (i := 8) rfl lB na99 (y := 121) rfl at_271 (pc' := 272) rfl ?_
              intro T128 h128_ H128 W129 A130
              replace A130 : Arv Z h128_ a99 k102 .char 13 [(.int 100), (.int 105), (.int 114), (.int 101), (.int 99), (.int 116), (.int 111), (.int 114), (.int 121), (.int 0), (.int 0), (.int 0), (.int 0)] (.int 0) := A130
              refine G.dup H128 at_272 (pc' := 273) rfl rfl ?_
              refine G.bipush H128 at_273 (pc' := 275) rfl (v := 9) rfl ?_
              refine G.bipush H128 at_275 (pc' := 277) rfl (v := 45) rfl ?_
              refine G.stC H128 A130 (by decide) (i := 9) rfl lB na99 (y := 45) rfl at_277 (pc' := 278) rfl ?_
              intro T131 h131_ H131 W132 A133
              replace A133 : Arv Z h131_ a99 k102 .char 13 [(.int 100), (.int 105), (.int 114), (.int 101), (.int 99), (.int 116), (.int 111), (.int 114), (.int 121), (.int 45), (.int 0), (.int 0), (.int 0)] (.int 0) := A133
              refine G.dup H131 at_278 (pc' := 279) rfl rfl ?_
              refine G.bipush H131 at_279 (pc' := 281) rfl (v := 10) rfl ?_
              refine G.bipush H131 at_281 (pc' := 283) rfl (v := 105) rfl ?_
              refine G.stC H131 A133 (by decide) (i := 10) rfl lB na99 (y := 105) rfl at_283 (pc' := 284) rfl ?_
              intro T134 h134_ H134 W135 A136
              replace A136 : Arv Z h134_ a99 k102 .char 13 [(.int 100), (.int 105), (.int 114), (.int 101), (.int 99), (.int 116), (.int 111), (.int 114), (.int 121), (.int 45), (.int 105), (.int 0), (.int 0)] (.int 0) := A136
              refine G.dup H134 at_284 (pc' := 285) rfl rfl ?_
              refine G.bipush H134 at_285 (pc' := 287) rfl (v := 11) rfl ?_
              refine G.bipush H134 at_287 (pc' := 289) rfl (v := 110) rfl ?_
              refine G.stC H134 A136 (by decide) (i := 11) rfl lB na99 (y := 110) rfl at_289 (pc' := 290) rfl ?_
              intro T137 h137_ H137 W138 A139
              replace A139 : Arv Z h137_ a99 k102 .char 13 [(.int 100), (.int 105), (.int 114), (.int 101), (.int 99), (.int 116), (.int 111), (.int 114), (.int 121), (.int 45), (.int 105), (.int 110), (.int 0)] (.int 0) := A139
              refine G.dup H137 at_290 (pc' := 291) rfl rfl ?_
              refine G.bipush H137 at_291 (pc' := 293) rfl (v := 12) rfl ?_
              refine G.iload H137 at_293 (pc' := 295) rfl rfl ?_
              refine G.stC H137 A139 (by decide) (i := 12) rfl lB na99 (y := (x2 &&& 255)) (own_narC (own_u16 (own_and255 _))) at_295 (pc' := 296) rfl ?_
              intro T140 h140_ H140 W141 A142
              replace A142 : Arv Z h140_ a99 k102 .char 13 [(.int 100), (.int 105), (.int 114), (.int 101), (.int 99), (.int 116), (.int 111), (.int 114), (.int 121), (.int 45), (.int 105), (.int 110), (.int (x2 &&& 255))] (.int 0) := A142
              have K143 : Keep h93_ h140_ [] := (Keep.wr (Keep.wr (Keep.wr (Keep.wr (Keep.wr (Keep.wr (Keep.wr (Keep.wr (Keep.wr (Keep.wr (Keep.wr (Keep.wr (Keep.wr (Keep.ext (Keep.refl h93_ []) E100) W105 (Or.inr (Nat.le_of_eq ga99.symm))) W108 (Or.inr (Nat.le_of_eq ga99.symm))) W111 (Or.inr (Nat.le_of_eq ga99.symm))) W114 (Or.inr (Nat.le_of_eq ga99.symm))) W117 (Or.inr (Nat.le_of_eq ga99.symm))) W120 (Or.inr (Nat.le_of_eq ga99.symm))) W123 (Or.inr (Nat.le_of_eq ga99.symm))) W126 (Or.inr (Nat.le_of_eq ga99.symm))) W129 (Or.inr (Nat.le_of_eq ga99.symm))) W132 (Or.inr (Nat.le_of_eq ga99.symm))) W135 (Or.inr (Nat.le_of_eq ga99.symm))) W138 (Or.inr (Nat.le_of_eq ga99.symm))) W141 (Or.inr (Nat.le_of_eq ga99.symm)))
              have F144 := (Exa.keep A96 K143)
              have F145 : Fld Z h93_ a94 "java/lang/String" "value" "[B" .null := D97 (Or.inr (wd34 V)) (ty := (.array .byte)) (by decide)
              have F146 := (Fld.keep F145 K143 nin0)
              have F147 : Fld Z h93_ a94 "java/lang/String" "coder" "B" (.int 0) := D97 (Or.inr (wd32 V)) (ty := .byte) (by decide)
              have F148 := (Fld.keep F147 K143 nin0)
              refine G.newStr H140 (strw V) (wd2 V) (wd9 V) (wd10 V) (cs := [100, 105, 114, 101, 99, 116, 111, 114, 121, 45, 105, 110, (x2 &&& 255)]) (n := 13) na94 F144 F146 F148 A142 (hv17 V) (hv18 V) rfl rfl (by decide) (by decide) (cbS (by decide) (cbS (by decide) (cbS (by decide) (cbS (by decide) (cbS (by decide) (cbS (by decide) (cbS (by decide) (cbS (by decide) (cbS (by decide) (cbS (by decide) (cbS (by decide) (cbS (by decide) (cbS (own_and255 _) cb0))))))))))))) (Sf.mem (mG (i := 1) rfl)) (rest := [(.ref a94)]) (W := 1) rfl rfl at_296 (pc' := 299) rfl (by decide) (by decide) (by decide) (by decide) ?_
              intro T149 h149_ t150 k151 g154 H149 K152 S153
              have nt150 : n0 ≤ t150 := Nat.le_trans H140.le g154
              refine G.astore H149 (L' := #[.val (.int x0), .val (.int x1), .val (.int x2), .val (.int x3), .val (.int (x2 &&& 255)), .val (.int (x3 &&& 255)), .val (.int (x1 &&& 2147483647)), .val (.int (x0 &&& 7)), .val (.ref a94), .unset, .unset, .unset, .unset]) at_299 (pc' := 301) rfl rfl rfl ?_
              refine G.goto H149 at_301 (by decide) (pc' := 395) rfl ?_
              refine G.aconstNull H149 at_395 (pc' := 396) rfl ?_
              refine G.astore H149 (L' := #[.val (.int x0), .val (.int x1), .val (.int x2), .val (.int x3), .val (.int (x2 &&& 255)), .val (.int (x3 &&& 255)), .val (.int (x1 &&& 2147483647)), .val (.int (x0 &&& 7)), .val (.ref a94), .val .null, .unset, .unset, .unset]) at_396 (pc' := 398) rfl rfl rfl ?_
              refine G.goto H149 at_398 (by decide) (pc' := 922) rfl ?_
              refine G.aload H149 at_922 (pc' := 924) rfl rfl rfl ?_
              refine G.callS H149 (m58_named V a94 t150 k151 (x2 &&& 255) h149_ H149.old S153) (wd38 V) (wd39 V) (wd36 V) (wd40 V) (by decide) (argsL := [(.ref a94)]) (rest := []) (W := 0) rfl rfl (lenOf (pd_2) rfl) rfl rfl at_924 (pc' := 927) rfl (by decide) (by decide) (by decide) (by decide) all0 ?_
              intro T155 h155_ v156 s157 H155 Q158
              obtain ⟨rfl, rfl, K159⟩ := Q158
              show Go p e below _ (T155.setTop (mkF m 927 #[.val (.int x0), .val (.int x1), .val (.int x2), .val (.int x3), .val (.int (x2 &&& 255)), .val (.int (x3 &&& 255)), .val (.int (x1 &&& 2147483647)), .val (.int (x0 &&& 7)), .val (.ref a94), .val .null, .unset, .unset, .unset] [.null]))
              refine G.aload H155 at_927 (pc' := 929) rfl rfl rfl ?_
              refine G.acmpNo H155 at_929 (pc' := 932) rfl rfl rfl (XT.aa_ne_f rfl) ?_
              refine G.iconst H155 at_932 (pc' := 933) rfl (v := 1) rfl ?_
              refine G.goto H155 at_933 (by decide) (pc' := 937) rfl ?_
              exact G.retN H155 (t := .boolean) rfl (by decide) at_937 (so := []) all0 (by decide) (by decide) rfl
            ·
              refine G.ifYes H at_213 (XT.i0_ne_t c92) (by decide) (pc' := 304) rfl ?_
              refine G.new H (wd1 V) (wd2 V) (wd3 V) at_304 (pc' := 307) rfl (by decide) (by decide) ?_
              intro T160 h160_ a161 ga161 H160 E162 A163 D164
              have na161 := H.nle ga161
              refine G.dup H160 at_307 (pc' := 308) rfl rfl ?_
              refine G.bipush H160 at_308 (pc' := 310) rfl (v := 14) rfl ?_
              refine G.newP H160 (aty := .char) (wd8 V) at_310 (pc' := 312) rfl (by decide) (cap := 14) (by decide) (by decide) (by decide) (by decide) (vs := [(.int 0), (.int 0), (.int 0), (.int 0), (.int 0), (.int 0), (.int 0), (.int 0), (.int 0), (.int 0), (.int 0), (.int 0), (.int 0), (.int 0)]) rfl (ad := "[C") rfl ?_
              intro T165 h165_ a166 k169 ga166 H165 E167 A168 X170
              have na166 := H160.nle ga166
              replace A168 : Arv Z h165_ a166 k169 .char 14 [(.int 0), (.int 0), (.int 0), (.int 0), (.int 0), (.int 0), (.int 0), (.int 0), (.int 0), (.int 0), (.int 0), (.int 0), (.int 0), (.int 0)] (.int 0) := A168
              refine G.dup H165 at_312 (pc' := 313) rfl rfl ?_
              refine G.iconst H165 at_313 (pc' := 314) rfl (v := 0) rfl ?_
              refine G.bipush H165 at_314 (pc' := 316) rfl (v := 100) rfl ?_
              refine G.stC H165 A168 (by decide) (i := 0) rfl lB na166 (y := 100) rfl at_316 (pc' := 317) rfl ?_
              intro T171 h171_ H171 W172 A173
              replace A173 : Arv Z h171_ a166 k169 .char 14 [(.int 100), (.int 0), (.int 0), (.int 0), (.int 0), (.int 0), (.int 0), (.int 0), (.int 0), (.int 0), (.int 0), (.int 0), (.int 0), (.int 0)] (.int 0) := A173
              refine G.dup H171 at_317 (pc' := 318) rfl rfl ?_
              refine G.iconst H171 at_318 (pc' := 319) rfl (v := 1) rfl ?_
              refine G.bipush H171 at_319 (pc' := 321) rfl (v := 105) rfl ?_
              refine G.stC H171 A173 (by decide) (i := 1) rfl lB na166 (y := 105) rfl at_321 (pc' := 322) rfl ?_
              intro T174 h174_ H174 W175 A176
              replace A176 : Arv Z h174_ a166 k169 .char 14 [(.int 100), (.int 105), (.int 0), (.int 0), (.int 0), (.int 0), (.int 0), (.int 0), (.int 0), (.int 0), (.int 0), (.int 0), (.int 0), (.int 0)] (.int 0) := A176
              refine G.dup H174 at_322 (pc' := 323) rfl rfl ?_
              refine G.iconst H174 at_323 (pc' := 324) rfl (v := 2) rfl ?_
              refine G.bipush H174 at_324 (pc' := 326) rfl (v := 114) rfl ?_
              refine G.stC H174 A176 (by decide) (i := 2) rfl lB na166 (y := 114) rfl at_326 (pc' := 327) rfl ?_
              intro T177 h177_ H177 W178 A179
              replace A179 : Arv Z h177_ a166 k169 .char 14 [(.int 100), (.int 105), (.int 114), (.int 0), (.int 0), (.int 0), (.int 0), (.int 0), (.int 0), (.int 0), (.int 0), (.int 0), (.int 0), (.int 0)] (.int 0) := A179
              refine G.dup H177 at_327 (pc' := 328) rfl rfl ?_
              refine G.iconst H177 at_328 (pc' := 329) rfl (v := 3) rfl ?_
              refine G.bipush H177 at_329 (pc' := 331) rfl (v := 101) rfl ?_
              refine G.stC H177 A179 (by decide) (i := 3) rfl lB na166 (y := 101) rfl at_331 (pc' := 332) rfl ?_
              intro T180 h180_ H180 W181 A182
              replace A182 : Arv Z h180_ a166 k169 .char 14 [(.int 100), (.int 105), (.int 114), (.int 101), (.int 0), (.int 0), (.int 0), (.int 0), (.int 0), (.int 0), (.int 0), (.int 0), (.int 0), (.int 0)] (.int 0) := A182
              refine G.dup H180 at_332 (pc' := 333) rfl rfl ?_
              refine G.iconst H180 at_333 (pc' := 334) rfl (v := 4) rfl ?_
              refine G.bipush H180 at_334 (pc' := 336) rfl (v := 99) rfl ?_
              refine G.stC H180 A182 (by decide) (i := 4) rfl lB na166 (y := 99) rfl at_336 (pc' := 337) rfl ?_
              intro T183 h183_ H183 W184 A185
              replace A185 : Arv Z h183_ a166 k169 .char 14 [(.int 100), (.int 105), (.int 114), (.int 101), (.int 99), (.int 0), (.int 0), (.int 0), (.int 0), (.int 0), (.int 0), (.int 0), (.int 0), (.int 0)] (.int 0) := A185
              refine G.dup H183 at_337 (pc' := 338) rfl rfl ?_
              refine G.iconst H183 at_338 (pc' := 339) rfl (v := 5) rfl ?_
              refine G.bipush H183 at_339 (pc' := 341) rfl (v := 116) rfl ?_
              refine G.stC H183 A185 (by decide) (i := 5) rfl lB na166 (y := 116) rfl at_341 (pc' := 342) rfl ?_
              intro T186 h186_ H186 W187 A188
              replace A188 : Arv Z h186_ a166 k169 .char 14 [(.int 100), (.int 105), (.int 114), (.int 101), (.int 99), (.int 116), (.int 0), (.int 0), (.int 0), (.int 0), (.int 0), (.int 0), (.int 0), (.int 0)] (.int 0) := A188
              refine G.dup H186 at_342 (pc' := 343) rfl rfl ?_
              refine G.bipush H186 at_343 (pc' := 345) rfl (v := 6) rfl ?_
              refine G.bipush H186 at_345 (pc' := 347) rfl (v := 111) rfl ?_
              refine G.stC H186 A188 (by decide) (i := 6) rfl lB na166 (y := 111) rfl at_347 (pc' := 348) rfl ?_
              intro T189 h189_ H189 W190 A191
              replace A191 : Arv Z h189_ a166 k169 .char 14 [(.int 100), (.int 105), (.int 114), (.int 101), (.int 99), (.int 116), (.int 111), (.int 0), (.int 0), (.int 0), (.int 0), (.int 0), (.int 0), (.int 0)] (.int 0) := A191
              refine G.dup H189 at_348 (pc' := 349) rfl rfl ?_
              refine G.bipush H189 at_349 (pc' := 351) rfl (v := 7) rfl ?_
              refine G.bipush H189 at_351 (pc' := 353) rfl (v := 114) rfl ?_
              refine G.stC H189 A191 (by decide) (i := 7) rfl lB na166 (y := 114) rfl at_353 (pc' := 354) rfl ?_
              intro T192 h192_ H192 W193 A194
              replace A194 : Arv Z h192_ a166 k169 .char 14 [(.int 100), (.int 105), (.int 114), (.int 101), (.int 99), (.int 116), (.int 111), (.int 114), (.int 0), (.int 0), (.int 0), (.int 0), (.int 0), (.int 0)] (.int 0) := A194
              refine G.dup H192 at_354 (pc' := 355) rfl rfl ?_
              refine G.bipush H192 at_355 (pc' := 357) rfl (v := 8) rfl ?_
              refine G.bipush H192 at_357 (pc' := 359) rfl (v := 121) rfl ?_
              refine G.stC H192 A194 (by decide) (i := 8) rfl lB na166 (y := 121) rfl at_359 (pc' := 360) rfl ?_
              intro T195 h195_ H195 W196 A197
              replace A197 : Arv Z h195_ a166 k169 .char 14 [(.int 100), (.int 105), (.int 114), (.int 101), (.int 99), (.int 116), (.int 111), (.int 114), (.int 121), (.int 0), (.int 0), (.int 0), (.int 0), (.int 0)] (.int 0) := A197
              refine G.dup H195 at_360 (pc' := 361) rfl rfl ?_
              refine G.bipush H195 at_361 (pc' := 363) rfl (v := 9) rfl ?_
              refine G.bipush H195 at_363 (pc' := 365) rfl (v := 45) rfl ?_
              refine G.stC H195 A197 (by decide) (i := 9) rfl lB na166 (y := 45) rfl at_365 (pc' := 366) rfl ?_
              intro T198 h198_ H198 W199 A200
              replace A200 : Arv Z h198_ a166 k169 .char 14 [(.int 100), (.int 105), (.int 114), (.int 101), (.int 99), (.int 116), (.int 111), (.int 114), (.int 121), (.int 45), (.int 0), (.int 0), (.int 0), (.int 0)] (.int 0) := A200
              refine G.dup H198 at_366 (pc' := 367) rfl rfl ?_
              refine G.bipush H198 at_367 (pc' := 369) rfl (v := 10) rfl ?_
              refine G.bipush H198 at_369 (pc' := 371) rfl (v := 111) rfl ?_
              refine G.stC H198 A200 (by decide) (i := 10) rfl lB na166 (y := 111) rfl at_371 (pc' := 372) rfl ?_
              intro T201 h201_ H201 W202 A203
              replace A203 : Arv Z h201_ a166 k169 .char 14 [(.int 100), (.int 105), (.int 114), (.int 101), (.int 99), (.int 116), (.int 111), (.int 114), (.int 121), (.int 45), (.int 111), (.int 0), (.int 0), (.int 0)] (.int 0) := A203
              refine G.dup H201 at_372 (pc' := 373) rfl rfl ?_
              refine G.bipush H201 at_373 (pc' := 375) rfl (v := 11) rfl ?_
              refine G.bipush H201 at_375 (pc' := 377) rfl (v := 117) rfl ?_
              refine G.stC H201 A203 (by decide) (i := 11) rfl lB na166 (y := 117) rfl at_377 (pc' := 378) rfl ?_
              intro T204 h204_ H204 W205 A206
              replace A206 : Arv Z h204_ a166 k169 .char 14 [(.int 100), (.int 105), (.int 114), (.int 101), (.int 99), (.int 116), (.int 111), (.int 114), (.int 121), (.int 45), (.int 111), (.int 117), (.int 0), (.int 0)] (.int 0) := A206
              refine G.dup H204 at_378 (pc' := 379) rfl rfl ?_
              refine G.bipush H204 at_379 (pc' := 381) rfl (v := 12) rfl ?_
              refine G.bipush H204 at_381 (pc' := 383) rfl (v := 116) rfl ?_
              refine G.stC H204 A206 (by decide) (i := 12) rfl lB na166 (y := 116) rfl at_383 (pc' := 384) rfl ?_
              intro T207 h207_ H207 W208 A209
              replace A209 : Arv Z h207_ a166 k169 .char 14 [(.int 100), (.int 105), (.int 114), (.int 101), (.int 99), (.int 116), (.int 111), (.int 114), (.int 121), (.int 45), (.int 111), (.int 117), (.int 116), (.int 0)] (.int 0) := A209
              refine G.dup H207 at_384 (pc' := 385) rfl rfl ?_
              refine G.bipush H207 at_385 (pc' := 387) rfl (v := 13) rfl ?_
              refine G.iload H207 at_387 (pc' := 389) rfl rfl ?_
              refine G.stC H207 A209 (by decide) (i := 13) rfl lB na166 (y := (x2 &&& 255)) (own_narC (own_u16 (own_and255 _))) at_389 (pc' := 390) rfl ?_
              intro T210 h210_ H210 W211 A212
              replace A212 : Arv Z h210_ a166 k169 .char 14 [(.int 100), (.int 105), (.int 114), (.int 101), (.int 99), (.int 116), (.int 111), (.int 114), (.int 121), (.int 45), (.int 111), (.int 117), (.int 116), (.int (x2 &&& 255))] (.int 0) := A212
              have K213 : Keep h160_ h210_ [] := (Keep.wr (Keep.wr (Keep.wr (Keep.wr (Keep.wr (Keep.wr (Keep.wr (Keep.wr (Keep.wr (Keep.wr (Keep.wr (Keep.wr (Keep.wr (Keep.wr (Keep.ext (Keep.refl h160_ []) E167) W172 (Or.inr (Nat.le_of_eq ga166.symm))) W175 (Or.inr (Nat.le_of_eq ga166.symm))) W178 (Or.inr (Nat.le_of_eq ga166.symm))) W181 (Or.inr (Nat.le_of_eq ga166.symm))) W184 (Or.inr (Nat.le_of_eq ga166.symm))) W187 (Or.inr (Nat.le_of_eq ga166.symm))) W190 (Or.inr (Nat.le_of_eq ga166.symm))) W193 (Or.inr (Nat.le_of_eq ga166.symm))) W196 (Or.inr (Nat.le_of_eq ga166.symm))) W199 (Or.inr (Nat.le_of_eq ga166.symm))) W202 (Or.inr (Nat.le_of_eq ga166.symm))) W205 (Or.inr (Nat.le_of_eq ga166.symm))) W208 (Or.inr (Nat.le_of_eq ga166.symm))) W211 (Or.inr (Nat.le_of_eq ga166.symm)))
              have F214 := (Exa.keep A163 K213)
              have F215 : Fld Z h160_ a161 "java/lang/String" "value" "[B" .null := D164 (Or.inr (wd34 V)) (ty := (.array .byte)) (by decide)
              have F216 := (Fld.keep F215 K213 nin0)
              have F217 : Fld Z h160_ a161 "java/lang/String" "coder" "B" (.int 0) := D164 (Or.inr (wd32 V)) (ty := .byte) (by decide)
              have F218 := (Fld.keep F217 K213 nin0)
              refine G.newStr H210 (strw V) (wd2 V) (wd9 V) (wd10 V) (cs := [100, 105, 114, 101, 99, 116, 111, 114, 121, 45, 111, 117, 116, (x2 &&& 255)]) (n := 14) na161 F214 F216 F218 A212 (hv17 V) (hv18 V) rfl rfl (by decide) (by decide) (cbS (by decide) (cbS (by decide) (cbS (by decide) (cbS (by decide) (cbS (by decide) (cbS (by decide) (cbS (by decide) (cbS (by decide) (cbS (by decide) (cbS (by decide) (cbS (by decide) (cbS (by decide) (cbS (by decide) (cbS (own_and255 _) cb0)))))))))))))) (Sf.mem (mG (i := 1) rfl)) (rest := [(.ref a161)]) (W := 1) rfl rfl at_390 (pc' := 393) rfl (by decide) (by decide) (by decide) (by decide) ?_
              intro T219 h219_ t220 k221 g224 H219 K222 S223
              have nt220 : n0 ≤ t220 := Nat.le_trans H210.le g224
              refine G.astore H219 (L' := #[.val (.int x0), .val (.int x1), .val (.int x2), .val (.int x3), .val (.int (x2 &&& 255)), .val (.int (x3 &&& 255)), .val (.int (x1 &&& 2147483647)), .val (.int (x0 &&& 7)), .val (.ref a161), .unset, .unset, .unset, .unset]) at_393 (pc' := 395) rfl rfl rfl ?_
              refine G.aconstNull H219 at_395 (pc' := 396) rfl ?_
              refine G.astore H219 (L' := #[.val (.int x0), .val (.int x1), .val (.int x2), .val (.int x3), .val (.int (x2 &&& 255)), .val (.int (x3 &&& 255)), .val (.int (x1 &&& 2147483647)), .val (.int (x0 &&& 7)), .val (.ref a161), .val .null, .unset, .unset, .unset]) at_396 (pc' := 398) rfl rfl rfl ?_
              refine G.goto H219 at_398 (by decide) (pc' := 922) rfl ?_
              refine G.aload H219 at_922 (pc' := 924) rfl rfl rfl ?_
              refine G.callS H219 (m59_named V a161 t220 k221 (x2 &&& 255) h219_ H219.old S223) (wd38 V) (wd39 V) (wd36 V) (wd40 V) (by decide) (argsL := [(.ref a161)]) (rest := []) (W := 0) rfl rfl (lenOf (pd_2) rfl) rfl rfl at_924 (pc' := 927) rfl (by decide) (by decide) (by decide) (by decide) all0 ?_
              intro T225 h225_ v226 s227 H225 Q228
              obtain ⟨rfl, rfl, K229⟩ := Q228
              show Go p e below _ (T225.setTop (mkF m 927 #[.val (.int x0), .val (.int x1), .val (.int x2), .val (.int x3), .val (.int (x2 &&& 255)), .val (.int (x3 &&& 255)), .val (.int (x1 &&& 2147483647)), .val (.int (x0 &&& 7)), .val (.ref a161), .val .null, .unset, .unset, .unset] [.null]))
              refine G.aload H225 at_927 (pc' := 929) rfl rfl rfl ?_
              refine G.acmpNo H225 at_929 (pc' := 932) rfl rfl rfl (XT.aa_ne_f rfl) ?_
              refine G.iconst H225 at_932 (pc' := 933) rfl (v := 1) rfl ?_
              refine G.goto H225 at_933 (by decide) (pc' := 937) rfl ?_
              exact G.retN H225 (t := .boolean) rfl (by decide) at_937 (so := []) all0 (by decide) (by decide) rfl
          ·
            refine G.icmpYes H at_206 (XT.ii_ne_t c91) (by decide) (pc' := 401) rfl ?_
            refine G.iload H at_401 (pc' := 403) rfl rfl ?_
            refine G.iconst H at_403 (pc' := 404) rfl (v := 5) rfl ?_
            by_cases c230 : (x0 &&& 7) = 5
            ·
              refine G.icmpNo H at_404 (pc' := 407) rfl (XT.ii_ne_f c230) ?_
              refine G.iload H at_407 (pc' := 409) rfl rfl ?_
              refine G.iconst H at_409 (pc' := 410) rfl (v := 3) rfl ?_
              refine G.iand H at_410 (pc' := 411) rfl ?_
              refine G.istore H (L' := #[.val (.int x0), .val (.int x1), .val (.int x2), .val (.int x3), .val (.int (x2 &&& 255)), .val (.int (x3 &&& 255)), .val (.int (x1 &&& 2147483647)), .val (.int (x0 &&& 7)), .unset, .unset, .val (.int ((x1 &&& 2147483647) &&& 3)), .unset, .unset]) at_411 (pc' := 413) rfl rfl ?_
              refine G.iload H at_413 (pc' := 415) rfl rfl ?_
              by_cases c231 : ((x1 &&& 2147483647) &&& 3) = 0
              ·
                refine G.ifNo H at_415 (pc' := 418) rfl (XT.i0_ne_f c231) ?_
                refine G.new H (wd1 V) (wd2 V) (wd3 V) at_418 (pc' := 421) rfl (by decide) (by decide) ?_
                intro T232 h232_ a233 ga233 H232 E234 A235 D236
                have na233 := H.nle ga233
                refine G.dup H232 at_421 (pc' := 422) rfl rfl ?_
                refine G.bipush H232 at_422 (pc' := 424) rfl (v := 11) rfl ?_
                refine G.newP H232 (aty := .char) (wd8 V) at_424 (pc' := 426) rfl (by decide) (cap := 11) (by decide) (by decide) (by decide) (by decide) (vs := [(.int 0), (.int 0), (.int 0), (.int 0), (.int 0), (.int 0), (.int 0), (.int 0), (.int 0), (.int 0), (.int 0)]) rfl (ad := "[C") rfl ?_
                intro T237 h237_ a238 k241 ga238 H237 E239 A240 X242
                have na238 := H232.nle ga238
                replace A240 : Arv Z h237_ a238 k241 .char 11 [(.int 0), (.int 0), (.int 0), (.int 0), (.int 0), (.int 0), (.int 0), (.int 0), (.int 0), (.int 0), (.int 0)] (.int 0) := A240
                refine G.dup H237 at_426 (pc' := 427) rfl rfl ?_
                refine G.iconst H237 at_427 (pc' := 428) rfl (v := 0) rfl ?_
                refine G.bipush H237 at_428 (pc' := 430) rfl (v := 100) rfl ?_
                refine G.stC H237 A240 (by decide) (i := 0) rfl lB na238 (y := 100) rfl at_430 (pc' := 431) rfl ?_
                intro T243 h243_ H243 W244 A245
                replace A245 : Arv Z h243_ a238 k241 .char 11 [(.int 100), (.int 0), (.int 0), (.int 0), (.int 0), (.int 0), (.int 0), (.int 0), (.int 0), (.int 0), (.int 0)] (.int 0) := A245
                refine G.dup H243 at_431 (pc' := 432) rfl rfl ?_
                refine G.iconst H243 at_432 (pc' := 433) rfl (v := 1) rfl ?_
                refine G.bipush H243 at_433 (pc' := 435) rfl (v := 105) rfl ?_
                refine G.stC H243 A245 (by decide) (i := 1) rfl lB na238 (y := 105) rfl at_435 (pc' := 436) rfl ?_
                intro T246 h246_ H246 W247 A248
                replace A248 : Arv Z h246_ a238 k241 .char 11 [(.int 100), (.int 105), (.int 0), (.int 0), (.int 0), (.int 0), (.int 0), (.int 0), (.int 0), (.int 0), (.int 0)] (.int 0) := A248
                refine G.dup H246 at_436 (pc' := 437) rfl rfl ?_
                refine G.iconst H246 at_437 (pc' := 438) rfl (v := 2) rfl ?_
                refine G.bipush H246 at_438 (pc' := 440) rfl (v := 114) rfl ?_
                refine G.stC H246 A248 (by decide) (i := 2) rfl lB na238 (y := 114) rfl at_440 (pc' := 441) rfl ?_
                intro T249 h249_ H249 W250 A251
                replace A251 : Arv Z h249_ a238 k241 .char 11 [(.int 100), (.int 105), (.int 114), (.int 0), (.int 0), (.int 0), (.int 0), (.int 0), (.int 0), (.int 0), (.int 0)] (.int 0) := A251
                refine G.dup H249 at_441 (pc' := 442) rfl rfl ?_
                refine G.iconst H249 at_442 (pc' := 443) rfl (v := 3) rfl ?_
                refine G.bipush H249 at_443 (pc' := 445) rfl (v := 101) rfl ?_
                refine G.stC H249 A251 (by decide) (i := 3) rfl lB na238 (y := 101) rfl at_445 (pc' := 446) rfl ?_
                intro T252 h252_ H252 W253 A254
                replace A254 : Arv Z h252_ a238 k241 .char 11 [(.int 100), (.int 105), (.int 114), (.int 101), (.int 0), (.int 0), (.int 0), (.int 0), (.int 0), (.int 0), (.int 0)] (.int 0) := A254
                refine G.dup H252 at_446 (pc' := 447) rfl rfl ?_
                refine G.iconst H252 at_447 (pc' := 448) rfl (v := 4) rfl ?_
                refine G.bipush H252 at_448 (pc' := 450) rfl (v := 99) rfl ?_
                refine G.stC H252 A254 (by decide) (i := 4) rfl lB na238 (y := 99) rfl at_450 (pc' := 451) rfl ?_
                intro T255 h255_ H255 W256 A257
                replace A257 : Arv Z h255_ a238 k241 .char 11 [(.int 100), (.int 105), (.int 114), (.int 101), (.int 99), (.int 0), (.int 0), (.int 0), (.int 0), (.int 0), (.int 0)] (.int 0) := A257
                refine G.dup H255 at_451 (pc' := 452) rfl rfl ?_
                refine G.iconst H255 at_452 (pc' := 453) rfl (v := 5) rfl ?_
                refine G.bipush H255 at_453 (pc' := 455) rfl (v := 116) rfl ?_
                refine G.stC H255 A257 (by decide) (i := 5) rfl lB na238 (y := 116) rfl at_455 (pc' := 456) rfl ?_
                intro T258 h258_ H258 W259 A260
                replace A260 : Arv Z h258_ a238 k241 .char 11 [(.int 100), (.int 105), (.int 114), (.int 101), (.int 99), (.int 116), (.int 0), (.int 0), (.int 0), (.int 0), (.int 0)] (.int 0) := A260
                refine G.dup H258 at_456 (pc' := 457) rfl rfl ?_
                refine G.bipush H258 at_457 (pc' := 459) rfl (v := 6) rfl ?_
                refine G.bipush H258 at_459 (pc' := 461) rfl (v := 111) rfl ?_
                refine G.stC H258 A260 (by decide) (i := 6) rfl lB na238 (y := 111) rfl at_461 (pc' := 462) rfl ?_
                intro T261 h261_ H261 W262 A263
                replace A263 : Arv Z h261_ a238 k241 .char 11 [(.int 100), (.int 105), (.int 114), (.int 101), (.int 99), (.int 116), (.int 111), (.int 0), (.int 0), (.int 0), (.int 0)] (.int 0) := A263
                refine G.dup H261 at_462 (pc' := 463) rfl rfl ?_
                refine G.bipush H261 at_463 (pc' := 465) rfl (v := 7) rfl ?_
                refine G.bipush H261 at_465 (pc' := 467) rfl (v := 114) rfl ?_
                refine G.stC H261 A263 (by decide) (i := 7) rfl lB na238 (y := 114) rfl at_467 (pc' := 468) rfl ?_
                intro T264 h264_ H264 W265 A266
                replace A266 : Arv Z h264_ a238 k241 .char 11 [(.int 100), (.int 105), (.int 114), (.int 101), (.int 99), (.int 116), (.int 111), (.int 114), (.int 0), (.int 0), (.int 0)] (.int 0) := A266
                refine G.dup H264 at_468 (pc' := 469) rfl rfl ?_
                refine G.bipush H264 at_469 (pc' := 471) rfl (v := 8) rfl ?_
                refine G.bipush H264 at_471 (pc' := 473) rfl (v := 121) rfl ?_
                refine G.stC H264 A266 (by decide) (i := 8) rfl lB na238 (y := 121) rfl at_473 (pc' := 474) rfl ?_
                intro T267 h267_ H267 W268 A269
                replace A269 : Arv Z h267_ a238 k241 .char 11 [(.int 100), (.int 105), (.int 114), (.int 101), (.int 99), (.int 116), (.int 111), (.int 114), (.int 121), (.int 0), (.int 0)] (.int 0) := A269
                refine G.dup H267 at_474 (pc' := 475) rfl rfl ?_
                refine G.bipush H267 at_475 (pc' := 477) rfl (v := 9) rfl ?_
                refine G.bipush H267 at_477 (pc' := 479) rfl (v := 45) rfl ?_
                refine G.stC H267 A269 (by decide) (i := 9) rfl lB na238 (y := 45) rfl at_479 (pc' := 480) rfl ?_
                intro T270 h270_ H270 W271 A272
                replace A272 : Arv Z h270_ a238 k241 .char 11 [(.int 100), (.int 105), (.int 114), (.int 101), (.int 99), (.int 116), (.int 111), (.int 114), (.int 121), (.int 45), (.int 0)] (.int 0) := A272
                refine G.dup H270 at_480 (pc' := 481) rfl rfl ?_
                refine G.bipush H270 at_481 (pc' := 483) rfl (v := 10) rfl ?_
                refine G.bipush H270 at_483 (pc' := 485) rfl (v := 105) rfl ?_
                refine G.stC H270 A272 (by decide) (i := 10) rfl lB na238 (y := 105) rfl at_485 (pc' := 486) rfl ?_
                intro T273 h273_ H273 W274 A275
                replace A275 : Arv Z h273_ a238 k241 .char 11 [(.int 100), (.int 105), (.int 114), (.int 101), (.int 99), (.int 116), (.int 111), (.int 114), (.int 121), (.int 45), (.int 105)] (.int 0) := A275
                have K276 : Keep h232_ h273_ [] := (Keep.wr (Keep.wr (Keep.wr (Keep.wr (Keep.wr (Keep.wr (Keep.wr (Keep.wr (Keep.wr (Keep.wr (Keep.wr (Keep.ext (Keep.refl h232_ []) E239) W244 (Or.inr (Nat.le_of_eq ga238.symm))) W247 (Or.inr (Nat.le_of_eq ga238.symm))) W250 (Or.inr (Nat.le_of_eq ga238.symm))) W253 (Or.inr (Nat.le_of_eq ga238.symm))) W256 (Or.inr (Nat.le_of_eq ga238.symm))) W259 (Or.inr (Nat.le_of_eq ga238.symm))) W262 (Or.inr (Nat.le_of_eq ga238.symm))) W265 (Or.inr (Nat.le_of_eq ga238.symm))) W268 (Or.inr (Nat.le_of_eq ga238.symm))) W271 (Or.inr (Nat.le_of_eq ga238.symm))) W274 (Or.inr (Nat.le_of_eq ga238.symm)))
                have F277 := (Exa.keep A235 K276)
                have F278 : Fld Z h232_ a233 "java/lang/String" "value" "[B" .null := D236 (Or.inr (wd34 V)) (ty := (.array .byte)) (by decide)
                have F279 := (Fld.keep F278 K276 nin0)
                have F280 : Fld Z h232_ a233 "java/lang/String" "coder" "B" (.int 0) := D236 (Or.inr (wd32 V)) (ty := .byte) (by decide)
                have F281 := (Fld.keep F280 K276 nin0)
                refine G.newStr H273 (strw V) (wd2 V) (wd9 V) (wd10 V) (cs := [100, 105, 114, 101, 99, 116, 111, 114, 121, 45, 105]) (n := 11) na233 F277 F279 F281 A275 (hv17 V) (hv18 V) rfl rfl (by decide) (by decide) (cbS (by decide) (cbS (by decide) (cbS (by decide) (cbS (by decide) (cbS (by decide) (cbS (by decide) (cbS (by decide) (cbS (by decide) (cbS (by decide) (cbS (by decide) (cbS (by decide) cb0))))))))))) (Sf.mem (mG (i := 1) rfl)) (rest := [(.ref a233)]) (W := 1) rfl rfl at_486 (pc' := 489) rfl (by decide) (by decide) (by decide) (by decide) ?_
                intro T282 h282_ t283 k284 g287 H282 K285 S286
                have nt283 : n0 ≤ t283 := Nat.le_trans H273.le g287
                refine G.astore H282 (L' := #[.val (.int x0), .val (.int x1), .val (.int x2), .val (.int x3), .val (.int (x2 &&& 255)), .val (.int (x3 &&& 255)), .val (.int (x1 &&& 2147483647)), .val (.int (x0 &&& 7)), .val (.ref a233), .unset, .val (.int ((x1 &&& 2147483647) &&& 3)), .unset, .unset]) at_489 (pc' := 491) rfl rfl rfl ?_
                refine G.goto H282 at_491 (by decide) (pc' := 743) rfl ?_
                refine G.aconstNull H282 at_743 (pc' := 744) rfl ?_
                refine G.astore H282 (L' := #[.val (.int x0), .val (.int x1), .val (.int x2), .val (.int x3), .val (.int (x2 &&& 255)), .val (.int (x3 &&& 255)), .val (.int (x1 &&& 2147483647)), .val (.int (x0 &&& 7)), .val (.ref a233), .val .null, .val (.int ((x1 &&& 2147483647) &&& 3)), .unset, .unset]) at_744 (pc' := 746) rfl rfl rfl ?_
                refine G.goto H282 at_746 (by decide) (pc' := 922) rfl ?_
                refine G.aload H282 at_922 (pc' := 924) rfl rfl rfl ?_
                refine G.callS H282 (m60_named V a233 t283 k284 h282_ H282.old S286) (wd38 V) (wd39 V) (wd36 V) (wd40 V) (by decide) (argsL := [(.ref a233)]) (rest := []) (W := 0) rfl rfl (lenOf (pd_2) rfl) rfl rfl at_924 (pc' := 927) rfl (by decide) (by decide) (by decide) (by decide) all0 ?_
                intro T288 h288_ v289 s290 H288 Q291
                obtain ⟨rfl, rfl, K292⟩ := Q291
                show Go p e below _ (T288.setTop (mkF m 927 #[.val (.int x0), .val (.int x1), .val (.int x2), .val (.int x3), .val (.int (x2 &&& 255)), .val (.int (x3 &&& 255)), .val (.int (x1 &&& 2147483647)), .val (.int (x0 &&& 7)), .val (.ref a233), .val .null, .val (.int ((x1 &&& 2147483647) &&& 3)), .unset, .unset] [.null]))
                refine G.aload H288 at_927 (pc' := 929) rfl rfl rfl ?_
                refine G.acmpNo H288 at_929 (pc' := 932) rfl rfl rfl (XT.aa_ne_f rfl) ?_
                refine G.iconst H288 at_932 (pc' := 933) rfl (v := 1) rfl ?_
                refine G.goto H288 at_933 (by decide) (pc' := 937) rfl ?_
                exact G.retN H288 (t := .boolean) rfl (by decide) at_937 (so := []) all0 (by decide) (by decide) rfl
              ·
                refine G.ifYes H at_415 (XT.i0_ne_t c231) (by decide) (pc' := 494) rfl ?_
                refine G.iload H at_494 (pc' := 496) rfl rfl ?_
                refine G.iconst H at_496 (pc' := 497) rfl (v := 1) rfl ?_
                by_cases c293 : ((x1 &&& 2147483647) &&& 3) = 1
                ·
                  refine G.icmpNo H at_497 (pc' := 500) rfl (XT.ii_ne_f c293) ?_
                  refine G.new H (wd1 V) (wd2 V) (wd3 V) at_500 (pc' := 503) rfl (by decide) (by decide) ?_
                  intro T294 h294_ a295 ga295 H294 E296 A297 D298
                  have na295 := H.nle ga295
                  refine G.dup H294 at_503 (pc' := 504) rfl rfl ?_
                  refine G.bipush H294 at_504 (pc' := 506) rfl (v := 12) rfl ?_
                  refine G.newP H294 (aty := .char) (wd8 V) at_506 (pc' := 508) rfl (by decide) (cap := 12) (by decide) (by decide) (by decide) (by decide) (vs := [(.int 0), (.int 0), (.int 0), (.int 0), (.int 0), (.int 0), (.int 0), (.int 0), (.int 0), (.int 0), (.int 0), (.int 0)]) rfl (ad := "[C") rfl ?_
                  intro T299 h299_ a300 k303 ga300 H299 E301 A302 X304
                  have na300 := H294.nle ga300
                  replace A302 : Arv Z h299_ a300 k303 .char 12 [(.int 0), (.int 0), (.int 0), (.int 0), (.int 0), (.int 0), (.int 0), (.int 0), (.int 0), (.int 0), (.int 0), (.int 0)] (.int 0) := A302
                  refine G.dup H299 at_508 (pc' := 509) rfl rfl ?_
                  refine G.iconst H299 at_509 (pc' := 510) rfl (v := 0) rfl ?_
                  refine G.bipush H299 at_510 (pc' := 512) rfl (v := 100) rfl ?_
                  refine G.stC H299 A302 (by decide) (i := 0) rfl lB na300 (y := 100) rfl at_512 (pc' := 513) rfl ?_
                  intro T305 h305_ H305 W306 A307
                  replace A307 : Arv Z h305_ a300 k303 .char 12 [(.int 100), (.int 0), (.int 0), (.int 0), (.int 0), (.int 0), (.int 0), (.int 0), (.int 0), (.int 0), (.int 0), (.int 0)] (.int 0) := A307
                  refine G.dup H305 at_513 (pc' := 514) rfl rfl ?_
                  refine G.iconst H305 at_514 (pc' := 515) rfl (v := 1) rfl ?_
                  refine G.bipush H305 at_515 (pc' := 517) rfl (v := 105) rfl ?_
                  refine G.stC H305 A307 (by decide) (i := 1) rfl lB na300 (y := 105) rfl at_517 (pc' := 518) rfl ?_
                  intro T308 h308_ H308 W309 A310
                  replace A310 : Arv Z h308_ a300 k303 .char 12 [(.int 100), (.int 105), (.int 0), (.int 0), (.int 0), (.int 0), (.int 0), (.int 0), (.int 0), (.int 0), (.int 0), (.int 0)] (.int 0) := A310
                  refine G.dup H308 at_518 (pc' := 519) rfl rfl ?_
                  refine G.iconst H308 at_519 (pc' := 520) rfl (v := 2) rfl ?_
                  refine G.bipush H308 at_520 (pc' := 522) rfl (v := 114) rfl ?_
                  refine G.stC H308 A310 (by decide) (i := 2) rfl lB na300 (y := 114) rfl at_522 (pc' := 523) rfl ?_
                  intro T311 h311_ H311 W312 A313
                  replace A313 : Arv Z h311_ a300 k303 .char 12 [(.int 100), (.int 105), (.int 114), (.int 0), (.int 0), (.int 0), (.int 0), (.int 0), (.int 0), (.int 0), (.int 0), (.int 0)] (.int 0) := A313
                  refine G.dup H311 at_523 (pc' := 524) rfl rfl ?_
                  refine G.iconst H311 at_524 (pc' := 525) rfl (v := 3) rfl ?_
                  refine G.bipush H311 at_525 (pc' := 527) rfl (v := 101) rfl ?_
                  refine G.stC H311 A313 (by decide) (i := 3) rfl lB na300 (y := 101) rfl at_527 (pc' := 528) rfl ?_
                  intro T314 h314_ H314 W315 A316
                  replace A316 : Arv Z h314_ a300 k303 .char 12 [(.int 100), (.int 105), (.int 114), (.int 101), (.int 0), (.int 0), (.int 0), (.int 0), (.int 0), (.int 0), (.int 0), (.int 0)] (.int 0) := A316
                  refine G.dup H314 at_528 (pc' := 529) rfl rfl ?_
                  refine G.iconst H314 at_529 (pc' := 530) rfl (v := 4) rfl ?_
                  refine G.bipush H314 at_530 (pc' := 532) rfl (v := 99) rfl ?_
                  refine G.stC H314 A316 (by decide) (i := 4) rfl lB na300 (y := 99) rfl at_532 (pc' := 533) rfl ?_
                  intro T317 h317_ H317 W318 A319
                  replace A319 : Arv Z h317_ a300 k303 .char 12 [(.int 100), (.int 105), (.int 114), (.int 101), (.int 99), (.int 0), (.int 0), (.int 0), (.int 0), (.int 0), (.int 0), (.int 0)] (.int 0) := A319
                  refine G.dup H317 at_533 (pc' := 534) rfl rfl ?_
                  refine G.iconst H317 at_534 (pc' := 535) rfl (v := 5) rfl ?_
                  refine G.bipush H317 at_535 (pc' := 537) rfl (v := 116) rfl ?_
                  refine G.stC H317 A319 (by decide) (i := 5) rfl lB na300 (y := 116) rfl at_537 (pc' := 538) rfl ?_
                  intro T320 h320_ H320 W321 A322
                  replace A322 : Arv Z h320_ a300 k303 .char 12 [(.int 100), (.int 105), (.int 114), (.int 101), (.int 99), (.int 116), (.int 0), (.int 0), (.int 0), (.int 0), (.int 0), (.int 0)] (.int 0) := A322
                  refine G.dup H320 at_538 (pc' := 539) rfl rfl ?_
                  refine G.bipush H320 at_539 (pc' := 541) rfl (v := 6) rfl ?_
                  refine G.bipush H320 at_541 (pc' := 543) rfl (v := 111) rfl ?_
                  refine G.stC H320 A322 (by decide) (i := 6) rfl lB na300 (y := 111) rfl at_543 (pc' := 544) rfl ?_
                  intro T323 h323_ H323 W324 A325
                  replace A325 : Arv Z h323_ a300 k303 .char 12 [(.int 100), (.int 105), (.int 114), (.int 101), (.int 99), (.int 116), (.int 111), (.int 0), (.int 0), (.int 0), (.int 0), (.int 0)] (.int 0) := A325
                  refine G.dup H323 at_544 (pc' := 545) rfl rfl ?_
                  refine G.bipush H323 at_545 (pc' := 547) rfl (v := 7) rfl ?_
                  refine G.bipush H323 at_547 (pc' := 549) rfl (v := 114) rfl ?_
                  refine G.stC H323 A325 (by decide) (i := 7) rfl lB na300 (y := 114) rfl at_549 (pc' := 550) rfl ?_
                  intro T326 h326_ H326 W327 A328
                  replace A328 : Arv Z h326_ a300 k303 .char 12 [(.int 100), (.int 105), (.int 114), (.int 101), (.int 99), (.int 116), (.int 111), (.int 114), (.int 0), (.int 0), (.int 0), (.int 0)] (.int 0) := A328
                  refine G.dup H326 at_550 (pc' := 551) rfl rfl ?_
                  refine G.bipush H326 at_551 (pc' := 553) rfl (v := 8) rfl ?_
                  refine G.bipush H326 at_553 (pc' := 555) rfl (v := 121) rfl ?_
                  refine G.stC H326 A328 (by decide) (i := 8) rfl lB na300 (y := 121) rfl at_555 (pc' := 556) rfl ?_
                  intro T329 h329_ H329 W330 A331
                  replace A331 : Arv Z h329_ a300 k303 .char 12 [(.int 100), (.int 105), (.int 114), (.int 101), (.int 99), (.int 116), (.int 111), (.int 114), (.int 121), (.int 0), (.int 0), (.int 0)] (.int 0) := A331
                  refine G.dup H329 at_556 (pc' := 557) rfl rfl ?_
                  refine G.bipush H329 at_557 (pc' := 559) rfl (v := 9) rfl ?_
                  refine G.bipush H329 at_559 (pc' := 561) rfl (v := 45) rfl ?_
                  refine G.stC H329 A331 (by decide) (i := 9) rfl lB na300 (y := 45) rfl at_561 (pc' := 562) rfl ?_
                  intro T332 h332_ H332 W333 A334
                  replace A334 : Arv Z h332_ a300 k303 .char 12 [(.int 100), (.int 105), (.int 114), (.int 101), (.int 99), (.int 116), (.int 111), (.int 114), (.int 121), (.int 45), (.int 0), (.int 0)] (.int 0) := A334
                  refine G.dup H332 at_562 (pc' := 563) rfl rfl ?_
                  refine G.bipush H332 at_563 (pc' := 565) rfl (v := 10) rfl ?_
                  refine G.bipush H332 at_565 (pc' := 567) rfl (v := 111) rfl ?_
                  refine G.stC H332 A334 (by decide) (i := 10) rfl lB na300 (y := 111) rfl at_567 (pc' := 568) rfl ?_
                  intro T335 h335_ H335 W336 A337
                  replace A337 : Arv Z h335_ a300 k303 .char 12 [(.int 100), (.int 105), (.int 114), (.int 101), (.int 99), (.int 116), (.int 111), (.int 114), (.int 121), (.int 45), (.int 111), (.int 0)] (.int 0) := A337
                  refine G.dup H335 at_568 (pc' := 569) rfl rfl ?_
                  refine G.bipush H335 at_569 (pc' := 571) rfl (v := 11) rfl ?_
                  refine G.bipush H335 at_571 (pc' := 573) rfl (v := 117) rfl ?_
                  refine G.stC H335 A337 (by decide) (i := 11) rfl lB na300 (y := 117) rfl at_573 (pc' := 574) rfl ?_
                  intro T338 h338_ H338 W339 A340
                  replace A340 : Arv Z h338_ a300 k303 .char 12 [(.int 100), (.int 105), (.int 114), (.int 101), (.int 99), (.int 116), (.int 111), (.int 114), (.int 121), (.int 45), (.int 111), (.int 117)] (.int 0) := A340
                  have K341 : Keep h294_ h338_ [] := (Keep.wr (Keep.wr (Keep.wr (Keep.wr (Keep.wr (Keep.wr (Keep.wr (Keep.wr (Keep.wr (Keep.wr (Keep.wr (Keep.wr (Keep.ext (Keep.refl h294_ []) E301) W306 (Or.inr (Nat.le_of_eq ga300.symm))) W309 (Or.inr (Nat.le_of_eq ga300.symm))) W312 (Or.inr (Nat.le_of_eq ga300.symm))) W315 (Or.inr (Nat.le_of_eq ga300.symm))) W318 (Or.inr (Nat.le_of_eq ga300.symm))) W321 (Or.inr (Nat.le_of_eq ga300.symm))) W324 (Or.inr (Nat.le_of_eq ga300.symm))) W327 (Or.inr (Nat.le_of_eq ga300.symm))) W330 (Or.inr (Nat.le_of_eq ga300.symm))) W333 (Or.inr (Nat.le_of_eq ga300.symm))) W336 (Or.inr (Nat.le_of_eq ga300.symm))) W339 (Or.inr (Nat.le_of_eq ga300.symm)))
                  have F342 := (Exa.keep A297 K341)
                  have F343 : Fld Z h294_ a295 "java/lang/String" "value" "[B" .null := D298 (Or.inr (wd34 V)) (ty := (.array .byte)) (by decide)
                  have F344 := (Fld.keep F343 K341 nin0)
                  have F345 : Fld Z h294_ a295 "java/lang/String" "coder" "B" (.int 0) := D298 (Or.inr (wd32 V)) (ty := .byte) (by decide)
                  have F346 := (Fld.keep F345 K341 nin0)
                  refine G.newStr H338 (strw V) (wd2 V) (wd9 V) (wd10 V) (cs := [100, 105, 114, 101, 99, 116, 111, 114, 121, 45, 111, 117]) (n := 12) na295 F342 F344 F346 A340 (hv17 V) (hv18 V) rfl rfl (by decide) (by decide) (cbS (by decide) (cbS (by decide) (cbS (by decide) (cbS (by decide) (cbS (by decide) (cbS (by decide) (cbS (by decide) (cbS (by decide) (cbS (by decide) (cbS (by decide) (cbS (by decide) (cbS (by decide) cb0)))))))))))) (Sf.mem (mG (i := 1) rfl)) (rest := [(.ref a295)]) (W := 1) rfl rfl at_574 (pc' := 577) rfl (by decide) (by decide) (by decide) (by decide) ?_
                  intro T347 h347_ t348 k349 g352 H347 K350 S351
                  have nt348 : n0 ≤ t348 := Nat.le_trans H338.le g352
                  refine G.astore H347 (L' := #[.val (.int x0), .val (.int x1), .val (.int x2), .val (.int x3), .val (.int (x2 &&& 255)), .val (.int (x3 &&& 255)), .val (.int (x1 &&& 2147483647)), .val (.int (x0 &&& 7)), .val (.ref a295), .unset, .val (.int ((x1 &&& 2147483647) &&& 3)), .unset, .unset]) at_577 (pc' := 579) rfl rfl rfl ?_
                  refine G.goto H347 at_579 (by decide) (pc' := 743) rfl ?_
                  refine G.aconstNull H347 at_743 (pc' := 744) rfl ?_
                  refine G.astore H347 (L' := #[.val (.int x0), .val (.int x1), .val (.int x2), .val (.int x3), .val (.int (x2 &&& 255)), .val (.int (x3 &&& 255)), .val (.int (x1 &&& 2147483647)), .val (.int (x0 &&& 7)), .val (.ref a295), .val .null, .val (.int ((x1 &&& 2147483647) &&& 3)), .unset, .unset]) at_744 (pc' := 746) rfl rfl rfl ?_
                  refine G.goto H347 at_746 (by decide) (pc' := 922) rfl ?_
                  refine G.aload H347 at_922 (pc' := 924) rfl rfl rfl ?_
                  refine G.callS H347 (m61_named V a295 t348 k349 h347_ H347.old S351) (wd38 V) (wd39 V) (wd36 V) (wd40 V) (by decide) (argsL := [(.ref a295)]) (rest := []) (W := 0) rfl rfl (lenOf (pd_2) rfl) rfl rfl at_924 (pc' := 927) rfl (by decide) (by decide) (by decide) (by decide) all0 ?_
                  intro T353 h353_ v354 s355 H353 Q356
                  obtain ⟨rfl, rfl, K357⟩ := Q356
                  show Go p e below _ (T353.setTop (mkF m 927 #[.val (.int x0), .val (.int x1), .val (.int x2), .val (.int x3), .val (.int (x2 &&& 255)), .val (.int (x3 &&& 255)), .val (.int (x1 &&& 2147483647)), .val (.int (x0 &&& 7)), .val (.ref a295), .val .null, .val (.int ((x1 &&& 2147483647) &&& 3)), .unset, .unset] [.null]))
                  refine G.aload H353 at_927 (pc' := 929) rfl rfl rfl ?_
                  refine G.acmpNo H353 at_929 (pc' := 932) rfl rfl rfl (XT.aa_ne_f rfl) ?_
                  refine G.iconst H353 at_932 (pc' := 933) rfl (v := 1) rfl ?_
                  refine G.goto H353 at_933 (by decide) (pc' := 937) rfl ?_
                  exact G.retN H353 (t := .boolean) rfl (by decide) at_937 (so := []) all0 (by decide) (by decide) rfl
                ·
                  refine G.icmpYes H at_497 (XT.ii_ne_t c293) (by decide) (pc' := 582) rfl ?_
                  refine G.iload H at_582 (pc' := 584) rfl rfl ?_
                  refine G.iconst H at_584 (pc' := 585) rfl (v := 2) rfl ?_
                  by_cases c358 : ((x1 &&& 2147483647) &&& 3) = 2
                  ·
                    refine G.icmpNo H at_585 (pc' := 588) rfl (XT.ii_ne_f c358) ?_
                    refine G.new H (wd1 V) (wd2 V) (wd3 V) at_588 (pc' := 591) rfl (by decide) (by decide) ?_
                    intro T359 h359_ a360 ga360 H359 E361 A362 D363
                    have na360 := H.nle ga360
                    refine G.dup H359 at_591 (pc' := 592) rfl rfl ?_
                    refine G.bipush H359 at_592 (pc' := 594) rfl (v := 10) rfl ?_
                    refine G.newP H359 (aty := .char) (wd8 V) at_594 (pc' := 596) rfl (by decide) (cap := 10) (by decide) (by decide) (by decide) (by decide) (vs := [(.int 0), (.int 0), (.int 0), (.int 0), (.int 0), (.int 0), (.int 0), (.int 0), (.int 0), (.int 0)]) rfl (ad := "[C") rfl ?_
                    intro T364 h364_ a365 k368 ga365 H364 E366 A367 X369
                    have na365 := H359.nle ga365
                    replace A367 : Arv Z h364_ a365 k368 .char 10 [(.int 0), (.int 0), (.int 0), (.int 0), (.int 0), (.int 0), (.int 0), (.int 0), (.int 0), (.int 0)] (.int 0) := A367
                    refine G.dup H364 at_596 (pc' := 597) rfl rfl ?_
                    refine G.iconst H364 at_597 (pc' := 598) rfl (v := 0) rfl ?_
                    refine G.bipush H364 at_598 (pc' := 600) rfl (v := 100) rfl ?_
                    refine G.stC H364 A367 (by decide) (i := 0) rfl lB na365 (y := 100) rfl at_600 (pc' := 601) rfl ?_
                    intro T370 h370_ H370 W371 A372
                    replace A372 : Arv Z h370_ a365 k368 .char 10 [(.int 100), (.int 0), (.int 0), (.int 0), (.int 0), (.int 0), (.int 0), (.int 0), (.int 0), (.int 0)] (.int 0) := A372
                    refine G.dup H370 at_601 (pc' := 602) rfl rfl ?_
                    refine G.iconst H370 at_602 (pc' := 603) rfl (v := 1) rfl ?_
                    refine G.bipush H370 at_603 (pc' := 605) rfl (v := 105) rfl ?_
                    refine G.stC H370 A372 (by decide) (i := 1) rfl lB na365 (y := 105) rfl at_605 (pc' := 606) rfl ?_
                    intro T373 h373_ H373 W374 A375
                    replace A375 : Arv Z h373_ a365 k368 .char 10 [(.int 100), (.int 105), (.int 0), (.int 0), (.int 0), (.int 0), (.int 0), (.int 0), (.int 0), (.int 0)] (.int 0) := A375
                    refine G.dup H373 at_606 (pc' := 607) rfl rfl ?_
                    refine G.iconst H373 at_607 (pc' := 608) rfl (v := 2) rfl ?_
                    refine G.bipush H373 at_608 (pc' := 610) rfl (v := 114) rfl ?_
                    refine G.stC H373 A375 (by decide) (i := 2) rfl lB na365 (y := 114) rfl at_610 (pc' := 611) rfl ?_
                    intro T376 h376_ H376 W377 A378
                    replace A378 : Arv Z h376_ a365 k368 .char 10 [(.int 100), (.int 105), (.int 114), (.int 0), (.int 0), (.int 0), (.int 0), (.int 0), (.int 0), (.int 0)] (.int 0) := A378
                    refine G.dup H376 at_611 (pc' := 612) rfl rfl ?_
                    refine G.iconst H376 at_612 (pc' := 613) rfl (v := 3) rfl ?_
                    refine G.bipush H376 at_613 (pc' := 615) rfl (v := 101) rfl ?_
                    refine G.stC H376 A378 (by decide) (i := 3) rfl lB na365 (y := 101) rfl at_615 (pc' := 616) rfl ?_
                    intro T379 h379_ H379 W380 A381
                    replace A381 : Arv Z h379_ a365 k368 .char 10 [(.int 100), (.int 105), (.int 114), (.int 101), (.int 0), (.int 0), (.int 0), (.int 0), (.int 0), (.int 0)] (.int 0) := A381
                    refine G.dup H379 at_616 (pc' := 617) rfl rfl ?_
                    refine G.iconst H379 at_617 (pc' := 618) rfl (v := 4) rfl ?_
                    refine G.bipush H379 at_618 (pc' := 620) rfl (v := 99) rfl ?_
                    refine G.stC H379 A381 (by decide) (i := 4) rfl lB na365 (y := 99) rfl at_620 (pc' := 621) rfl ?_
                    intro T382 h382_ H382 W383 A384
                    replace A384 : Arv Z h382_ a365 k368 .char 10 [(.int 100), (.int 105), (.int 114), (.int 101), (.int 99), (.int 0), (.int 0), (.int 0), (.int 0), (.int 0)] (.int 0) := A384
                    refine G.dup H382 at_621 (pc' := 622) rfl rfl ?_
                    refine G.iconst H382 at_622 (pc' := 623) rfl (v := 5) rfl ?_
                    refine G.bipush H382 at_623 (pc' := 625) rfl (v := 116) rfl ?_
                    refine G.stC H382 A384 (by decide) (i := 5) rfl lB na365 (y := 116) rfl at_625 (pc' := 626) rfl ?_
                    intro T385 h385_ H385 W386 A387
                    replace A387 : Arv Z h385_ a365 k368 .char 10 [(.int 100), (.int 105), (.int 114), (.int 101), (.int 99), (.int 116), (.int 0), (.int 0), (.int 0), (.int 0)] (.int 0) := A387
                    refine G.dup H385 at_626 (pc' := 627) rfl rfl ?_
                    refine G.bipush H385 at_627 (pc' := 629) rfl (v := 6) rfl ?_
                    refine G.bipush H385 at_629 (pc' := 631) rfl (v := 111) rfl ?_
                    refine G.stC H385 A387 (by decide) (i := 6) rfl lB na365 (y := 111) rfl at_631 (pc' := 632) rfl ?_
                    intro T388 h388_ H388 W389 A390
                    replace A390 : Arv Z h388_ a365 k368 .char 10 [(.int 100), (.int 105), (.int 114), (.int 101), (.int 99), (.int 116), (.int 111), (.int 0), (.int 0), (.int 0)] (.int 0) := A390
                    refine G.dup H388 at_632 (pc' := 633) rfl rfl ?_
                    refine G.bipush H388 at_633 (pc' := 635) rfl (v := 7) rfl ?_
                    refine G.bipush H388 at_635 (pc' := 637) rfl (v := 114) rfl ?_
                    refine G.stC H388 A390 (by decide) (i := 7) rfl lB na365 (y := 114) rfl at_637 (pc' := 638) rfl ?_
                    intro T391 h391_ H391 W392 A393
                    replace A393 : Arv Z h391_ a365 k368 .char 10 [(.int 100), (.int 105), (.int 114), (.int 101), (.int 99), (.int 116), (.int 111), (.int 114), (.int 0), (.int 0)] (.int 0) := A393
                    refine G.dup H391 at_638 (pc' := 639) rfl rfl ?_
                    refine G.bipush H391 at_639 (pc' := 641) rfl (v := 8) rfl ?_
                    refine G.bipush H391 at_641 (pc' := 643) rfl (v := 121) rfl ?_
                    refine G.stC H391 A393 (by decide) (i := 8) rfl lB na365 (y := 121) rfl at_643 (pc' := 644) rfl ?_
                    intro T394 h394_ H394 W395 A396
                    replace A396 : Arv Z h394_ a365 k368 .char 10 [(.int 100), (.int 105), (.int 114), (.int 101), (.int 99), (.int 116), (.int 111), (.int 114), (.int 121), (.int 0)] (.int 0) := A396
                    refine G.dup H394 at_644 (pc' := 645) rfl rfl ?_
                    refine G.bipush H394 at_645 (pc' := 647) rfl (v := 9) rfl ?_
                    refine G.bipush H394 at_647 (pc' := 649) rfl (v := 45) rfl ?_
                    refine G.stC H394 A396 (by decide) (i := 9) rfl lB na365 (y := 45) rfl at_649 (pc' := 650) rfl ?_
                    intro T397 h397_ H397 W398 A399
                    replace A399 : Arv Z h397_ a365 k368 .char 10 [(.int 100), (.int 105), (.int 114), (.int 101), (.int 99), (.int 116), (.int 111), (.int 114), (.int 121), (.int 45)] (.int 0) := A399
                    have K400 : Keep h359_ h397_ [] := (Keep.wr (Keep.wr (Keep.wr (Keep.wr (Keep.wr (Keep.wr (Keep.wr (Keep.wr (Keep.wr (Keep.wr (Keep.ext (Keep.refl h359_ []) E366) W371 (Or.inr (Nat.le_of_eq ga365.symm))) W374 (Or.inr (Nat.le_of_eq ga365.symm))) W377 (Or.inr (Nat.le_of_eq ga365.symm))) W380 (Or.inr (Nat.le_of_eq ga365.symm))) W383 (Or.inr (Nat.le_of_eq ga365.symm))) W386 (Or.inr (Nat.le_of_eq ga365.symm))) W389 (Or.inr (Nat.le_of_eq ga365.symm))) W392 (Or.inr (Nat.le_of_eq ga365.symm))) W395 (Or.inr (Nat.le_of_eq ga365.symm))) W398 (Or.inr (Nat.le_of_eq ga365.symm)))
                    have F401 := (Exa.keep A362 K400)
                    have F402 : Fld Z h359_ a360 "java/lang/String" "value" "[B" .null := D363 (Or.inr (wd34 V)) (ty := (.array .byte)) (by decide)
                    have F403 := (Fld.keep F402 K400 nin0)
                    have F404 : Fld Z h359_ a360 "java/lang/String" "coder" "B" (.int 0) := D363 (Or.inr (wd32 V)) (ty := .byte) (by decide)
                    have F405 := (Fld.keep F404 K400 nin0)
                    refine G.newStr H397 (strw V) (wd2 V) (wd9 V) (wd10 V) (cs := [100, 105, 114, 101, 99, 116, 111, 114, 121, 45]) (n := 10) na360 F401 F403 F405 A399 (hv17 V) (hv18 V) rfl rfl (by decide) (by decide) (cbS (by decide) (cbS (by decide) (cbS (by decide) (cbS (by decide) (cbS (by decide) (cbS (by decide) (cbS (by decide) (cbS (by decide) (cbS (by decide) (cbS (by decide) cb0)))))))))) (Sf.mem (mG (i := 1) rfl)) (rest := [(.ref a360)]) (W := 1) rfl rfl at_650 (pc' := 653) rfl (by decide) (by decide) (by decide) (by decide) ?_
                    intro T406 h406_ t407 k408 g411 H406 K409 S410
                    have nt407 : n0 ≤ t407 := Nat.le_trans H397.le g411
                    refine G.astore H406 (L' := #[.val (.int x0), .val (.int x1), .val (.int x2), .val (.int x3), .val (.int (x2 &&& 255)), .val (.int (x3 &&& 255)), .val (.int (x1 &&& 2147483647)), .val (.int (x0 &&& 7)), .val (.ref a360), .unset, .val (.int ((x1 &&& 2147483647) &&& 3)), .unset, .unset]) at_653 (pc' := 655) rfl rfl rfl ?_
                    refine G.goto H406 at_655 (by decide) (pc' := 743) rfl ?_
                    refine G.aconstNull H406 at_743 (pc' := 744) rfl ?_
                    refine G.astore H406 (L' := #[.val (.int x0), .val (.int x1), .val (.int x2), .val (.int x3), .val (.int (x2 &&& 255)), .val (.int (x3 &&& 255)), .val (.int (x1 &&& 2147483647)), .val (.int (x0 &&& 7)), .val (.ref a360), .val .null, .val (.int ((x1 &&& 2147483647) &&& 3)), .unset, .unset]) at_744 (pc' := 746) rfl rfl rfl ?_
                    refine G.goto H406 at_746 (by decide) (pc' := 922) rfl ?_
                    refine G.aload H406 at_922 (pc' := 924) rfl rfl rfl ?_
                    refine G.callS H406 (m62_named V a360 t407 k408 h406_ H406.old S410) (wd38 V) (wd39 V) (wd36 V) (wd40 V) (by decide) (argsL := [(.ref a360)]) (rest := []) (W := 0) rfl rfl (lenOf (pd_2) rfl) rfl rfl at_924 (pc' := 927) rfl (by decide) (by decide) (by decide) (by decide) all0 ?_
                    intro T412 h412_ v413 s414 H412 Q415
                    obtain ⟨rfl, rfl, K416⟩ := Q415
                    show Go p e below _ (T412.setTop (mkF m 927 #[.val (.int x0), .val (.int x1), .val (.int x2), .val (.int x3), .val (.int (x2 &&& 255)), .val (.int (x3 &&& 255)), .val (.int (x1 &&& 2147483647)), .val (.int (x0 &&& 7)), .val (.ref a360), .val .null, .val (.int ((x1 &&& 2147483647) &&& 3)), .unset, .unset] [.null]))
                    refine G.aload H412 at_927 (pc' := 929) rfl rfl rfl ?_
                    refine G.acmpNo H412 at_929 (pc' := 932) rfl rfl rfl (XT.aa_ne_f rfl) ?_
                    refine G.iconst H412 at_932 (pc' := 933) rfl (v := 1) rfl ?_
                    refine G.goto H412 at_933 (by decide) (pc' := 937) rfl ?_
                    exact G.retN H412 (t := .boolean) rfl (by decide) at_937 (so := []) all0 (by decide) (by decide) rfl
                  ·
                    refine G.icmpYes H at_585 (XT.ii_ne_t c358) (by decide) (pc' := 658) rfl ?_
                    refine G.new H (wd1 V) (wd2 V) (wd3 V) at_658 (pc' := 661) rfl (by decide) (by decide) ?_
                    intro T417 h417_ a418 ga418 H417 E419 A420 D421
                    have na418 := H.nle ga418
                    refine G.dup H417 at_661 (pc' := 662) rfl rfl ?_
                    refine G.bipush H417 at_662 (pc' := 664) rfl (v := 13) rfl ?_
                    refine G.newP H417 (aty := .char) (wd8 V) at_664 (pc' := 666) rfl (by decide) (cap := 13) (by decide) (by decide) (by decide) (by decide) (vs := [(.int 0), (.int 0), (.int 0), (.int 0), (.int 0), (.int 0), (.int 0), (.int 0), (.int 0), (.int 0), (.int 0), (.int 0), (.int 0)]) rfl (ad := "[C") rfl ?_
                    intro T422 h422_ a423 k426 ga423 H422 E424 A425 X427
                    have na423 := H417.nle ga423
                    replace A425 : Arv Z h422_ a423 k426 .char 13 [(.int 0), (.int 0), (.int 0), (.int 0), (.int 0), (.int 0), (.int 0), (.int 0), (.int 0), (.int 0), (.int 0), (.int 0), (.int 0)] (.int 0) := A425
                    refine G.dup H422 at_666 (pc' := 667) rfl rfl ?_
                    refine G.iconst H422 at_667 (pc' := 668) rfl (v := 0) rfl ?_
                    refine G.iload H422 at_668 (pc' := 670) rfl rfl ?_
                    refine G.stC H422 A425 (by decide) (i := 0) rfl lB na423 (y := (x2 &&& 255)) (own_narC (own_u16 (own_and255 _))) at_670 (pc' := 671) rfl ?_
                    intro T428 h428_ H428 W429 A430
                    replace A430 : Arv Z h428_ a423 k426 .char 13 [(.int (x2 &&& 255)), (.int 0), (.int 0), (.int 0), (.int 0), (.int 0), (.int 0), (.int 0), (.int 0), (.int 0), (.int 0), (.int 0), (.int 0)] (.int 0) := A430
                    refine G.dup H428 at_671 (pc' := 672) rfl rfl ?_
                    refine G.iconst H428 at_672 (pc' := 673) rfl (v := 1) rfl ?_
                    refine G.bipush H428 at_673 (pc' := 675) rfl (v := 100) rfl ?_
                    refine G.stC H428 A430 (by decide) (i := 1) rfl lB na423 (y := 100) rfl at_675 (pc' := 676) rfl ?_
                    intro T431 h431_ H431 W432 A433
                    replace A433 : Arv Z h431_ a423 k426 .char 13 [(.int (x2 &&& 255)), (.int 100), (.int 0), (.int 0), (.int 0), (.int 0), (.int 0), (.int 0), (.int 0), (.int 0), (.int 0), (.int 0), (.int 0)] (.int 0) := A433
                    refine G.dup H431 at_676 (pc' := 677) rfl rfl ?_
                    refine G.iconst H431 at_677 (pc' := 678) rfl (v := 2) rfl ?_
                    refine G.bipush H431 at_678 (pc' := 680) rfl (v := 105) rfl ?_
                    refine G.stC H431 A433 (by decide) (i := 2) rfl lB na423 (y := 105) rfl at_680 (pc' := 681) rfl ?_
                    intro T434 h434_ H434 W435 A436
                    replace A436 : Arv Z h434_ a423 k426 .char 13 [(.int (x2 &&& 255)), (.int 100), (.int 105), (.int 0), (.int 0), (.int 0), (.int 0), (.int 0), (.int 0), (.int 0), (.int 0), (.int 0), (.int 0)] (.int 0) := A436
                    refine G.dup H434 at_681 (pc' := 682) rfl rfl ?_
                    refine G.iconst H434 at_682 (pc' := 683) rfl (v := 3) rfl ?_
                    refine G.bipush H434 at_683 (pc' := 685) rfl (v := 114) rfl ?_
                    refine G.stC H434 A436 (by decide) (i := 3) rfl lB na423 (y := 114) rfl at_685 (pc' := 686) rfl ?_
                    intro T437 h437_ H437 W438 A439
                    replace A439 : Arv Z h437_ a423 k426 .char 13 [(.int (x2 &&& 255)), (.int 100), (.int 105), (.int 114), (.int 0), (.int 0), (.int 0), (.int 0), (.int 0), (.int 0), (.int 0), (.int 0), (.int 0)] (.int 0) := A439
                    refine G.dup H437 at_686 (pc' := 687) rfl rfl ?_
                    refine G.iconst H437 at_687 (pc' := 688) rfl (v := 4) rfl ?_
                    refine G.bipush H437 at_688 (pc' := 690) rfl (v := 101) rfl ?_
                    refine G.stC H437 A439 (by decide) (i := 4) rfl lB na423 (y := 101) rfl at_690 (pc' := 691) rfl ?_
                    intro T440 h440_ H440 W441 A442
                    replace A442 : Arv Z h440_ a423 k426 .char 13 [(.int (x2 &&& 255)), (.int 100), (.int 105), (.int 114), (.int 101), (.int 0), (.int 0), (.int 0), (.int 0), (.int 0), (.int 0), (.int 0), (.int 0)] (.int 0) := A442
                    refine G.dup H440 at_691 (pc' := 692) rfl rfl ?_
                    refine G.iconst H440 at_692 (pc' := 693) rfl (v := 5) rfl ?_
                    refine G.bipush H440 at_693 (pc' := 695) rfl (v := 99) rfl ?_
                    refine G.stC H440 A442 (by decide) (i := 5) rfl lB na423 (y := 99) rfl at_695 (pc' := 696) rfl ?_
                    intro T443 h443_ H443 W444 A445
                    replace A445 : Arv Z h443_ a423 k426 .char 13 [(.int (x2 &&& 255)), (.int 100), (.int 105), (.int 114), (.int 101), (.int 99), (.int 0), (.int 0), (.int 0), (.int 0), (.int 0), (.int 0), (.int 0)] (.int 0) := A445
                    refine G.dup H443 at_696 (pc' := 697) rfl rfl ?_
                    refine G.bipush H443 at_697 (pc' := 699) rfl (v := 6) rfl ?_
                    refine G.bipush H443 at_699 (pc' := 701) rfl (v := 116) rfl ?_
                    refine G.stC H443 A445 (by decide) (i := 6) rfl lB na423 (y := 116) rfl at_701 (pc' := 702) rfl ?_
                    intro T446 h446_ H446 W447 A448
                    replace A448 : Arv Z h446_ a423 k426 .char 13 [(.int (x2 &&& 255)), (.int 100), (.int 105), (.int 114), (.int 101), (.int 99), (.int 116), (.int 0), (.int 0), (.int 0), (.int 0), (.int 0), (.int 0)] (.int 0) := A448
                    refine G.dup H446 at_702 (pc' := 703) rfl rfl ?_
                    refine G.bipush H446 at_703 (pc' := 705) rfl (v := 7) rfl ?_
                    refine G.bipush H446 at_705 (pc' := 707) rfl (v := 111) rfl ?_
                    refine G.stC H446 A448 (by decide) (i := 7) rfl lB na423 (y := 111) rfl at_707 (pc' := 708) rfl ?_
                    intro T449 h449_ H449 W450 A451
                    replace A451 : Arv Z h449_ a423 k426 .char 13 [(.int (x2 &&& 255)), (.int 100), (.int 105), (.int 114), (.int 101), (.int 99), (.int 116), (.int 111), (.int 0), (.int 0), (.int 0), (.int 0), (.int 0)] (.int 0) := A451
                    refine G.dup H449 at_708 (pc' := 709) rfl rfl ?_
                    refine G.bipush H449 at_709 (pc' := 711) rfl (v := 8) rfl ?_
                    refine G.bipush H449 at_711 (pc' := 713) rfl (v := 114) rfl ?_
                    refine G.stC H449 A451 (by decide) (i := 8) rfl lB na423 (y := 114) rfl at_713 (pc' := 714) rfl ?_
                    intro T452 h452_ H452 W453 A454
                    replace A454 : Arv Z h452_ a423 k426 .char 13 [(.int (x2 &&& 255)), (.int 100), (.int 105), (.int 114), (.int 101), (.int 99), (.int 116), (.int 111), (.int 114), (.int 0), (.int 0), (.int 0), (.int 0)] (.int 0) := A454
                    refine G.dup H452 at_714 (pc' := 715) rfl rfl ?_
                    refine G.bipush H452 at_715 (pc' := 717) rfl (v := 9) rfl ?_
                    refine G.bipush H452 at_717 (pc' := 719) rfl (v := 121) rfl ?_
                    refine G.stC H452 A454 (by decide) (i := 9) rfl lB na423 (y := 121) rfl at_719 (pc' := 720) rfl ?_
                    intro T455 h455_ H455 W456 A457
                    replace A457 : Arv Z h455_ a423 k426 .char 13 [(.int (x2 &&& 255)), (.int 100), (.int 105), (.int 114), (.int 101), (.int 99), (.int 116), (.int 111), (.int 114), (.int 121), (.int 0), (.int 0), (.int 0)] (.int 0) := A457
                    refine G.dup H455 at_720 (pc' := 721) rfl rfl ?_
                    refine G.bipush H455 at_721 (pc' := 723) rfl (v := 10) rfl ?_
                    refine G.bipush H455 at_723 (pc' := 725) rfl (v := 45) rfl ?_
                    refine G.stC H455 A457 (by decide) (i := 10) rfl lB na423 (y := 45) rfl at_725 (pc' := 726) rfl ?_
                    intro T458 h458_ H458 W459 A460
                    replace A460 : Arv Z h458_ a423 k426 .char 13 [(.int (x2 &&& 255)), (.int 100), (.int 105), (.int 114), (.int 101), (.int 99), (.int 116), (.int 111), (.int 114), (.int 121), (.int 45), (.int 0), (.int 0)] (.int 0) := A460
                    refine G.dup H458 at_726 (pc' := 727) rfl rfl ?_
                    refine G.bipush H458 at_727 (pc' := 729) rfl (v := 11) rfl ?_
                    refine G.bipush H458 at_729 (pc' := 731) rfl (v := 105) rfl ?_
                    refine G.stC H458 A460 (by decide) (i := 11) rfl lB na423 (y := 105) rfl at_731 (pc' := 732) rfl ?_
                    intro T461 h461_ H461 W462 A463
                    replace A463 : Arv Z h461_ a423 k426 .char 13 [(.int (x2 &&& 255)), (.int 100), (.int 105), (.int 114), (.int 101), (.int 99), (.int 116), (.int 111), (.int 114), (.int 121), (.int 45), (.int 105), (.int 0)] (.int 0) := A463
                    refine G.dup H461 at_732 (pc' := 733) rfl rfl ?_
                    refine G.bipush H461 at_733 (pc' := 735) rfl (v := 12) rfl ?_
                    refine G.bipush H461 at_735 (pc' := 737) rfl (v := 110) rfl ?_
                    refine G.stC H461 A463 (by decide) (i := 12) rfl lB na423 (y := 110) rfl at_737 (pc' := 738) rfl ?_
                    intro T464 h464_ H464 W465 A466
                    replace A466 : Arv Z h464_ a423 k426 .char 13 [(.int (x2 &&& 255)), (.int 100), (.int 105), (.int 114), (.int 101), (.int 99), (.int 116), (.int 111), (.int 114), (.int 121), (.int 45), (.int 105), (.int 110)] (.int 0) := A466
                    have K467 : Keep h417_ h464_ [] := (Keep.wr (Keep.wr (Keep.wr (Keep.wr (Keep.wr (Keep.wr (Keep.wr (Keep.wr (Keep.wr (Keep.wr (Keep.wr (Keep.wr (Keep.wr (Keep.ext (Keep.refl h417_ []) E424) W429 (Or.inr (Nat.le_of_eq ga423.symm))) W432 (Or.inr (Nat.le_of_eq ga423.symm))) W435 (Or.inr (Nat.le_of_eq ga423.symm))) W438 (Or.inr (Nat.le_of_eq ga423.symm))) W441 (Or.inr (Nat.le_of_eq ga423.symm))) W444 (Or.inr (Nat.le_of_eq ga423.symm))) W447 (Or.inr (Nat.le_of_eq ga423.symm))) W450 (Or.inr (Nat.le_of_eq ga423.symm))) W453 (Or.inr (Nat.le_of_eq ga423.symm))) W456 (Or.inr (Nat.le_of_eq ga423.symm))) W459 (Or.inr (Nat.le_of_eq ga423.symm))) W462 (Or.inr (Nat.le_of_eq ga423.symm))) W465 (Or.inr (Nat.le_of_eq ga423.symm)))
                    have F468 := (Exa.keep A420 K467)
                    have F469 : Fld Z h417_ a418 "java/lang/String" "value" "[B" .null := D421 (Or.inr (wd34 V)) (ty := (.array .byte)) (by decide)
                    have F470 := (Fld.keep F469 K467 nin0)
                    have F471 : Fld Z h417_ a418 "java/lang/String" "coder" "B" (.int 0) := D421 (Or.inr (wd32 V)) (ty := .byte) (by decide)
                    have F472 := (Fld.keep F471 K467 nin0)
                    refine G.newStr H464 (strw V) (wd2 V) (wd9 V) (wd10 V) (cs := [(x2 &&& 255), 100, 105, 114, 101, 99, 116, 111, 114, 121, 45, 105, 110]) (n := 13) na418 F468 F470 F472 A466 (hv17 V) (hv18 V) rfl rfl (by decide) (by decide) (cbS (own_and255 _) (cbS (by decide) (cbS (by decide) (cbS (by decide) (cbS (by decide) (cbS (by decide) (cbS (by decide) (cbS (by decide) (cbS (by decide) (cbS (by decide) (cbS (by decide) (cbS (by decide) (cbS (by decide) cb0))))))))))))) (Sf.mem (mG (i := 1) rfl)) (rest := [(.ref a418)]) (W := 1) rfl rfl at_738 (pc' := 741) rfl (by decide) (by decide) (by decide) (by decide) ?_
                    intro T473 h473_ t474 k475 g478 H473 K476 S477
                    have nt474 : n0 ≤ t474 := Nat.le_trans H464.le g478
                    refine G.astore H473 (L' := #[.val (.int x0), .val (.int x1), .val (.int x2), .val (.int x3), .val (.int (x2 &&& 255)), .val (.int (x3 &&& 255)), .val (.int (x1 &&& 2147483647)), .val (.int (x0 &&& 7)), .val (.ref a418), .unset, .val (.int ((x1 &&& 2147483647) &&& 3)), .unset, .unset]) at_741 (pc' := 743) rfl rfl rfl ?_
                    refine G.aconstNull H473 at_743 (pc' := 744) rfl ?_
                    refine G.astore H473 (L' := #[.val (.int x0), .val (.int x1), .val (.int x2), .val (.int x3), .val (.int (x2 &&& 255)), .val (.int (x3 &&& 255)), .val (.int (x1 &&& 2147483647)), .val (.int (x0 &&& 7)), .val (.ref a418), .val .null, .val (.int ((x1 &&& 2147483647) &&& 3)), .unset, .unset]) at_744 (pc' := 746) rfl rfl rfl ?_
                    refine G.goto H473 at_746 (by decide) (pc' := 922) rfl ?_
                    refine G.aload H473 at_922 (pc' := 924) rfl rfl rfl ?_
                    refine G.callS H473 (m63_named V a418 t474 k475 (x2 &&& 255) h473_ H473.old S477) (wd38 V) (wd39 V) (wd36 V) (wd40 V) (by decide) (argsL := [(.ref a418)]) (rest := []) (W := 0) rfl rfl (lenOf (pd_2) rfl) rfl rfl at_924 (pc' := 927) rfl (by decide) (by decide) (by decide) (by decide) all0 ?_
                    intro T479 h479_ v480 s481 H479 Q482
                    obtain ⟨rfl, rfl, K483⟩ := Q482
                    show Go p e below _ (T479.setTop (mkF m 927 #[.val (.int x0), .val (.int x1), .val (.int x2), .val (.int x3), .val (.int (x2 &&& 255)), .val (.int (x3 &&& 255)), .val (.int (x1 &&& 2147483647)), .val (.int (x0 &&& 7)), .val (.ref a418), .val .null, .val (.int ((x1 &&& 2147483647) &&& 3)), .unset, .unset] [.null]))
                    refine G.aload H479 at_927 (pc' := 929) rfl rfl rfl ?_
                    refine G.acmpNo H479 at_929 (pc' := 932) rfl rfl rfl (XT.aa_ne_f rfl) ?_
                    refine G.iconst H479 at_932 (pc' := 933) rfl (v := 1) rfl ?_
                    refine G.goto H479 at_933 (by decide) (pc' := 937) rfl ?_
                    exact G.retN H479 (t := .boolean) rfl (by decide) at_937 (so := []) all0 (by decide) (by decide) rfl
            ·
              refine G.icmpYes H at_404 (XT.ii_ne_t c230) (by decide) (pc' := 749) rfl ?_
              refine G.iload H at_749 (pc' := 751) rfl rfl ?_
              refine G.bipush H at_751 (pc' := 753) rfl (v := 6) rfl ?_
              by_cases c484 : (x0 &&& 7) = 6
              ·
                refine G.icmpNo H at_753 (pc' := 756) rfl (XT.ii_ne_f c484) ?_
                refine G.aconstNull H at_756 (pc' := 757) rfl ?_
                refine G.astore H (L' := #[.val (.int x0), .val (.int x1), .val (.int x2), .val (.int x3), .val (.int (x2 &&& 255)), .val (.int (x3 &&& 255)), .val (.int (x1 &&& 2147483647)), .val (.int (x0 &&& 7)), .val .null, .unset, .unset, .unset, .unset]) at_757 (pc' := 759) rfl rfl rfl ?_
                refine G.aconstNull H at_759 (pc' := 760) rfl ?_
                refine G.astore H (L' := #[.val (.int x0), .val (.int x1), .val (.int x2), .val (.int x3), .val (.int (x2 &&& 255)), .val (.int (x3 &&& 255)), .val (.int (x1 &&& 2147483647)), .val (.int (x0 &&& 7)), .val .null, .val .null, .unset, .unset, .unset]) at_760 (pc' := 762) rfl rfl rfl ?_
                refine G.goto H at_762 (by decide) (pc' := 922) rfl ?_
                refine G.aload H at_922 (pc' := 924) rfl rfl rfl ?_
                refine G.callS H (m66_named V h0 H.old) (wd38 V) (wd39 V) (wd36 V) (wd40 V) (by decide) (argsL := [.null]) (rest := []) (W := 0) rfl rfl (lenOf (pd_2) rfl) rfl rfl at_924 (pc' := 927) rfl (by decide) (by decide) (by decide) (by decide) all0 ?_
                intro T485 h485_ v486 s487 H485 Q488
                obtain ⟨rfl, rfl, K489⟩ := Q488
                show Go p e below _ (T485.setTop (mkF m 927 #[.val (.int x0), .val (.int x1), .val (.int x2), .val (.int x3), .val (.int (x2 &&& 255)), .val (.int (x3 &&& 255)), .val (.int (x1 &&& 2147483647)), .val (.int (x0 &&& 7)), .val .null, .val .null, .unset, .unset, .unset] [.null]))
                refine G.aload H485 at_927 (pc' := 929) rfl rfl rfl ?_
                refine G.acmpNo H485 at_929 (pc' := 932) rfl rfl rfl (XT.aa_ne_f rfl) ?_
                refine G.iconst H485 at_932 (pc' := 933) rfl (v := 1) rfl ?_
                refine G.goto H485 at_933 (by decide) (pc' := 937) rfl ?_
                exact G.retN H485 (t := .boolean) rfl (by decide) at_937 (so := []) all0 (by decide) (by decide) rfl
              ·
                refine G.icmpYes H at_753 (XT.ii_ne_t c484) (by decide) (pc' := 765) rfl ?_
                refine G.iload H at_765 (pc' := 767) rfl rfl ?_
                refine G.bipush H at_767 (pc' := 769) rfl (v := 7) rfl ?_
                refine G.iand H at_769 (pc' := 770) rfl ?_
                refine G.istore H (L' := #[.val (.int x0), .val (.int x1), .val (.int x2), .val (.int x3), .val (.int (x2 &&& 255)), .val (.int (x3 &&& 255)), .val (.int (x1 &&& 2147483647)), .val (.int (x0 &&& 7)), .unset, .unset, .val (.int ((x1 &&& 2147483647) &&& 7)), .unset, .unset]) at_770 (pc' := 772) rfl rfl ?_
                refine G.iload H at_772 (pc' := 774) rfl rfl ?_
                by_cases c490 : ((x1 &&& 2147483647) &&& 7) = 0
                ·
                  refine G.ifNo H at_774 (pc' := 777) rfl (XT.i0_ne_f c490) ?_
                  refine G.new H (wd1 V) (wd2 V) (wd3 V) at_777 (pc' := 780) rfl (by decide) (by decide) ?_
                  intro T491 h491_ a492 ga492 H491 E493 A494 D495
                  have na492 := H.nle ga492
                  refine G.dup H491 at_780 (pc' := 781) rfl rfl ?_
                  refine G.iconst H491 at_781 (pc' := 782) rfl (v := 0) rfl ?_
                  refine G.newP H491 (aty := .char) (wd8 V) at_782 (pc' := 784) rfl (by decide) (cap := 0) (by decide) (by decide) (by decide) (by decide) (vs := []) rfl (ad := "[C") rfl ?_
                  intro T496 h496_ a497 k500 ga497 H496 E498 A499 X501
                  have na497 := H491.nle ga497
                  replace A499 : Arv Z h496_ a497 k500 .char 0 [] (.int 0) := A499
                  have F502 := (Exa.ext E498 A494)
                  have F503 : Fld Z h491_ a492 "java/lang/String" "value" "[B" .null := D495 (Or.inr (wd34 V)) (ty := (.array .byte)) (by decide)
                  have F504 := (Fld.ext E498 F503)
                  have F505 : Fld Z h491_ a492 "java/lang/String" "coder" "B" (.int 0) := D495 (Or.inr (wd32 V)) (ty := .byte) (by decide)
                  have F506 := (Fld.ext E498 F505)
                  refine G.callI H496 (m68_init V a492 a497 k500 h496_ H496.old A499 F502 F504 na492 F506) rfl (wd9 V) (wd10 V) (wd3 V) (wd11 V) (by decide) (a := a492) (argsL := [(.ref a497)]) (rest := [(.ref a492)]) (W := 1) rfl rfl (lenOf (pd_5) rfl) rfl rfl at_784 (pc' := 787) rfl (by decide) (by decide) (by decide) (by decide) (allS (mG (i := 1) rfl) all0) ?_
                  intro T507 h507_ v508 s509 H507 Q510
                  obtain ⟨a511, k512, rfl, rfl, K513, U514, F515, F516, F517, F518⟩ := Q510
                  show Go p e below _ (T507.setTop (mkF m 787 #[.val (.int x0), .val (.int x1), .val (.int x2), .val (.int x3), .val (.int (x2 &&& 255)), .val (.int (x3 &&& 255)), .val (.int (x1 &&& 2147483647)), .val (.int (x0 &&& 7)), .unset, .unset, .val (.int ((x1 &&& 2147483647) &&& 7)), .unset, .unset] [(.ref a492)]))
                  refine G.astore H507 (L' := #[.val (.int x0), .val (.int x1), .val (.int x2), .val (.int x3), .val (.int (x2 &&& 255)), .val (.int (x3 &&& 255)), .val (.int (x1 &&& 2147483647)), .val (.int (x0 &&& 7)), .val (.ref a492), .unset, .val (.int ((x1 &&& 2147483647) &&& 7)), .unset, .unset]) at_787 (pc' := 789) rfl rfl rfl ?_
                  refine G.goto H507 at_789 (by decide) (pc' := 919) rfl ?_
                  refine G.aconstNull H507 at_919 (pc' := 920) rfl ?_
                  refine G.astore H507 (L' := #[.val (.int x0), .val (.int x1), .val (.int x2), .val (.int x3), .val (.int (x2 &&& 255)), .val (.int (x3 &&& 255)), .val (.int (x1 &&& 2147483647)), .val (.int (x0 &&& 7)), .val (.ref a492), .val .null, .val (.int ((x1 &&& 2147483647) &&& 7)), .unset, .unset]) at_920 (pc' := 922) rfl rfl rfl ?_
                  refine G.aload H507 at_922 (pc' := 924) rfl rfl rfl ?_
                  have S519 : Str Z h507_ a492 a511 k512 [] := ⟨F515, F517, F516, F518, cb0, Nat.le_of_ble_eq_true rfl⟩
                  refine G.callS H507 (m69_named V a492 a511 k512 h507_ H507.old S519) (wd38 V) (wd39 V) (wd36 V) (wd40 V) (by decide) (argsL := [(.ref a492)]) (rest := []) (W := 0) rfl rfl (lenOf (pd_2) rfl) rfl rfl at_924 (pc' := 927) rfl (by decide) (by decide) (by decide) (by decide) all0 ?_
                  intro T520 h520_ v521 s522 H520 Q523
                  obtain ⟨rfl, rfl, K524⟩ := Q523
                  show Go p e below _ (T520.setTop (mkF m 927 #[.val (.int x0), .val (.int x1), .val (.int x2), .val (.int x3), .val (.int (x2 &&& 255)), .val (.int (x3 &&& 255)), .val (.int (x1 &&& 2147483647)), .val (.int (x0 &&& 7)), .val (.ref a492), .val .null, .val (.int ((x1 &&& 2147483647) &&& 7)), .unset, .unset] [.null]))
                  refine G.aload H520 at_927 (pc' := 929) rfl rfl rfl ?_
                  refine G.acmpNo H520 at_929 (pc' := 932) rfl rfl rfl (XT.aa_ne_f rfl) ?_
                  refine G.iconst H520 at_932 (pc' := 933) rfl (v := 1) rfl ?_
                  refine G.goto H520 at_933 (by decide) (pc' := 937) rfl ?_
                  exact G.retN H520 (t := .boolean) rfl (by decide) at_937 (so := []) all0 (by decide) (by decide) rfl
                ·
                  refine G.ifYes H at_774 (XT.i0_ne_t c490) (by decide) (pc' := 792) rfl ?_
                  refine G.iload H at_792 (pc' := 794) rfl rfl ?_
                  refine G.iconst H at_794 (pc' := 795) rfl (v := 1) rfl ?_
                  by_cases c525 : ((x1 &&& 2147483647) &&& 7) = 1
                  ·
                    refine G.icmpNo H at_795 (pc' := 798) rfl (XT.ii_ne_f c525) ?_
                    refine G.iload H at_798 (pc' := 800) rfl rfl ?_
                    refine G.callS H (m73_valueOf V (x2 &&& 255) h0 H.old (own_and255 _)) (wd77 V) (wd78 V) (wd3 V) (wd79 V) (by decide) (argsL := [(.int (x2 &&& 255))]) (rest := []) (W := 0) rfl rfl (lenOf (pd_9) rfl) rfl rfl at_800 (pc' := 803) rfl (by decide) (by decide) (by decide) (by decide) all0 ?_
                    intro T526 h526_ v527 s528 H526 Q529
                    obtain ⟨a530, a531, k532, rfl, rfl, K533, g534, g535, F536, F537, F538, F539, F540⟩ := Q529
                    have na530 : n0 ≤ a530 := Nat.le_trans H.le g534
                    have na531 : n0 ≤ a531 := Nat.le_trans H.le (Nat.le_of_lt (Nat.lt_of_le_of_lt g534 g535))
                    show Go p e below _ (T526.setTop (mkF m 803 #[.val (.int x0), .val (.int x1), .val (.int x2), .val (.int x3), .val (.int (x2 &&& 255)), .val (.int (x3 &&& 255)), .val (.int (x1 &&& 2147483647)), .val (.int (x0 &&& 7)), .unset, .unset, .val (.int ((x1 &&& 2147483647) &&& 7)), .unset, .unset] [(.ref a530)]))
                    refine G.astore H526 (L' := #[.val (.int x0), .val (.int x1), .val (.int x2), .val (.int x3), .val (.int (x2 &&& 255)), .val (.int (x3 &&& 255)), .val (.int (x1 &&& 2147483647)), .val (.int (x0 &&& 7)), .val (.ref a530), .unset, .val (.int ((x1 &&& 2147483647) &&& 7)), .unset, .unset]) at_803 (pc' := 805) rfl rfl rfl ?_
                    refine G.goto H526 at_805 (by decide) (pc' := 919) rfl ?_
                    refine G.aconstNull H526 at_919 (pc' := 920) rfl ?_
                    refine G.astore H526 (L' := #[.val (.int x0), .val (.int x1), .val (.int x2), .val (.int x3), .val (.int (x2 &&& 255)), .val (.int (x3 &&& 255)), .val (.int (x1 &&& 2147483647)), .val (.int (x0 &&& 7)), .val (.ref a530), .val .null, .val (.int ((x1 &&& 2147483647) &&& 7)), .unset, .unset]) at_920 (pc' := 922) rfl rfl rfl ?_
                    refine G.aload H526 at_922 (pc' := 924) rfl rfl rfl ?_
                    have S541 : Str Z h526_ a530 a531 k532 [(x2 &&& 255)] := ⟨F536, F538, F537, F539, (cbS (own_and255 _) cb0), Nat.le_of_ble_eq_true rfl⟩
                    refine G.callS H526 (m74_named V a530 a531 k532 (x2 &&& 255) h526_ H526.old S541) (wd38 V) (wd39 V) (wd36 V) (wd40 V) (by decide) (argsL := [(.ref a530)]) (rest := []) (W := 0) rfl rfl (lenOf (pd_2) rfl) rfl rfl at_924 (pc' := 927) rfl (by decide) (by decide) (by decide) (by decide) all0 ?_
                    intro T542 h542_ v543 s544 H542 Q545
                    obtain ⟨rfl, rfl, K546⟩ := Q545
                    show Go p e below _ (T542.setTop (mkF m 927 #[.val (.int x0), .val (.int x1), .val (.int x2), .val (.int x3), .val (.int (x2 &&& 255)), .val (.int (x3 &&& 255)), .val (.int (x1 &&& 2147483647)), .val (.int (x0 &&& 7)), .val (.ref a530), .val .null, .val (.int ((x1 &&& 2147483647) &&& 7)), .unset, .unset] [.null]))
                    refine G.aload H542 at_927 (pc' := 929) rfl rfl rfl ?_
                    refine G.acmpNo H542 at_929 (pc' := 932) rfl rfl rfl (XT.aa_ne_f rfl) ?_
                    refine G.iconst H542 at_932 (pc' := 933) rfl (v := 1) rfl ?_
                    refine G.goto H542 at_933 (by decide) (pc' := 937) rfl ?_
                    exact G.retN H542 (t := .boolean) rfl (by decide) at_937 (so := []) all0 (by decide) (by decide) rfl
                  ·
                    refine G.icmpYes H at_795 (XT.ii_ne_t c525) (by decide) (pc' := 808) rfl ?_
                    refine G.iload H at_808 (pc' := 810) rfl rfl ?_
                    refine G.iconst H at_810 (pc' := 811) rfl (v := 2) rfl ?_
                    by_cases c547 : ((x1 &&& 2147483647) &&& 7) = 2
                    ·
                      refine G.icmpNo H at_811 (pc' := 814) rfl (XT.ii_ne_f c547) ?_
                      refine G.new H (wd1 V) (wd2 V) (wd3 V) at_814 (pc' := 817) rfl (by decide) (by decide) ?_
                      intro T548 h548_ a549 ga549 H548 E550 A551 D552
                      have na549 := H.nle ga549
                      refine G.dup H548 at_817 (pc' := 818) rfl rfl ?_
                      refine G.iconst H548 at_818 (pc' := 819) rfl (v := 2) rfl ?_
                      refine G.newP H548 (aty := .char) (wd8 V) at_819 (pc' := 821) rfl (by decide) (cap := 2) (by decide) (by decide) (by decide) (by decide) (vs := [(.int 0), (.int 0)]) rfl (ad := "[C") rfl ?_
                      intro T553 h553_ a554 k557 ga554 H553 E555 A556 X558
                      have na554 := H548.nle ga554
                      replace A556 : Arv Z h553_ a554 k557 .char 2 [(.int 0), (.int 0)] (.int 0) := A556
                      refine G.dup H553 at_821 (pc' := 822) rfl rfl ?_
                      refine G.iconst H553 at_822 (pc' := 823) rfl (v := 0) rfl ?_
                      refine G.iload H553 at_823 (pc' := 825) rfl rfl ?_
                      refine G.stC H553 A556 (by decide) (i := 0) rfl lB na554 (y := (x2 &&& 255)) (own_narC (own_u16 (own_and255 _))) at_825 (pc' := 826) rfl ?_
                      intro T559 h559_ H559 W560 A561
                      replace A561 : Arv Z h559_ a554 k557 .char 2 [(.int (x2 &&& 255)), (.int 0)] (.int 0) := A561
                      refine G.dup H559 at_826 (pc' := 827) rfl rfl ?_
                      refine G.iconst H559 at_827 (pc' := 828) rfl (v := 1) rfl ?_
                      refine G.iload H559 at_828 (pc' := 830) rfl rfl ?_
                      refine G.stC H559 A561 (by decide) (i := 1) rfl lB na554 (y := (x3 &&& 255)) (own_narC (own_u16 (own_and255 _))) at_830 (pc' := 831) rfl ?_
                      intro T562 h562_ H562 W563 A564
                      replace A564 : Arv Z h562_ a554 k557 .char 2 [(.int (x2 &&& 255)), (.int (x3 &&& 255))] (.int 0) := A564
                      have K565 : Keep h548_ h562_ [] := (Keep.wr (Keep.wr (Keep.ext (Keep.refl h548_ []) E555) W560 (Or.inr (Nat.le_of_eq ga554.symm))) W563 (Or.inr (Nat.le_of_eq ga554.symm)))
                      have F566 := (Exa.keep A551 K565)
                      have F567 : Fld Z h548_ a549 "java/lang/String" "value" "[B" .null := D552 (Or.inr (wd34 V)) (ty := (.array .byte)) (by decide)
                      have F568 := (Fld.keep F567 K565 nin0)
                      have F569 : Fld Z h548_ a549 "java/lang/String" "coder" "B" (.int 0) := D552 (Or.inr (wd32 V)) (ty := .byte) (by decide)
                      have F570 := (Fld.keep F569 K565 nin0)
                      refine G.newStr H562 (strw V) (wd2 V) (wd9 V) (wd10 V) (cs := [(x2 &&& 255), (x3 &&& 255)]) (n := 2) na549 F566 F568 F570 A564 (hv17 V) (hv18 V) rfl rfl (by decide) (by decide) (cbS (own_and255 _) (cbS (own_and255 _) cb0)) (Sf.mem (mG (i := 1) rfl)) (rest := [(.ref a549)]) (W := 1) rfl rfl at_831 (pc' := 834) rfl (by decide) (by decide) (by decide) (by decide) ?_
                      intro T571 h571_ t572 k573 g576 H571 K574 S575
                      have nt572 : n0 ≤ t572 := Nat.le_trans H562.le g576
                      refine G.astore H571 (L' := #[.val (.int x0), .val (.int x1), .val (.int x2), .val (.int x3), .val (.int (x2 &&& 255)), .val (.int (x3 &&& 255)), .val (.int (x1 &&& 2147483647)), .val (.int (x0 &&& 7)), .val (.ref a549), .unset, .val (.int ((x1 &&& 2147483647) &&& 7)), .unset, .unset]) at_834 (pc' := 836) rfl rfl rfl ?_
                      refine G.goto H571 at_836 (by decide) (pc' := 919) rfl ?_
                      refine G.aconstNull H571 at_919 (pc' := 920) rfl ?_
                      refine G.astore H571 (L' := #[.val (.int x0), .val (.int x1), .val (.int x2), .val (.int x3), .val (.int (x2 &&& 255)), .val (.int (x3 &&& 255)), .val (.int (x1 &&& 2147483647)), .val (.int (x0 &&& 7)), .val (.ref a549), .val .null, .val (.int ((x1 &&& 2147483647) &&& 7)), .unset, .unset]) at_920 (pc' := 922) rfl rfl rfl ?_
                      refine G.aload H571 at_922 (pc' := 924) rfl rfl rfl ?_
                      refine G.callS H571 (m75_named V a549 t572 k573 (x2 &&& 255) (x3 &&& 255) h571_ H571.old S575) (wd38 V) (wd39 V) (wd36 V) (wd40 V) (by decide) (argsL := [(.ref a549)]) (rest := []) (W := 0) rfl rfl (lenOf (pd_2) rfl) rfl rfl at_924 (pc' := 927) rfl (by decide) (by decide) (by decide) (by decide) all0 ?_
                      intro T577 h577_ v578 s579 H577 Q580
                      obtain ⟨rfl, rfl, K581⟩ := Q580
                      show Go p e below _ (T577.setTop (mkF m 927 #[.val (.int x0), .val (.int x1), .val (.int x2), .val (.int x3), .val (.int (x2 &&& 255)), .val (.int (x3 &&& 255)), .val (.int (x1 &&& 2147483647)), .val (.int (x0 &&& 7)), .val (.ref a549), .val .null, .val (.int ((x1 &&& 2147483647) &&& 7)), .unset, .unset] [.null]))
                      refine G.aload H577 at_927 (pc' := 929) rfl rfl rfl ?_
                      refine G.acmpNo H577 at_929 (pc' := 932) rfl rfl rfl (XT.aa_ne_f rfl) ?_
                      refine G.iconst H577 at_932 (pc' := 933) rfl (v := 1) rfl ?_
                      refine G.goto H577 at_933 (by decide) (pc' := 937) rfl ?_
                      exact G.retN H577 (t := .boolean) rfl (by decide) at_937 (so := []) all0 (by decide) (by decide) rfl
                    ·
                      refine G.icmpYes H at_811 (XT.ii_ne_t c547) (by decide) (pc' := 839) rfl ?_
                      refine G.iload H at_839 (pc' := 841) rfl rfl ?_
                      refine G.iconst H at_841 (pc' := 842) rfl (v := 3) rfl ?_
                      by_cases c582 : ((x1 &&& 2147483647) &&& 7) = 3
                      ·
                        refine G.icmpNo H at_842 (pc' := 845) rfl (XT.ii_ne_f c582) ?_
                        refine G.new H (wd1 V) (wd2 V) (wd3 V) at_845 (pc' := 848) rfl (by decide) (by decide) ?_
                        intro T583 h583_ a584 ga584 H583 E585 A586 D587
                        have na584 := H.nle ga584
                        refine G.dup H583 at_848 (pc' := 849) rfl rfl ?_
                        refine G.iconst H583 at_849 (pc' := 850) rfl (v := 3) rfl ?_
                        refine G.newP H583 (aty := .char) (wd8 V) at_850 (pc' := 852) rfl (by decide) (cap := 3) (by decide) (by decide) (by decide) (by decide) (vs := [(.int 0), (.int 0), (.int 0)]) rfl (ad := "[C") rfl ?_
                        intro T588 h588_ a589 k592 ga589 H588 E590 A591 X593
                        have na589 := H583.nle ga589
                        replace A591 : Arv Z h588_ a589 k592 .char 3 [(.int 0), (.int 0), (.int 0)] (.int 0) := A591
                        refine G.dup H588 at_852 (pc' := 853) rfl rfl ?_
                        refine G.iconst H588 at_853 (pc' := 854) rfl (v := 0) rfl ?_
                        refine G.iload H588 at_854 (pc' := 856) rfl rfl ?_
                        refine G.stC H588 A591 (by decide) (i := 0) rfl lB na589 (y := (x2 &&& 255)) (own_narC (own_u16 (own_and255 _))) at_856 (pc' := 857) rfl ?_
                        intro T594 h594_ H594 W595 A596
                        replace A596 : Arv Z h594_ a589 k592 .char 3 [(.int (x2 &&& 255)), (.int 0), (.int 0)] (.int 0) := A596
                        refine G.dup H594 at_857 (pc' := 858) rfl rfl ?_
                        refine G.iconst H594 at_858 (pc' := 859) rfl (v := 1) rfl ?_
                        refine G.iload H594 at_859 (pc' := 861) rfl rfl ?_
                        refine G.stC H594 A596 (by decide) (i := 1) rfl lB na589 (y := (x3 &&& 255)) (own_narC (own_u16 (own_and255 _))) at_861 (pc' := 862) rfl ?_
                        intro T597 h597_ H597 W598 A599
                        replace A599 : Arv Z h597_ a589 k592 .char 3 [(.int (x2 &&& 255)), (.int (x3 &&& 255)), (.int 0)] (.int 0) := A599
                        refine G.dup H597 at_862 (pc' := 863) rfl rfl ?_
                        refine G.iconst H597 at_863 (pc' := 864) rfl (v := 2) rfl ?_
                        refine G.iload H597 at_864 (pc' := 866) rfl rfl ?_
                        refine G.stC H597 A599 (by decide) (i := 2) rfl lB na589 (y := (x2 &&& 255)) (own_narC (own_u16 (own_and255 _))) at_866 (pc' := 867) rfl ?_
                        intro T600 h600_ H600 W601 A602
                        replace A602 : Arv Z h600_ a589 k592 .char 3 [(.int (x2 &&& 255)), (.int (x3 &&& 255)), (.int (x2 &&& 255))] (.int 0) := A602
                        have K603 : Keep h583_ h600_ [] := (Keep.wr (Keep.wr (Keep.wr (Keep.ext (Keep.refl h583_ []) E590) W595 (Or.inr (Nat.le_of_eq ga589.symm))) W598 (Or.inr (Nat.le_of_eq ga589.symm))) W601 (Or.inr (Nat.le_of_eq ga589.symm)))
                        have F604 := (Exa.keep A586 K603)
                        have F605 : Fld Z h583_ a584 "java/lang/String" "value" "[B" .null := D587 (Or.inr (wd34 V)) (ty := (.array .byte)) (by decide)
                        have F606 := (Fld.keep F605 K603 nin0)
                        have F607 : Fld Z h583_ a584 "java/lang/String" "coder" "B" (.int 0) := D587 (Or.inr (wd32 V)) (ty := .byte) (by decide)
                        have F608 := (Fld.keep F607 K603 nin0)
                        refine G.newStr H600 (strw V) (wd2 V) (wd9 V) (wd10 V) (cs := [(x2 &&& 255), (x3 &&& 255), (x2 &&& 255)]) (n := 3) na584 F604 F606 F608 A602 (hv17 V) (hv18 V) rfl rfl (by decide) (by decide) (cbS (own_and255 _) (cbS (own_and255 _) (cbS (own_and255 _) cb0))) (Sf.mem (mG (i := 1) rfl)) (rest := [(.ref a584)]) (W := 1) rfl rfl at_867 (pc' := 870) rfl (by decide) (by decide) (by decide) (by decide) ?_
                        intro T609 h609_ t610 k611 g614 H609 K612 S613
                        have nt610 : n0 ≤ t610 := Nat.le_trans H600.le g614
                        refine G.astore H609 (L' := #[.val (.int x0), .val (.int x1), .val (.int x2), .val (.int x3), .val (.int (x2 &&& 255)), .val (.int (x3 &&& 255)), .val (.int (x1 &&& 2147483647)), .val (.int (x0 &&& 7)), .val (.ref a584), .unset, .val (.int ((x1 &&& 2147483647) &&& 7)), .unset, .unset]) at_870 (pc' := 872) rfl rfl rfl ?_
                        refine G.goto H609 at_872 (by decide) (pc' := 919) rfl ?_
                        refine G.aconstNull H609 at_919 (pc' := 920) rfl ?_
                        refine G.astore H609 (L' := #[.val (.int x0), .val (.int x1), .val (.int x2), .val (.int x3), .val (.int (x2 &&& 255)), .val (.int (x3 &&& 255)), .val (.int (x1 &&& 2147483647)), .val (.int (x0 &&& 7)), .val (.ref a584), .val .null, .val (.int ((x1 &&& 2147483647) &&& 7)), .unset, .unset]) at_920 (pc' := 922) rfl rfl rfl ?_
                        refine G.aload H609 at_922 (pc' := 924) rfl rfl rfl ?_
                        refine G.callS H609 (m76_named V a584 t610 k611 (x2 &&& 255) (x3 &&& 255) h609_ H609.old S613) (wd38 V) (wd39 V) (wd36 V) (wd40 V) (by decide) (argsL := [(.ref a584)]) (rest := []) (W := 0) rfl rfl (lenOf (pd_2) rfl) rfl rfl at_924 (pc' := 927) rfl (by decide) (by decide) (by decide) (by decide) all0 ?_
                        intro T615 h615_ v616 s617 H615 Q618
                        obtain ⟨rfl, rfl, K619⟩ := Q618
                        show Go p e below _ (T615.setTop (mkF m 927 #[.val (.int x0), .val (.int x1), .val (.int x2), .val (.int x3), .val (.int (x2 &&& 255)), .val (.int (x3 &&& 255)), .val (.int (x1 &&& 2147483647)), .val (.int (x0 &&& 7)), .val (.ref a584), .val .null, .val (.int ((x1 &&& 2147483647) &&& 7)), .unset, .unset] [.null]))
                        refine G.aload H615 at_927 (pc' := 929) rfl rfl rfl ?_
                        refine G.acmpNo H615 at_929 (pc' := 932) rfl rfl rfl (XT.aa_ne_f rfl) ?_
                        refine G.iconst H615 at_932 (pc' := 933) rfl (v := 1) rfl ?_
                        refine G.goto H615 at_933 (by decide) (pc' := 937) rfl ?_
                        exact G.retN H615 (t := .boolean) rfl (by decide) at_937 (so := []) all0 (by decide) (by decide) rfl
                      ·
                        refine G.icmpYes H at_842 (XT.ii_ne_t c582) (by decide) (pc' := 875) rfl ?_
                        refine G.iload H at_875 (pc' := 877) rfl rfl ?_
                        refine G.iconst H at_877 (pc' := 878) rfl (v := 4) rfl ?_
                        by_cases c620 : ((x1 &&& 2147483647) &&& 7) = 4
                        ·
                          refine G.icmpNo H at_878 (pc' := 881) rfl (XT.ii_ne_f c620) ?_
                          refine G.ldcS H trivial (wS V) (wd89 V) (by decide) (vs := [(.int 68), (.int 73), (.int 82), (.int 69), (.int 67), (.int 84), (.int 79), (.int 82), (.int 89), (.int 95), (.int 73), (.int 78)]) (z := 12) (by decide) (by decide) rfl (n := 48) (by decide) (by decide) (by decide) (by decide) at_881 (pc' := 883) rfl ?_
                          intro T621 h621_ a622 b624 k625 H621 E623 X626 F627 F628 A629 Q630
                          have S631 : Str Z h621_ a622 b624 k625 [68, 73, 82, 69, 67, 84, 79, 82, 89, 95, 73, 78] := ⟨X626, F627, F628, A629, by decide, by decide⟩
                          refine G.astore H621 (L' := #[.val (.int x0), .val (.int x1), .val (.int x2), .val (.int x3), .val (.int (x2 &&& 255)), .val (.int (x3 &&& 255)), .val (.int (x1 &&& 2147483647)), .val (.int (x0 &&& 7)), .val (.ref a622), .unset, .val (.int ((x1 &&& 2147483647) &&& 7)), .unset, .unset]) at_883 (pc' := 885) rfl rfl rfl ?_
                          refine G.goto H621 at_885 (by decide) (pc' := 919) rfl ?_
                          refine G.aconstNull H621 at_919 (pc' := 920) rfl ?_
                          refine G.astore H621 (L' := #[.val (.int x0), .val (.int x1), .val (.int x2), .val (.int x3), .val (.int (x2 &&& 255)), .val (.int (x3 &&& 255)), .val (.int (x1 &&& 2147483647)), .val (.int (x0 &&& 7)), .val (.ref a622), .val .null, .val (.int ((x1 &&& 2147483647) &&& 7)), .unset, .unset]) at_920 (pc' := 922) rfl rfl rfl ?_
                          refine G.aload H621 at_922 (pc' := 924) rfl rfl rfl ?_
                          refine G.callS H621 (m77_named V a622 b624 k625 h621_ H621.old S631) (wd38 V) (wd39 V) (wd36 V) (wd40 V) (by decide) (argsL := [(.ref a622)]) (rest := []) (W := 0) rfl rfl (lenOf (pd_2) rfl) rfl rfl at_924 (pc' := 927) rfl (by decide) (by decide) (by decide) (by decide) all0 ?_
                          intro T632 h632_ v633 s634 H632 Q635
                          obtain ⟨rfl, rfl, K636⟩ := Q635
                          show Go p e below _ (T632.setTop (mkF m 927 #[.val (.int x0), .val (.int x1), .val (.int x2), .val (.int x3), .val (.int (x2 &&& 255)), .val (.int (x3 &&& 255)), .val (.int (x1 &&& 2147483647)), .val (.int (x0 &&& 7)), .val (.ref a622), .val .null, .val (.int ((x1 &&& 2147483647) &&& 7)), .unset, .unset] [.null]))
                          refine G.aload H632 at_927 (pc' := 929) rfl rfl rfl ?_
                          refine G.acmpNo H632 at_929 (pc' := 932) rfl rfl rfl (XT.aa_ne_f rfl) ?_
                          refine G.iconst H632 at_932 (pc' := 933) rfl (v := 1) rfl ?_
                          refine G.goto H632 at_933 (by decide) (pc' := 937) rfl ?_
                          exact G.retN H632 (t := .boolean) rfl (by decide) at_937 (so := []) all0 (by decide) (by decide) rfl
                        ·
                          refine G.icmpYes H at_878 (XT.ii_ne_t c620) (by decide) (pc' := 888) rfl ?_
                          refine G.iload H at_888 (pc' := 890) rfl rfl ?_
                          refine G.iconst H at_890 (pc' := 891) rfl (v := 5) rfl ?_
                          by_cases c637 : ((x1 &&& 2147483647) &&& 7) = 5
                          ·
                            refine G.icmpNo H at_891 (pc' := 894) rfl (XT.ii_ne_f c637) ?_
                            refine G.ldcS H trivial (wS V) (wd91 V) (by decide) (vs := [(.int 68), (.int 73), (.int 82), (.int 69), (.int 67), (.int 84), (.int 79), (.int 82), (.int 89), (.int 95), (.int 79), (.int 85), (.int 84)]) (z := 13) (by decide) (by decide) rfl (n := 52) (by decide) (by decide) (by decide) (by decide) at_894 (pc' := 896) rfl ?_
                            intro T638 h638_ a639 b641 k642 H638 E640 X643 F644 F645 A646 Q647
                            have S648 : Str Z h638_ a639 b641 k642 [68, 73, 82, 69, 67, 84, 79, 82, 89, 95, 79, 85, 84] := ⟨X643, F644, F645, A646, by decide, by decide⟩
                            refine G.astore H638 (L' := #[.val (.int x0), .val (.int x1), .val (.int x2), .val (.int x3), .val (.int (x2 &&& 255)), .val (.int (x3 &&& 255)), .val (.int (x1 &&& 2147483647)), .val (.int (x0 &&& 7)), .val (.ref a639), .unset, .val (.int ((x1 &&& 2147483647) &&& 7)), .unset, .unset]) at_896 (pc' := 898) rfl rfl rfl ?_
                            refine G.goto H638 at_898 (by decide) (pc' := 919) rfl ?_
                            refine G.aconstNull H638 at_919 (pc' := 920) rfl ?_
                            refine G.astore H638 (L' := #[.val (.int x0), .val (.int x1), .val (.int x2), .val (.int x3), .val (.int (x2 &&& 255)), .val (.int (x3 &&& 255)), .val (.int (x1 &&& 2147483647)), .val (.int (x0 &&& 7)), .val (.ref a639), .val .null, .val (.int ((x1 &&& 2147483647) &&& 7)), .unset, .unset]) at_920 (pc' := 922) rfl rfl rfl ?_
                            refine G.aload H638 at_922 (pc' := 924) rfl rfl rfl ?_
                            refine G.callS H638 (m78_named V a639 b641 k642 h638_ H638.old S648) (wd38 V) (wd39 V) (wd36 V) (wd40 V) (by decide) (argsL := [(.ref a639)]) (rest := []) (W := 0) rfl rfl (lenOf (pd_2) rfl) rfl rfl at_924 (pc' := 927) rfl (by decide) (by decide) (by decide) (by decide) all0 ?_
                            intro T649 h649_ v650 s651 H649 Q652
                            obtain ⟨rfl, rfl, K653⟩ := Q652
                            show Go p e below _ (T649.setTop (mkF m 927 #[.val (.int x0), .val (.int x1), .val (.int x2), .val (.int x3), .val (.int (x2 &&& 255)), .val (.int (x3 &&& 255)), .val (.int (x1 &&& 2147483647)), .val (.int (x0 &&& 7)), .val (.ref a639), .val .null, .val (.int ((x1 &&& 2147483647) &&& 7)), .unset, .unset] [.null]))
                            refine G.aload H649 at_927 (pc' := 929) rfl rfl rfl ?_
                            refine G.acmpNo H649 at_929 (pc' := 932) rfl rfl rfl (XT.aa_ne_f rfl) ?_
                            refine G.iconst H649 at_932 (pc' := 933) rfl (v := 1) rfl ?_
                            refine G.goto H649 at_933 (by decide) (pc' := 937) rfl ?_
                            exact G.retN H649 (t := .boolean) rfl (by decide) at_937 (so := []) all0 (by decide) (by decide) rfl
                          ·
                            refine G.icmpYes H at_891 (XT.ii_ne_t c637) (by decide) (pc' := 901) rfl ?_
                            refine G.iload H at_901 (pc' := 903) rfl rfl ?_
                            refine G.bipush H at_903 (pc' := 905) rfl (v := 6) rfl ?_
                            by_cases c654 : ((x1 &&& 2147483647) &&& 7) = 6
                            ·
                              refine G.icmpNo H at_905 (pc' := 908) rfl (XT.ii_ne_f c654) ?_
                              refine G.ldcS H trivial (wS V) (wd90 V) (by decide) (vs := [(.int 68), (.int 105), (.int 114), (.int 101), (.int 99), (.int 116), (.int 111), (.int 114), (.int 121), (.int 45), (.int 73), (.int 110)]) (z := 12) (by decide) (by decide) rfl (n := 48) (by decide) (by decide) (by decide) (by decide) at_908 (pc' := 910) rfl ?_
                              intro T655 h655_ a656 b658 k659 H655 E657 X660 F661 F662 A663 Q664
                              have S665 : Str Z h655_ a656 b658 k659 [68, 105, 114, 101, 99, 116, 111, 114, 121, 45, 73, 110] := ⟨X660, F661, F662, A663, by decide, by decide⟩
                              refine G.astore H655 (L' := #[.val (.int x0), .val (.int x1), .val (.int x2), .val (.int x3), .val (.int (x2 &&& 255)), .val (.int (x3 &&& 255)), .val (.int (x1 &&& 2147483647)), .val (.int (x0 &&& 7)), .val (.ref a656), .unset, .val (.int ((x1 &&& 2147483647) &&& 7)), .unset, .unset]) at_910 (pc' := 912) rfl rfl rfl ?_
                              refine G.goto H655 at_912 (by decide) (pc' := 919) rfl ?_
                              refine G.aconstNull H655 at_919 (pc' := 920) rfl ?_
                              refine G.astore H655 (L' := #[.val (.int x0), .val (.int x1), .val (.int x2), .val (.int x3), .val (.int (x2 &&& 255)), .val (.int (x3 &&& 255)), .val (.int (x1 &&& 2147483647)), .val (.int (x0 &&& 7)), .val (.ref a656), .val .null, .val (.int ((x1 &&& 2147483647) &&& 7)), .unset, .unset]) at_920 (pc' := 922) rfl rfl rfl ?_
                              refine G.aload H655 at_922 (pc' := 924) rfl rfl rfl ?_
                              refine G.callS H655 (m79_named V a656 b658 k659 h655_ H655.old S665) (wd38 V) (wd39 V) (wd36 V) (wd40 V) (by decide) (argsL := [(.ref a656)]) (rest := []) (W := 0) rfl rfl (lenOf (pd_2) rfl) rfl rfl at_924 (pc' := 927) rfl (by decide) (by decide) (by decide) (by decide) all0 ?_
                              intro T666 h666_ v667 s668 H666 Q669
                              obtain ⟨rfl, rfl, K670⟩ := Q669
                              show Go p e below _ (T666.setTop (mkF m 927 #[.val (.int x0), .val (.int x1), .val (.int x2), .val (.int x3), .val (.int (x2 &&& 255)), .val (.int (x3 &&& 255)), .val (.int (x1 &&& 2147483647)), .val (.int (x0 &&& 7)), .val (.ref a656), .val .null, .val (.int ((x1 &&& 2147483647) &&& 7)), .unset, .unset] [.null]))
                              refine G.aload H666 at_927 (pc' := 929) rfl rfl rfl ?_
                              refine G.acmpNo H666 at_929 (pc' := 932) rfl rfl rfl (XT.aa_ne_f rfl) ?_
                              refine G.iconst H666 at_932 (pc' := 933) rfl (v := 1) rfl ?_
                              refine G.goto H666 at_933 (by decide) (pc' := 937) rfl ?_
                              exact G.retN H666 (t := .boolean) rfl (by decide) at_937 (so := []) all0 (by decide) (by decide) rfl
                            ·
                              refine G.icmpYes H at_905 (XT.ii_ne_t c654) (by decide) (pc' := 915) rfl ?_
                              refine G.ldcS H trivial (wS V) (wd69 V) (by decide) (vs := [(.int 100), (.int 105), (.int 114), (.int 101), (.int 99), (.int 116), (.int 111), (.int 114), (.int 121), (.int 95), (.int 111), (.int 117), (.int 116)]) (z := 13) (by decide) (by decide) rfl (n := 52) (by decide) (by decide) (by decide) (by decide) at_915 (pc' := 917) rfl ?_
                              intro T671 h671_ a672 b674 k675 H671 E673 X676 F677 F678 A679 Q680
                              have S681 : Str Z h671_ a672 b674 k675 [100, 105, 114, 101, 99, 116, 111, 114, 121, 95, 111, 117, 116] := ⟨X676, F677, F678, A679, by decide, by decide⟩
                              refine G.astore H671 (L' := #[.val (.int x0), .val (.int x1), .val (.int x2), .val (.int x3), .val (.int (x2 &&& 255)), .val (.int (x3 &&& 255)), .val (.int (x1 &&& 2147483647)), .val (.int (x0 &&& 7)), .val (.ref a672), .unset, .val (.int ((x1 &&& 2147483647) &&& 7)), .unset, .unset]) at_917 (pc' := 919) rfl rfl rfl ?_
                              refine G.aconstNull H671 at_919 (pc' := 920) rfl ?_
                              refine G.astore H671 (L' := #[.val (.int x0), .val (.int x1), .val (.int x2), .val (.int x3), .val (.int (x2 &&& 255)), .val (.int (x3 &&& 255)), .val (.int (x1 &&& 2147483647)), .val (.int (x0 &&& 7)), .val (.ref a672), .val .null, .val (.int ((x1 &&& 2147483647) &&& 7)), .unset, .unset]) at_920 (pc' := 922) rfl rfl rfl ?_
                              refine G.aload H671 at_922 (pc' := 924) rfl rfl rfl ?_
                              refine G.callS H671 (m80_named V a672 b674 k675 h671_ H671.old S681) (wd38 V) (wd39 V) (wd36 V) (wd40 V) (by decide) (argsL := [(.ref a672)]) (rest := []) (W := 0) rfl rfl (lenOf (pd_2) rfl) rfl rfl at_924 (pc' := 927) rfl (by decide) (by decide) (by decide) (by decide) all0 ?_
                              intro T682 h682_ v683 s684 H682 Q685
                              obtain ⟨rfl, rfl, K686⟩ := Q685
                              show Go p e below _ (T682.setTop (mkF m 927 #[.val (.int x0), .val (.int x1), .val (.int x2), .val (.int x3), .val (.int (x2 &&& 255)), .val (.int (x3 &&& 255)), .val (.int (x1 &&& 2147483647)), .val (.int (x0 &&& 7)), .val (.ref a672), .val .null, .val (.int ((x1 &&& 2147483647) &&& 7)), .unset, .unset] [.null]))
                              refine G.aload H682 at_927 (pc' := 929) rfl rfl rfl ?_
                              refine G.acmpNo H682 at_929 (pc' := 932) rfl rfl rfl (XT.aa_ne_f rfl) ?_
                              refine G.iconst H682 at_932 (pc' := 933) rfl (v := 1) rfl ?_
                              refine G.goto H682 at_933 (by decide) (pc' := 937) rfl ?_
                              exact G.retN H682 (t := .boolean) rfl (by decide) at_937 (so := []) all0 (by decide) (by decide) rfl

set_option maxRecDepth 65536 in
set_option maxHeartbeats 40000000 in
theorem comes_1 {Post : Tables → Env → Array Value → State → Outcome → State → Prop} (hpost : ∀ tb e args s v u, (limb_1_1.after args s (.returned v) u = true ∧ limb_1_2.after args s (.returned v) u = true ∧ True) → ReturnedEndW s (.returned v) u (Jvm.fieldLocs frame_1_writes args s ++ Jvm.arrayLocs frame_1_arrays args s ++ Jvm.staticLocs frame_1_statics s) 32 5312 → Post tb e args s (.returned v) u) :
    ArmFor flags0 classFile x code maxLocals ret World_1 tables_1 room_1 Calls_1 rest_1 Pre_1 Post := by
  intro l hfl _ _ p e ha hc hk s m args below hf hA hF happ hP
  obtain ⟨hcalls, hrest, hpre⟩ := hP
  obtain ⟨-, -, -, hnamed, -, -, -, hat⟩ := (Spec.applies_iff hf).mp happ
  obtain ⟨hg, hn⟩ := and_e (Cond.before_iff.mp (show (Jvm.Cond.and given_1 narrow_1).before args s = true from hpre))
  obtain ⟨hg0, hg1⟩ := and_e hg
  obtain ⟨ha0, hg2⟩ := and_e hg1
  obtain ⟨ha1, hg3⟩ := and_e hg2
  obtain ⟨ha2, hg4⟩ := and_e hg3
  have ha3 := hg4
  obtain ⟨w0, w1, w2, w3, rfl⟩ : ∃ w0 w1 w2 w3 : Value, args = #[w0, w1, w2, w3] := by
    have hs : args.size = 4 := by simpa [Cond.value, given_1] using hg0
    obtain ⟨L⟩ := args
    match L, hs with
    | [w0, w1, w2, w3], _ => exact ⟨w0, w1, w2, w3, rfl⟩
  have hw := fun d (hd : d ∈ tables_1) => atoms_spec (ws := Jvm.Cond.code x code maxLocals ret :: tables_1) hat d (List.mem_cons_of_mem _ hd)
  obtain ⟨hsets, hown0⟩ := atoms_of _ (rest_1_c_eq ▸ (show rest_1_c.before _ s = true from hrest))
  have hr0 := Cond.before_iff.mp hown0
  have hfit : Fit s := fun {y c} hc i hi => by
    obtain ⟨ha, rfl⟩ := Array.getElem?_eq_some_iff.mp hc
    have q := List.all_eq_true.mp ((Array.all_eq_true_iff_forall_mem.mp hF) _ (Array.getElem_mem ha)) i (List.mem_range.mpr hi)
    simpa [Array.getElem?_eq_getElem hi] using q
  obtain ⟨i0, e0⟩ := is_v ha0
  obtain rfl : w0 = (.int i0) := Option.some.inj e0
  obtain ⟨i1, e1⟩ := is_v ha1
  obtain rfl : w1 = (.int i1) := Option.some.inj e1
  obtain ⟨i2, e2⟩ := is_v ha2
  obtain rfl : w2 = (.int i2) := Option.some.inj e2
  obtain ⟨i3, e3⟩ := is_v ha3
  obtain rfl : w3 = (.int i3) := Option.some.inj e3
  obtain ⟨nr0, hn0⟩ := and_e hn
  obtain ⟨nr1, hn1⟩ := and_e hn0
  obtain ⟨nr2, hn2⟩ := and_e hn1
  obtain ⟨nr3, hn3⟩ := and_e hn2
  obtain ⟨nr4, hn4⟩ := and_e hn3
  obtain ⟨nr5, hn5⟩ := and_e hn4
  obtain ⟨nr6, hn6⟩ := and_e hn5
  obtain ⟨nr7, hn7⟩ := and_e hn6
  obtain ⟨nr8, hn8⟩ := and_e hn7
  obtain ⟨nr9, hn9⟩ := and_e hn8
  obtain ⟨nr10, hn10⟩ := and_e hn9
  obtain ⟨nr11, hn11⟩ := and_e hn10
  obtain ⟨nr12, hn12⟩ := and_e hn11
  obtain ⟨nr13, hn13⟩ := and_e hn12
  obtain ⟨nr14, hn14⟩ := and_e hn13
  obtain ⟨nr15, hn15⟩ := and_e hn14
  obtain ⟨nr16, hn16⟩ := and_e hn15
  obtain ⟨nr17, hn17⟩ := and_e hn16
  obtain ⟨nr18, hn18⟩ := and_e hn17
  obtain ⟨nr19, hn19⟩ := and_e hn18
  obtain ⟨nr20, hn20⟩ := and_e hn19
  obtain ⟨nr21, hn21⟩ := and_e hn20
  obtain ⟨nr22, hn22⟩ := and_e hn21
  obtain ⟨nr23, hn23⟩ := and_e hn22
  obtain ⟨nr24, hn24⟩ := and_e hn23
  obtain ⟨nr25, hn25⟩ := and_e hn24
  obtain ⟨nr26, hn26⟩ := and_e hn25
  obtain ⟨nr27, hn27⟩ := and_e hn26
  obtain ⟨nr28, hn28⟩ := and_e hn27
  obtain ⟨nr29, hn29⟩ := and_e hn28
  obtain ⟨nr30, hn30⟩ := and_e hn29
  obtain ⟨nr31, hn31⟩ := and_e hn30
  obtain ⟨nr32, hn32⟩ := and_e hn31
  obtain ⟨nr33, hn33⟩ := and_e hn32
  obtain ⟨nr34, hn34⟩ := and_e hn33
  obtain ⟨nr35, hn35⟩ := and_e hn34
  obtain ⟨nr36, hn36⟩ := and_e hn35
  obtain ⟨nr37, hn37⟩ := and_e hn36
  obtain ⟨nr38, hn38⟩ := and_e hn37
  have nr39 := hn38
  obtain ⟨uu0, e__VALUES⟩ := exa_v nr2
  have hv0 := Sta.start e__VALUES (Or.inr ⟨hw _ (List.mem_of_getElem? (i := 36) rfl), hw _ (List.mem_of_getElem? (i := 45) rfl)⟩)
  have hv1 := Exa.start e__VALUES nr2
  obtain ⟨uu1, e_DIRECTORY_IN⟩ := exa_v nr0
  have hv2 := Sta.start e_DIRECTORY_IN (Or.inr ⟨hw _ (List.mem_of_getElem? (i := 36) rfl), hw _ (List.mem_of_getElem? (i := 37) rfl)⟩)
  have hv3 := Exa.start e_DIRECTORY_IN nr0
  obtain ⟨uu2, e_DIRECTORY_OUT⟩ := exa_v nr5
  have hv4 := Sta.start e_DIRECTORY_OUT (Or.inr ⟨hw _ (List.mem_of_getElem? (i := 36) rfl), hw _ (List.mem_of_getElem? (i := 53) rfl)⟩)
  have hv5 := Exa.start e_DIRECTORY_OUT nr5
  obtain ⟨uu3, e_DIRECTORY_OUT_typeName⟩ := exa_v nr11
  have hv6 := Fld.start ((fld_at e_DIRECTORY_OUT).symm.trans e_DIRECTORY_OUT_typeName)
  have hv7 := Exa.start e_DIRECTORY_OUT_typeName nr11
  obtain ⟨uu4, e_DIRECTORY_IN_typeName⟩ := exa_v nr7
  have hv8 := Fld.start ((fld_at e_DIRECTORY_IN).symm.trans e_DIRECTORY_IN_typeName)
  have hv9 := Exa.start e_DIRECTORY_IN_typeName nr7
  obtain ⟨uu5, e_DIRECTORY_OUT_typeName_value⟩ := arr_v nr13
  have hv10 := Fld.start ((fld_at e_DIRECTORY_OUT_typeName).symm.trans e_DIRECTORY_OUT_typeName_value)
  obtain ⟨uu6, e_DIRECTORY_IN_typeName_value⟩ := arr_v nr9
  have hv11 := Fld.start ((fld_at e_DIRECTORY_IN_typeName).symm.trans e_DIRECTORY_IN_typeName_value)
  obtain ⟨cl__VALUES, Ar__VALUES⟩ := Arr.start e__VALUES nr1
  obtain ⟨sz__VALUES, ln__VALUES⟩ := own_len e__VALUES Ar__VALUES nr3
  have hv12 : Arv s s.heap uu0 cl__VALUES.cls (.object "bindery/bindings/BindingType") (2 : Int32) [(.ref uu1), (.ref uu2)] .null := Arv.start hfit Ar__VALUES sz__VALUES ln__VALUES (by decide) rfl ⟨own_el e__VALUES Ar__VALUES (own_evR e_DIRECTORY_IN nr4) rfl, own_el e__VALUES Ar__VALUES (own_evR e_DIRECTORY_OUT nr6) rfl, trivial⟩
  obtain ⟨cl_DIRECTORY_OUT_typeName_value, Ar_DIRECTORY_OUT_typeName_value⟩ := Arr.start e_DIRECTORY_OUT_typeName_value nr13
  obtain ⟨sz_DIRECTORY_OUT_typeName_value, ln_DIRECTORY_OUT_typeName_value⟩ := own_len e_DIRECTORY_OUT_typeName_value Ar_DIRECTORY_OUT_typeName_value nr14
  have hv13 : Arv s s.heap uu5 cl_DIRECTORY_OUT_typeName_value.cls .byte (13 : Int32) [(.int (100 : Int32)), (.int (105 : Int32)), (.int (114 : Int32)), (.int (101 : Int32)), (.int (99 : Int32)), (.int (116 : Int32)), (.int (111 : Int32)), (.int (114 : Int32)), (.int (121 : Int32)), (.int (45 : Int32)), (.int (111 : Int32)), (.int (117 : Int32)), (.int (116 : Int32))] (.int 0) := Arv.start hfit Ar_DIRECTORY_OUT_typeName_value sz_DIRECTORY_OUT_typeName_value ln_DIRECTORY_OUT_typeName_value (by decide) rfl ⟨own_el e_DIRECTORY_OUT_typeName_value Ar_DIRECTORY_OUT_typeName_value (own_evI nr27) rfl, own_el e_DIRECTORY_OUT_typeName_value Ar_DIRECTORY_OUT_typeName_value (own_evI nr28) rfl, own_el e_DIRECTORY_OUT_typeName_value Ar_DIRECTORY_OUT_typeName_value (own_evI nr29) rfl, own_el e_DIRECTORY_OUT_typeName_value Ar_DIRECTORY_OUT_typeName_value (own_evI nr30) rfl, own_el e_DIRECTORY_OUT_typeName_value Ar_DIRECTORY_OUT_typeName_value (own_evI nr31) rfl, own_el e_DIRECTORY_OUT_typeName_value Ar_DIRECTORY_OUT_typeName_value (own_evI nr32) rfl, own_el e_DIRECTORY_OUT_typeName_value Ar_DIRECTORY_OUT_typeName_value (own_evI nr33) rfl, own_el e_DIRECTORY_OUT_typeName_value Ar_DIRECTORY_OUT_typeName_value (own_evI nr34) rfl, own_el e_DIRECTORY_OUT_typeName_value Ar_DIRECTORY_OUT_typeName_value (own_evI nr35) rfl, own_el e_DIRECTORY_OUT_typeName_value Ar_DIRECTORY_OUT_typeName_value (own_evI nr36) rfl, own_el e_DIRECTORY_OUT_typeName_value Ar_DIRECTORY_OUT_typeName_value (own_evI nr37) rfl, own_el e_DIRECTORY_OUT_typeName_value Ar_DIRECTORY_OUT_typeName_value (own_evI nr38) rfl, own_el e_DIRECTORY_OUT_typeName_value Ar_DIRECTORY_OUT_typeName_value (own_evI nr39) rfl, trivial⟩
  obtain ⟨cl_DIRECTORY_IN_typeName_value, Ar_DIRECTORY_IN_typeName_value⟩ := Arr.start e_DIRECTORY_IN_typeName_value nr9
  obtain ⟨sz_DIRECTORY_IN_typeName_value, ln_DIRECTORY_IN_typeName_value⟩ := own_len e_DIRECTORY_IN_typeName_value Ar_DIRECTORY_IN_typeName_value nr10
  have hv14 : Arv s s.heap uu6 cl_DIRECTORY_IN_typeName_value.cls .byte (12 : Int32) [(.int (100 : Int32)), (.int (105 : Int32)), (.int (114 : Int32)), (.int (101 : Int32)), (.int (99 : Int32)), (.int (116 : Int32)), (.int (111 : Int32)), (.int (114 : Int32)), (.int (121 : Int32)), (.int (45 : Int32)), (.int (105 : Int32)), (.int (110 : Int32))] (.int 0) := Arv.start hfit Ar_DIRECTORY_IN_typeName_value sz_DIRECTORY_IN_typeName_value ln_DIRECTORY_IN_typeName_value (by decide) rfl ⟨own_el e_DIRECTORY_IN_typeName_value Ar_DIRECTORY_IN_typeName_value (own_evI nr15) rfl, own_el e_DIRECTORY_IN_typeName_value Ar_DIRECTORY_IN_typeName_value (own_evI nr16) rfl, own_el e_DIRECTORY_IN_typeName_value Ar_DIRECTORY_IN_typeName_value (own_evI nr17) rfl, own_el e_DIRECTORY_IN_typeName_value Ar_DIRECTORY_IN_typeName_value (own_evI nr18) rfl, own_el e_DIRECTORY_IN_typeName_value Ar_DIRECTORY_IN_typeName_value (own_evI nr19) rfl, own_el e_DIRECTORY_IN_typeName_value Ar_DIRECTORY_IN_typeName_value (own_evI nr20) rfl, own_el e_DIRECTORY_IN_typeName_value Ar_DIRECTORY_IN_typeName_value (own_evI nr21) rfl, own_el e_DIRECTORY_IN_typeName_value Ar_DIRECTORY_IN_typeName_value (own_evI nr22) rfl, own_el e_DIRECTORY_IN_typeName_value Ar_DIRECTORY_IN_typeName_value (own_evI nr23) rfl, own_el e_DIRECTORY_IN_typeName_value Ar_DIRECTORY_IN_typeName_value (own_evI nr24) rfl, own_el e_DIRECTORY_IN_typeName_value Ar_DIRECTORY_IN_typeName_value (own_evI nr25) rfl, own_el e_DIRECTORY_IN_typeName_value Ar_DIRECTORY_IN_typeName_value (own_evI nr26) rfl, trivial⟩
  have hv15 := own_fldeq e_DIRECTORY_IN_typeName nr8
  have hv16 := own_fldeq e_DIRECTORY_OUT_typeName nr12
  obtain ⟨uu10, ez_COMPACT_STRINGS⟩ := is_v (Cond.before_iff.mp (hsets _ (List.mem_of_getElem? (i := 1) rfl)))
  have hv17 := Sta.start ez_COMPACT_STRINGS (Or.inl (hsets _ (List.mem_of_getElem? (i := 0) rfl)))
  have hv18 : ¬ (uu10 = (0 : Int32)) := gotF (Cond.eq_ints ez_COMPACT_STRINGS (Term.int_eval (0))) (not_v (Cond.before_iff.mp (hsets _ (List.mem_of_getElem? (i := 2) rfl))))
  obtain ⟨uu11, ez_SIOOBE_FORMATTER, hv20⟩ := isR_v (Cond.before_iff.mp (hsets _ (List.mem_of_getElem? (i := 8) rfl)))
  have hv19 := Sta.start ez_SIOOBE_FORMATTER (Or.inl (hsets _ (List.mem_of_getElem? (i := 7) rfl)))
  have hv21 : Str s s.heap uu3 uu5 cl_DIRECTORY_OUT_typeName_value.cls [(100 : Int32), (105 : Int32), (114 : Int32), (101 : Int32), (99 : Int32), (116 : Int32), (111 : Int32), (114 : Int32), (121 : Int32), (45 : Int32), (111 : Int32), (117 : Int32), (116 : Int32)] := ⟨hv7, hv16, hv10, hv13, by decide, by decide⟩
  have hv22 : Str s s.heap uu4 uu6 cl_DIRECTORY_IN_typeName_value.cls [(100 : Int32), (105 : Int32), (114 : Int32), (101 : Int32), (99 : Int32), (116 : Int32), (111 : Int32), (114 : Int32), (121 : Int32), (45 : Int32), (105 : Int32), (110 : Int32)] := ⟨hv9, hv15, hv11, hv14, by decide, by decide⟩
  have V : Env1 s _ s.heap.size uu0 uu1 uu2 uu3 uu4 uu5 uu6 cl__VALUES.cls cl_DIRECTORY_OUT_typeName_value.cls cl_DIRECTORY_IN_typeName_value.cls uu10 uu11 := ⟨hw, (EW.cons (hw _ (List.mem_of_getElem? (i := 89) rfl)) (by decide) (EW.cons (hw _ (List.mem_of_getElem? (i := 91) rfl)) (by decide) (EW.cons (hw _ (List.mem_of_getElem? (i := 90) rfl)) (by decide) (EW.cons (hw _ (List.mem_of_getElem? (i := 69) rfl)) (by decide) (EW.cons (hw _ (List.mem_of_getElem? (i := 76) rfl)) (by decide) EW.nil))))), hv0, hv1, hv2, hv3, hv4, hv5, hv6, hv7, hv8, hv9, hv10, hv11, hv12, hv13, hv14, hv15, hv16, hv17, hv18, hv19, hv20, hv21, hv22, trivial⟩
  have hCH : CHv s ELs s.vm s.heap := CHv.start (EWl V) (fun q hq => hcalls.1 q hq) (hsets _ (List.mem_of_getElem? (i := 2) rfl)) (hw _ (List.mem_of_getElem? (i := 24) rfl)) (hw _ (List.mem_of_getElem? (i := 2) rfl))
  obtain ⟨n, o, g1, g2, g3, v, L, so, rfl, rfl, -, N, -, -, hq, hq2⟩ := rmLaw (l := l) V i0 i1 i2 i3 s.heap (Old.start s) tables_1 p e ha hc hk s m _ below hf ((Spec.applies_iff_loose hf).mp happ).1 ⟨rfl, State.Warmed39.refl s, rfl, hCH, fun _ q => nomatch q⟩ trivial
  refine ⟨n, _, g1, g2, g3, hpost _ _ _ _ _ _ ⟨Cond.after_iff.mpr rfl, Cond.after_iff.mpr (eq_i res_at (Term.int_eval (1)) rfl), trivial⟩ ⟨hq.1, hq.2.1, hq.2.2.1, (hq.2.2.2.sift fun y hy => Or.inr (N y hy)).mono (by decide) (by decide)⟩⟩
theorem main_1_1 : Claimed_1_1 := comes_1 fun _ _ _ _ _ _ h hF => ⟨h.1, hF⟩
theorem main_1_2 : Claimed_1_2 := comes_1 fun _ _ _ _ _ _ h hF => ⟨h.2.1, hF⟩
end Jvm.Pilot.@@N@@
namespace Jvm.Pilot.@@N@@
open Jvm Jvm.ClassFile Sem Op Lib Jvm.Free Jvm.Stand Jvm.Pilot.@@N@@.Jvm.D
/-! MADE BY PROGRAM (witnessworld.py) out of the Statement's table words and the real class files: 22 classes; the members and pool entries that the words name. The judged class is class 1, her method 3. -/
namespace start1
open Jvm.ClassFile
def u (s : String) : CpInfo := .utf8 (stringToUtf16 s)
/-- a pool by its gaps: so many unusable entries, then the entry; so many at the end -/
def gap : Nat → List CpInfo → List CpInfo
  | 0, r => r
  | n + 1, r => .unusable :: gap n r
def poolList (es : List (Nat × CpInfo)) (last : Nat) : List CpInfo := es.foldr (fun e r => gap e.1 (e.2 :: r)) (gap last [])
def pool (es : List (Nat × CpInfo)) (last : Nat) : Array CpInfo := ⟨poolList es last⟩
def fileOf (pool : Array CpInfo) (this : Nat) (attrs : Array Attribute := #[]) (ms : Array MethodInfo := #[]) (fl : Nat := 33) (sup : Nat := 0) (ifs : Array Nat := #[]) (fds : Array FieldInfo := #[]) : ClassFile where
  minorVersion := 0
  majorVersion := 65
  constantPool := pool
  accessFlags := fl
  thisClass := this
  superClass := sup
  interfaces := ifs
  fields := fds
  methods := ms
  attributes := attrs
def plain (name : String) (sup : Option ClassId) : Class where
  name := name
  kind := .ordinary
  loader := none
  accessFlags := 33
  super := sup
  interfaces := #[]
  cf := none
  fields := #[]
  methods := #[]
  instanceTypes := #[]
  staticTypes := #[]
  resolved := #[]
  callSites := []
  init := .initialized
  statics := none
  mirror := none

def pool0 : Array CpInfo := pool [(5, u "<init>"), (0, u "()V"), (1, .class_ 10), (1, u "java/lang/Object"), (85, u "clone"), (0, u "()Ljava/lang/Object;")] 26

def k0c0 : Code := { maxStack := 0, maxLocals := 1, code := object_method_1_code, exceptionTable := #[], attributes := #[] }
def k0m0 : Method := { name := "<init>", desc := "()V", sig := { parameters := [], returnType := none }, accessFlags := 1, code := some k0c0 }
def k0m1 : Method := { name := "clone", desc := "()Ljava/lang/Object;", sig := { parameters := [], returnType := some (.object "java/lang/Object") }, accessFlags := 260, code := none }
/-- java/lang/Object -/
def k0 : Class := { plain "java/lang/Object" none with
  accessFlags := 33
  interfaces := #[]
  cf := some (fileOf pool0 8 #[] #[{ accessFlags := 1, nameIndex := 5, descriptorIndex := 6, attributes := #[] }, { accessFlags := 260, nameIndex := 96, descriptorIndex := 97, attributes := #[] }] 33 0 #[] #[])
  fields := #[]
  methods := #[k0m0, k0m1]
  instanceTypes := #[]
  staticTypes := #[]
  resolved := Array.replicate 124 none
  statics := none }

def pool1 : Array CpInfo := pool [(2, .class_ 4), (1, u "java/lang/Object"), (0, u "<init>"), (0, u "()V"), (0, .integer 2147483647), (0, .class_ 9), (0, u "java/lang/String"), (0, .methodref 11 12), (0, .class_ 13), (0, .nameAndType 14 15), (0, u "bindery/bindings/BindingTypeNamedPinLaw"), (0, u "inChars"), (0, u "()[C"), (0, .methodref 8 17), (0, .nameAndType 5 18), (0, u "([C)V"), (0, .fieldref 20 21), (0, .class_ 22), (0, .nameAndType 23 24), (0, u "bindery/bindings/BindingType"), (0, u "DIRECTORY_IN"), (0, u "Lbindery/bindings/BindingType;"), (0, .methodref 11 26), (0, .nameAndType 27 15), (0, u "outChars"), (0, .fieldref 20 29), (0, .nameAndType 30 24), (0, u "DIRECTORY_OUT"), (0, .methodref 8 32), (0, .nameAndType 33 34), (0, u "valueOf"), (0, u "(C)Ljava/lang/String;"), (0, .string 23), (0, .string 30), (0, .string 38), (0, u "Directory-In"), (0, .string 40), (0, u "directory_out"), (0, .methodref 20 42), (0, .nameAndType 43 44), (0, u "named"), (0, u "(Ljava/lang/String;)Lbindery/bindings/BindingType;"), (2, u "law"), (0, u "(IIII)Z")] 5

def k1m0 : Method := { name := "<init>", desc := "()V", sig := { parameters := [], returnType := none }, accessFlags := 1, code := none }
def k1c1 : Code := { maxStack := 4, maxLocals := 0, code := method_2_code, exceptionTable := #[], attributes := #[] }
def k1m1 : Method := { name := "inChars", desc := "()[C", sig := { parameters := [], returnType := some (.array .char) }, accessFlags := 10, code := some k1c1 }
def k1c2 : Code := { maxStack := 4, maxLocals := 0, code := method_3_code, exceptionTable := #[], attributes := #[] }
def k1m2 : Method := { name := "outChars", desc := "()[C", sig := { parameters := [], returnType := some (.array .char) }, accessFlags := 10, code := some k1c2 }
def k1c3 : Code := { maxStack := 6, maxLocals := 13, code := code, exceptionTable := #[], attributes := #[] }
def k1m3 : Method := { name := "law", desc := "(IIII)Z", sig := { parameters := [.int, .int, .int, .int], returnType := some .boolean }, accessFlags := 9, code := some k1c3 }
/-- bindery/bindings/BindingTypeNamedPinLaw -/
def k1 : Class := { plain "bindery/bindings/BindingTypeNamedPinLaw" (some 0) with
  accessFlags := 49
  interfaces := #[]
  cf := some (fileOf pool1 11 #[] #[{ accessFlags := 1, nameIndex := 5, descriptorIndex := 6, attributes := #[] }, { accessFlags := 10, nameIndex := 14, descriptorIndex := 15, attributes := #[] }, { accessFlags := 10, nameIndex := 27, descriptorIndex := 15, attributes := #[] }, { accessFlags := 9, nameIndex := 47, descriptorIndex := 48, attributes := #[] }] 49 2 #[] #[])
  fields := #[]
  methods := #[k1m0, k1m1, k1m2, k1m3]
  instanceTypes := #[]
  staticTypes := #[]
  resolved := Array.replicate 54 none
  statics := none }

def pool2 : Array CpInfo := pool [(1, .class_ 2), (0, u "java/io/Serializable"), (0, .class_ 4), (0, u "java/lang/Object")] 2

/-- java/io/Serializable -/
def k2 : Class := { plain "java/io/Serializable" (some 0) with
  accessFlags := 1537
  interfaces := #[]
  cf := some (fileOf pool2 1 #[] #[] 1537 3 #[] #[])
  fields := #[]
  methods := #[]
  instanceTypes := #[]
  staticTypes := #[]
  resolved := Array.replicate 7 none
  statics := none }

def pool3 : Array CpInfo := pool [(1, .class_ 2), (0, u "java/lang/Comparable"), (0, .class_ 4), (0, u "java/lang/Object")] 7

/-- java/lang/Comparable -/
def k3 : Class := { plain "java/lang/Comparable" (some 0) with
  accessFlags := 1537
  interfaces := #[]
  cf := some (fileOf pool3 1 #[] #[] 1537 3 #[] #[])
  fields := #[]
  methods := #[]
  instanceTypes := #[]
  staticTypes := #[]
  resolved := Array.replicate 12 none
  statics := none }

def pool4 : Array CpInfo := pool [(2, .class_ 4), (1, u "java/lang/CharSequence"), (42, .class_ 48), (0, u "java/lang/CharSequence$1CodePointIterator"), (10, .class_ 60), (0, u "java/lang/CharSequence$1CharIterator"), (5, .class_ 67), (0, u "java/lang/Object")] 63

/-- java/lang/CharSequence -/
def k4 : Class := { plain "java/lang/CharSequence" (some 0) with
  accessFlags := 1537
  interfaces := #[]
  cf := some (fileOf pool4 2 #[.nestMembers #[47, 59]] #[] 1537 66 #[] #[])
  fields := #[]
  methods := #[]
  instanceTypes := #[]
  staticTypes := #[]
  resolved := Array.replicate 131 none
  statics := none }

def pool5 : Array CpInfo := pool [(1, .class_ 2), (0, u "java/lang/constant/Constable"), (0, .class_ 4), (0, u "java/lang/Object")] 6

/-- java/lang/constant/Constable -/
def k5 : Class := { plain "java/lang/constant/Constable" (some 0) with
  accessFlags := 1537
  interfaces := #[]
  cf := some (fileOf pool5 1 #[] #[] 1537 3 #[] #[])
  fields := #[]
  methods := #[]
  instanceTypes := #[]
  staticTypes := #[]
  resolved := Array.replicate 11 none
  statics := none }

def pool6 : Array CpInfo := pool [(1, .class_ 2), (0, u "java/lang/constant/ConstantDesc"), (0, .class_ 4), (0, u "java/lang/Object")] 32

/-- java/lang/constant/ConstantDesc -/
def k6 : Class := { plain "java/lang/constant/ConstantDesc" (some 0) with
  accessFlags := 1537
  interfaces := #[]
  cf := some (fileOf pool6 1 #[] #[] 1537 3 #[] #[])
  fields := #[]
  methods := #[]
  instanceTypes := #[]
  staticTypes := #[]
  resolved := Array.replicate 37 none
  statics := none }

def pool7 : Array CpInfo := pool [(1, .methodref 2 3), (0, .class_ 4), (0, .nameAndType 5 6), (0, u "java/lang/Object"), (0, u "<init>"), (0, u "()V"), (0, .string 8), (0, u ""), (0, .fieldref 10 11), (0, .class_ 12), (0, .nameAndType 13 14), (0, u "java/lang/String"), (0, u "value"), (0, u "[B"), (0, .fieldref 10 16), (0, .nameAndType 17 18), (0, u "coder"), (0, u "B"), (2, u "hash"), (0, u "I"), (2, u "hashIsZero"), (0, u "Z"), (0, .methodref 10 28), (0, .nameAndType 5 29), (0, u "([CIILjava/lang/Void;)V"), (8, .fieldref 10 39), (0, .nameAndType 40 26), (0, u "COMPACT_STRINGS"), (1, .class_ 44), (1, u "java/lang/StringUTF16"), (0, u "compress"), (1, .methodref 42 48), (0, .nameAndType 49 50), (0, u "coderFromArrayLen"), (0, u "([BI)B"), (2, u "toBytes"), (53, .class_ 109), (1, u "java/lang/StringLatin1"), (67, .methodref 42 178), (0, .nameAndType 45 179), (0, u "([CII)[B"), (29, .methodref 10 210), (0, .nameAndType 5 211), (0, u "([BB)V"), (157, u "(C)Z"), (171, .methodref 107 542), (0, .nameAndType 543 544), (0, u "equals"), (0, u "([B[B)Z"), (28, u "(Ljava/lang/Object;)Z"), (1, .class_ 576), (0, u "java/lang/CharSequence"), (22, u "CASE_INSENSITIVE_ORDER"), (0, u "Ljava/util/Comparator;"), (181, u "valueOf"), (0, u "(C)Ljava/lang/String;"), (226, u "([C)V"), (4, .methodref 107 1016), (0, .nameAndType 1017 369), (0, u "canEncode"), (0, .methodref 107 1019), (0, .nameAndType 53 1020), (0, u "(C)[B"), (80, u "serialPersistentFields"), (0, u "[Ljava/io/ObjectStreamField;"), (0, .class_ 1104), (0, u "java/lang/String$CaseInsensitiveComparator"), (1, .class_ 1107), (0, u "java/io/Serializable"), (0, .class_ 1109), (0, u "java/lang/Comparable"), (0, .class_ 1111), (0, u "java/lang/constant/Constable"), (0, .class_ 1113), (0, u "java/lang/constant/ConstantDesc"), (2, u "serialVersionUID"), (0, u "J"), (3, u "REPL"), (0, u "C"), (2, u "LATIN1"), (1, u "UTF16")] 323

def k7m0 : Method := { name := "<init>", desc := "()V", sig := { parameters := [], returnType := none }, accessFlags := 1, code := none }
def k7c1 : Code := { maxStack := 5, maxLocals := 2, code := jdk_42_method_3_code, exceptionTable := #[], attributes := #[] }
def k7m1 : Method := { name := "<init>", desc := "([C)V", sig := { parameters := [(.array .char)], returnType := none }, accessFlags := 1, code := some k7c1 }
def k7c2 : Code := { maxStack := 2, maxLocals := 3, code := jdk_42_method_66_code, exceptionTable := #[], attributes := #[] }
def k7m2 : Method := { name := "equals", desc := "(Ljava/lang/Object;)Z", sig := { parameters := [(.object "java/lang/Object")], returnType := some .boolean }, accessFlags := 1, code := some k7c2 }
def k7c3 : Code := { maxStack := 4, maxLocals := 1, code := jdk_42_method_139_code, exceptionTable := #[], attributes := #[] }
def k7m3 : Method := { name := "valueOf", desc := "(C)Ljava/lang/String;", sig := { parameters := [.char], returnType := some (.object "java/lang/String") }, accessFlags := 9, code := some k7c3 }
def k7c4 : Code := { maxStack := 4, maxLocals := 6, code := jdk_42_method_149_code, exceptionTable := #[], attributes := #[] }
def k7m4 : Method := { name := "<init>", desc := "([CIILjava/lang/Void;)V", sig := { parameters := [(.array .char), .int, .int, (.object "java/lang/Void")], returnType := none }, accessFlags := 2, code := some k7c4 }
def k7c5 : Code := { maxStack := 2, maxLocals := 3, code := jdk_42_method_151_code, exceptionTable := #[], attributes := #[] }
def k7m5 : Method := { name := "<init>", desc := "([BB)V", sig := { parameters := [(.array .byte), .byte], returnType := none }, accessFlags := 0, code := some k7c5 }
/-- java/lang/String -/
def k7 : Class := { plain "java/lang/String" (some 0) with
  accessFlags := 49
  interfaces := #[2, 3, 4, 5, 6]
  cf := some (fileOf pool7 10 #[.nestMembers #[1103]] #[{ accessFlags := 1, nameIndex := 5, descriptorIndex := 6, attributes := #[] }, { accessFlags := 1, nameIndex := 5, descriptorIndex := 1010, attributes := #[] }, { accessFlags := 1, nameIndex := 543, descriptorIndex := 573, attributes := #[] }, { accessFlags := 9, nameIndex := 782, descriptorIndex := 783, attributes := #[] }, { accessFlags := 2, nameIndex := 5, descriptorIndex := 29, attributes := #[] }, { accessFlags := 0, nameIndex := 5, descriptorIndex := 211, attributes := #[] }] 49 2 #[1106, 1108, 575, 1110, 1112] #[{ accessFlags := 18, nameIndex := 13, descriptorIndex := 14, attributes := #[] }, { accessFlags := 18, nameIndex := 17, descriptorIndex := 18, attributes := #[] }, { accessFlags := 2, nameIndex := 21, descriptorIndex := 22, attributes := #[] }, { accessFlags := 2, nameIndex := 25, descriptorIndex := 26, attributes := #[] }, { accessFlags := 26, nameIndex := 1116, descriptorIndex := 1117, attributes := #[] }, { accessFlags := 24, nameIndex := 40, descriptorIndex := 26, attributes := #[] }, { accessFlags := 26, nameIndex := 1101, descriptorIndex := 1102, attributes := #[] }, { accessFlags := 26, nameIndex := 1121, descriptorIndex := 1122, attributes := #[] }, { accessFlags := 25, nameIndex := 599, descriptorIndex := 600, attributes := #[] }, { accessFlags := 24, nameIndex := 1125, descriptorIndex := 18, attributes := #[] }, { accessFlags := 24, nameIndex := 1127, descriptorIndex := 18, attributes := #[] }])
  fields := #[{ name := "value", type := (.array .byte), accessFlags := 18, slot := 0, constantValue := 0 }, { name := "coder", type := .byte, accessFlags := 18, slot := 1, constantValue := 0 }, { name := "hash", type := .int, accessFlags := 2, slot := 2, constantValue := 0 }, { name := "hashIsZero", type := .boolean, accessFlags := 2, slot := 3, constantValue := 0 }, { name := "serialVersionUID", type := .long, accessFlags := 26, slot := 0, constantValue := 0 }, { name := "COMPACT_STRINGS", type := .boolean, accessFlags := 24, slot := 1, constantValue := 0 }, { name := "serialPersistentFields", type := (.array (.object "java/io/ObjectStreamField")), accessFlags := 26, slot := 2, constantValue := 0 }, { name := "REPL", type := .char, accessFlags := 26, slot := 3, constantValue := 0 }, { name := "CASE_INSENSITIVE_ORDER", type := (.object "java/util/Comparator"), accessFlags := 25, slot := 4, constantValue := 0 }, { name := "LATIN1", type := .byte, accessFlags := 24, slot := 5, constantValue := 0 }, { name := "UTF16", type := .byte, accessFlags := 24, slot := 6, constantValue := 0 }]
  methods := #[k7m0, k7m1, k7m2, k7m3, k7m4, k7m5]
  instanceTypes := #[(.array .byte), .byte, .int, .boolean]
  staticTypes := #[.long, .boolean, (.array (.object "java/io/ObjectStreamField")), .char, (.object "java/util/Comparator"), .byte, .byte]
  resolved := Array.replicate 1451 none
  statics := some 0 }

def pool8 : Array CpInfo := pool [(6, .class_ 8), (1, u "java/lang/Object"), (0, u "<init>"), (0, u "()V"), (1, .class_ 14), (1, u "java/lang/StringUTF16"), (31, u "$assertionsDisabled"), (0, u "Z"), (13, u "HI_BYTE_SHIFT"), (0, u "I"), (2, u "LO_BYTE_SHIFT"), (49, .methodref 12 116), (0, .nameAndType 117 118), (0, u "compress"), (0, u "([CI[BII)I"), (3, u "([CII)[B"), (138, u "coderFromArrayLen"), (0, u "([BI)B"), (106, .class_ 371), (1, u "java/lang/StringUTF16$LinesSpliterator"), (58, u "MAX_LENGTH"), (196, .class_ 628), (0, u "java/lang/StringUTF16$CodePointsSpliterator"), (0, .class_ 630), (0, u "java/lang/StringUTF16$CharsSpliterator")] 4

def k8m0 : Method := { name := "<init>", desc := "()V", sig := { parameters := [], returnType := none }, accessFlags := 0, code := none }
def k8c1 : Code := { maxStack := 2, maxLocals := 2, code := jdk_52_method_15_code, exceptionTable := #[], attributes := #[] }
def k8m1 : Method := { name := "coderFromArrayLen", desc := "([BI)B", sig := { parameters := [(.array .byte), .int], returnType := some .byte }, accessFlags := 8, code := some k8c1 }
def k8c2 : Code := { maxStack := 5, maxLocals := 6, code := jdk_52_method_16_code, exceptionTable := #[], attributes := #[] }
def k8m2 : Method := { name := "compress", desc := "([CII)[B", sig := { parameters := [(.array .char), .int, .int], returnType := some (.array .byte) }, accessFlags := 9, code := some k8c2 }
def k8c3 : Code := { maxStack := 3, maxLocals := 7, code := jdk_52_method_21_code, exceptionTable := #[], attributes := #[] }
def k8m3 : Method := { name := "compress", desc := "([CI[BII)I", sig := { parameters := [(.array .char), .int, (.array .byte), .int, .int], returnType := some .int }, accessFlags := 9, code := some k8c3 }
/-- java/lang/StringUTF16 -/
def k8 : Class := { plain "java/lang/StringUTF16" (some 0) with
  accessFlags := 48
  interfaces := #[]
  cf := some (fileOf pool8 12 #[.nestMembers #[627, 629, 369]] #[{ accessFlags := 0, nameIndex := 9, descriptorIndex := 10, attributes := #[] }, { accessFlags := 8, nameIndex := 261, descriptorIndex := 262, attributes := #[] }, { accessFlags := 9, nameIndex := 117, descriptorIndex := 122, attributes := #[] }, { accessFlags := 9, nameIndex := 117, descriptorIndex := 118, attributes := #[] }] 48 6 #[] #[{ accessFlags := 26, nameIndex := 61, descriptorIndex := 62, attributes := #[] }, { accessFlags := 26, nameIndex := 65, descriptorIndex := 62, attributes := #[] }, { accessFlags := 24, nameIndex := 430, descriptorIndex := 62, attributes := #[] }, { accessFlags := 4120, nameIndex := 46, descriptorIndex := 47, attributes := #[] }])
  fields := #[{ name := "HI_BYTE_SHIFT", type := .int, accessFlags := 26, slot := 0, constantValue := 0 }, { name := "LO_BYTE_SHIFT", type := .int, accessFlags := 26, slot := 1, constantValue := 0 }, { name := "MAX_LENGTH", type := .int, accessFlags := 24, slot := 2, constantValue := 0 }, { name := "$assertionsDisabled", type := .boolean, accessFlags := 4120, slot := 3, constantValue := 0 }]
  methods := #[k8m0, k8m1, k8m2, k8m3]
  instanceTypes := #[]
  staticTypes := #[.int, .int, .int, .boolean]
  resolved := Array.replicate 635 none
  statics := none }

def pool9 : Array CpInfo := pool [(2, .class_ 4), (1, u "java/lang/Enum"), (0, u "name"), (0, u "Ljava/lang/String;"), (2, u "ordinal"), (0, u "I"), (1, .class_ 14), (1, u "java/lang/Object"), (4, u "hash"), (86, .class_ 108), (1, u "java/lang/Enum$EnumDesc"), (2, .class_ 112), (0, u "java/lang/constant/Constable"), (0, .class_ 114), (0, u "java/lang/Comparable"), (0, .class_ 116), (0, u "java/io/Serializable")] 87

/-- java/lang/Enum -/
def k9 : Class := { plain "java/lang/Enum" (some 0) with
  accessFlags := 1057
  interfaces := #[5, 3, 2]
  cf := some (fileOf pool9 2 #[.nestMembers #[106]] #[] 1057 12 #[111, 113, 115] #[{ accessFlags := 18, nameIndex := 5, descriptorIndex := 6, attributes := #[] }, { accessFlags := 18, nameIndex := 9, descriptorIndex := 10, attributes := #[] }, { accessFlags := 2, nameIndex := 19, descriptorIndex := 10, attributes := #[] }])
  fields := #[{ name := "name", type := (.object "java/lang/String"), accessFlags := 18, slot := 0, constantValue := 0 }, { name := "ordinal", type := .int, accessFlags := 18, slot := 1, constantValue := 0 }, { name := "hash", type := .int, accessFlags := 2, slot := 2, constantValue := 0 }]
  methods := #[]
  instanceTypes := #[(.object "java/lang/String"), .int, .int]
  staticTypes := #[]
  resolved := Array.replicate 204 none
  statics := none }

def pool10 : Array CpInfo := pool [(1, .class_ 2), (0, u "bindery/bindings/BindingType"), (2, u "DIRECTORY_IN"), (0, u "Lbindery/bindings/BindingType;"), (2, u "DIRECTORY_OUT"), (0, .fieldref 1 11), (0, .nameAndType 12 13), (0, u "$VALUES"), (0, u "[Lbindery/bindings/BindingType;"), (0, .methodref 15 16), (0, .class_ 13), (0, .nameAndType 17 18), (0, u "clone"), (0, u "()Ljava/lang/Object;"), (1, .class_ 22), (1, u "java/lang/Enum"), (6, .fieldref 1 30), (0, .nameAndType 31 32), (0, u "typeName"), (0, u "Ljava/lang/String;"), (2, u "required"), (0, u "Ljava/util/List;"), (2, u "optional"), (2, u "needsDataDirectory"), (0, u "Z"), (2, u "takesFromDirectory"), (2, u "factory"), (0, u "Lbindery/bindings/BindingType$Factory;"), (0, .methodref 1 52), (0, .nameAndType 53 54), (0, u "values"), (0, u "()[Lbindery/bindings/BindingType;"), (0, .methodref 56 57), (0, .class_ 58), (0, .nameAndType 59 60), (0, u "java/lang/String"), (0, u "equals"), (0, u "(Ljava/lang/Object;)Z"), (6, .class_ 69), (1, u "bindery/bindings/BindingType$Factory"), (48, u "(Ljava/lang/String;)Lbindery/bindings/BindingType;"), (2, u "named")] 44

def k10c0 : Code := { maxStack := 1, maxLocals := 0, code := prog_4_method_1_code, exceptionTable := #[], attributes := #[] }
def k10m0 : Method := { name := "values", desc := "()[Lbindery/bindings/BindingType;", sig := { parameters := [], returnType := some (.array (.object "bindery/bindings/BindingType")) }, accessFlags := 9, code := some k10c0 }
def k10c1 : Code := { maxStack := 2, maxLocals := 5, code := prog_4_method_4_code, exceptionTable := #[], attributes := #[] }
def k10m1 : Method := { name := "named", desc := "(Ljava/lang/String;)Lbindery/bindings/BindingType;", sig := { parameters := [(.object "java/lang/String")], returnType := some (.object "bindery/bindings/BindingType") }, accessFlags := 9, code := some k10c1 }
/-- bindery/bindings/BindingType -/
def k10 : Class := { plain "bindery/bindings/BindingType" (some 9) with
  accessFlags := 16433
  interfaces := #[]
  cf := some (fileOf pool10 1 #[.nestMembers #[67]] #[{ accessFlags := 9, nameIndex := 53, descriptorIndex := 54, attributes := #[] }, { accessFlags := 9, nameIndex := 121, descriptorIndex := 118, attributes := #[] }] 16433 20 #[] #[{ accessFlags := 16409, nameIndex := 5, descriptorIndex := 6, attributes := #[] }, { accessFlags := 16409, nameIndex := 9, descriptorIndex := 6, attributes := #[] }, { accessFlags := 18, nameIndex := 31, descriptorIndex := 32, attributes := #[] }, { accessFlags := 18, nameIndex := 35, descriptorIndex := 36, attributes := #[] }, { accessFlags := 18, nameIndex := 39, descriptorIndex := 36, attributes := #[] }, { accessFlags := 18, nameIndex := 42, descriptorIndex := 43, attributes := #[] }, { accessFlags := 18, nameIndex := 46, descriptorIndex := 43, attributes := #[] }, { accessFlags := 18, nameIndex := 49, descriptorIndex := 50, attributes := #[] }, { accessFlags := 4122, nameIndex := 12, descriptorIndex := 13, attributes := #[] }])
  fields := #[{ name := "DIRECTORY_IN", type := (.object "bindery/bindings/BindingType"), accessFlags := 16409, slot := 0, constantValue := 0 }, { name := "DIRECTORY_OUT", type := (.object "bindery/bindings/BindingType"), accessFlags := 16409, slot := 1, constantValue := 0 }, { name := "typeName", type := (.object "java/lang/String"), accessFlags := 18, slot := 3, constantValue := 0 }, { name := "required", type := (.object "java/util/List"), accessFlags := 18, slot := 4, constantValue := 0 }, { name := "optional", type := (.object "java/util/List"), accessFlags := 18, slot := 5, constantValue := 0 }, { name := "needsDataDirectory", type := .boolean, accessFlags := 18, slot := 6, constantValue := 0 }, { name := "takesFromDirectory", type := .boolean, accessFlags := 18, slot := 7, constantValue := 0 }, { name := "factory", type := (.object "bindery/bindings/BindingType$Factory"), accessFlags := 18, slot := 8, constantValue := 0 }, { name := "$VALUES", type := (.array (.object "bindery/bindings/BindingType")), accessFlags := 4122, slot := 2, constantValue := 0 }]
  methods := #[k10m0, k10m1]
  instanceTypes := #[(.object "java/lang/String"), .int, .int, (.object "java/lang/String"), (.object "java/util/List"), (.object "java/util/List"), .boolean, .boolean, (.object "bindery/bindings/BindingType$Factory")]
  staticTypes := #[(.object "bindery/bindings/BindingType"), (.object "bindery/bindings/BindingType"), (.array (.object "bindery/bindings/BindingType"))]
  resolved := Array.replicate 166 none
  statics := some 1 }

def pool11 : Array CpInfo := pool [(1, .class_ 2), (0, u "java/lang/Cloneable"), (0, .class_ 4), (0, u "java/lang/Object")] 2

/-- java/lang/Cloneable -/
def k11 : Class := { plain "java/lang/Cloneable" (some 0) with
  accessFlags := 1537
  interfaces := #[]
  cf := some (fileOf pool11 1 #[] #[] 1537 3 #[] #[])
  fields := #[]
  methods := #[]
  instanceTypes := #[]
  staticTypes := #[]
  resolved := Array.replicate 7 none
  statics := none }

def pool12 : Array CpInfo := pool [(4, .class_ 6), (1, u "java/lang/Object"), (0, u "<init>"), (0, u "()V"), (5, .class_ 16), (1, u "java/lang/StringLatin1"), (73, u "canEncode"), (14, u "(C)Z"), (15, u "$assertionsDisabled"), (0, u "Z"), (98, .class_ 223), (1, u "java/lang/StringLatin1$LinesSpliterator"), (57, u "equals"), (0, u "([B[B)Z"), (97, u "toBytes"), (1, u "(C)[B"), (7, .class_ 391), (0, u "java/lang/StringLatin1$CharsSpliterator")] 3

def k12m0 : Method := { name := "<init>", desc := "()V", sig := { parameters := [], returnType := none }, accessFlags := 0, code := none }
def k12c1 : Code := { maxStack := 2, maxLocals := 1, code := jdk_43_method_3_code, exceptionTable := #[], attributes := #[] }
def k12m1 : Method := { name := "canEncode", desc := "(C)Z", sig := { parameters := [.char], returnType := some .boolean }, accessFlags := 9, code := some k12c1 }
def k12c2 : Code := { maxStack := 3, maxLocals := 3, code := jdk_43_method_13_code, exceptionTable := #[], attributes := #[] }
def k12m2 : Method := { name := "equals", desc := "([B[B)Z", sig := { parameters := [(.array .byte), (.array .byte)], returnType := some .boolean }, accessFlags := 9, code := some k12c2 }
def k12c3 : Code := { maxStack := 4, maxLocals := 1, code := jdk_43_method_46_code, exceptionTable := #[], attributes := #[] }
def k12m3 : Method := { name := "toBytes", desc := "(C)[B", sig := { parameters := [.char], returnType := some (.array .byte) }, accessFlags := 9, code := some k12c3 }
/-- java/lang/StringLatin1 -/
def k12 : Class := { plain "java/lang/StringLatin1" (some 0) with
  accessFlags := 48
  interfaces := #[]
  cf := some (fileOf pool12 14 #[.nestMembers #[390, 221]] #[{ accessFlags := 0, nameIndex := 7, descriptorIndex := 8, attributes := #[] }, { accessFlags := 9, nameIndex := 90, descriptorIndex := 105, attributes := #[] }, { accessFlags := 9, nameIndex := 281, descriptorIndex := 282, attributes := #[] }, { accessFlags := 9, nameIndex := 380, descriptorIndex := 382, attributes := #[] }] 48 4 #[] #[{ accessFlags := 4120, nameIndex := 121, descriptorIndex := 122, attributes := #[] }])
  fields := #[{ name := "$assertionsDisabled", type := .boolean, accessFlags := 4120, slot := 0, constantValue := 0 }]
  methods := #[k12m0, k12m1, k12m2, k12m3]
  instanceTypes := #[]
  staticTypes := #[.boolean]
  resolved := Array.replicate 395 none
  statics := none }

def pool13 : Array CpInfo := pool [(2, .class_ 4), (1, u "java/lang/Object"), (0, u "<init>"), (0, u "()V"), (17, .class_ 26), (1, u "jdk/internal/util/Preconditions"), (28, .class_ 56), (0, u "jdk/internal/util/Preconditions$4"), (57, .class_ 115), (0, u "jdk/internal/util/Preconditions$1"), (7, u "SIOOBE_FORMATTER"), (0, u "Ljava/util/function/BiFunction;"), (0, .class_ 126), (0, u "jdk/internal/util/Preconditions$2"), (3, u "AIOOBE_FORMATTER"), (0, .class_ 132), (0, u "jdk/internal/util/Preconditions$3"), (3, u "IOOBE_FORMATTER")] 57

def k13m0 : Method := { name := "<init>", desc := "()V", sig := { parameters := [], returnType := none }, accessFlags := 1, code := none }
/-- jdk/internal/util/Preconditions -/
def k13 : Class := { plain "jdk/internal/util/Preconditions" (some 0) with
  accessFlags := 33
  interfaces := #[]
  cf := some (fileOf pool13 24 #[.nestMembers #[55, 131, 125, 114]] #[{ accessFlags := 1, nameIndex := 5, descriptorIndex := 6, attributes := #[] }] 33 2 #[] #[{ accessFlags := 25, nameIndex := 123, descriptorIndex := 124, attributes := #[] }, { accessFlags := 25, nameIndex := 130, descriptorIndex := 124, attributes := #[] }, { accessFlags := 25, nameIndex := 136, descriptorIndex := 124, attributes := #[] }])
  fields := #[{ name := "SIOOBE_FORMATTER", type := (.object "java/util/function/BiFunction"), accessFlags := 25, slot := 0, constantValue := 0 }, { name := "AIOOBE_FORMATTER", type := (.object "java/util/function/BiFunction"), accessFlags := 25, slot := 1, constantValue := 0 }, { name := "IOOBE_FORMATTER", type := (.object "java/util/function/BiFunction"), accessFlags := 25, slot := 2, constantValue := 0 }]
  methods := #[k13m0]
  instanceTypes := #[]
  staticTypes := #[(.object "java/util/function/BiFunction"), (.object "java/util/function/BiFunction"), (.object "java/util/function/BiFunction")]
  resolved := Array.replicate 194 none
  statics := some 2 }

def pool14 : Array CpInfo := pool [(9, u "<init>"), (6, .class_ 18), (1, u "java/lang/Object"), (0, u "()V"), (1, .class_ 23), (1, u "jdk/internal/util/ArraysSupport"), (0, u "LOG2_ARRAY_LONG_INDEX_SCALE"), (0, u "I"), (2, u "U"), (0, u "Ljdk/internal/misc/Unsafe;"), (8, u "BIG_ENDIAN"), (0, u "Z"), (8, u "LOG2_BYTE_BIT_SIZE"), (4, u "LOG2_ARRAY_INT_INDEX_SCALE"), (54, u "JLA"), (0, u "Ljdk/internal/access/JavaLangAccess;"), (11, u "LOG2_ARRAY_BOOLEAN_INDEX_SCALE"), (9, u "LOG2_ARRAY_BYTE_INDEX_SCALE"), (5, u "LOG2_ARRAY_CHAR_INDEX_SCALE"), (5, u "LOG2_ARRAY_SHORT_INDEX_SCALE"), (18, u "LOG2_ARRAY_FLOAT_INDEX_SCALE"), (24, u "LOG2_ARRAY_DOUBLE_INDEX_SCALE"), (89, u "T_BOOLEAN"), (2, u "T_CHAR"), (1, u "T_FLOAT"), (1, u "T_DOUBLE"), (1, u "T_BYTE"), (1, u "T_SHORT"), (1, u "T_INT"), (1, u "T_LONG"), (1, u "SOFT_MAX_ARRAY_LENGTH")] 83

def k14m0 : Method := { name := "<init>", desc := "()V", sig := { parameters := [], returnType := none }, accessFlags := 2, code := none }
/-- jdk/internal/util/ArraysSupport -/
def k14 : Class := { plain "jdk/internal/util/ArraysSupport" (some 0) with
  accessFlags := 33
  interfaces := #[]
  cf := some (fileOf pool14 21 #[] #[{ accessFlags := 2, nameIndex := 9, descriptorIndex := 19, attributes := #[] }] 33 16 #[] #[{ accessFlags := 24, nameIndex := 28, descriptorIndex := 29, attributes := #[] }, { accessFlags := 26, nameIndex := 38, descriptorIndex := 39, attributes := #[] }, { accessFlags := 25, nameIndex := 121, descriptorIndex := 25, attributes := #[] }, { accessFlags := 25, nameIndex := 131, descriptorIndex := 25, attributes := #[] }, { accessFlags := 25, nameIndex := 137, descriptorIndex := 25, attributes := #[] }, { accessFlags := 25, nameIndex := 143, descriptorIndex := 25, attributes := #[] }, { accessFlags := 25, nameIndex := 53, descriptorIndex := 25, attributes := #[] }, { accessFlags := 25, nameIndex := 24, descriptorIndex := 25, attributes := #[] }, { accessFlags := 25, nameIndex := 162, descriptorIndex := 25, attributes := #[] }, { accessFlags := 25, nameIndex := 187, descriptorIndex := 25, attributes := #[] }, { accessFlags := 26, nameIndex := 48, descriptorIndex := 25, attributes := #[] }, { accessFlags := 25, nameIndex := 277, descriptorIndex := 25, attributes := #[] }, { accessFlags := 25, nameIndex := 280, descriptorIndex := 25, attributes := #[] }, { accessFlags := 25, nameIndex := 282, descriptorIndex := 25, attributes := #[] }, { accessFlags := 25, nameIndex := 284, descriptorIndex := 25, attributes := #[] }, { accessFlags := 25, nameIndex := 286, descriptorIndex := 25, attributes := #[] }, { accessFlags := 25, nameIndex := 288, descriptorIndex := 25, attributes := #[] }, { accessFlags := 25, nameIndex := 290, descriptorIndex := 25, attributes := #[] }, { accessFlags := 25, nameIndex := 292, descriptorIndex := 25, attributes := #[] }, { accessFlags := 26, nameIndex := 108, descriptorIndex := 109, attributes := #[] }, { accessFlags := 25, nameIndex := 294, descriptorIndex := 25, attributes := #[] }])
  fields := #[{ name := "U", type := (.object "jdk/internal/misc/Unsafe"), accessFlags := 24, slot := 0, constantValue := 0 }, { name := "BIG_ENDIAN", type := .boolean, accessFlags := 26, slot := 1, constantValue := 0 }, { name := "LOG2_ARRAY_BOOLEAN_INDEX_SCALE", type := .int, accessFlags := 25, slot := 2, constantValue := 0 }, { name := "LOG2_ARRAY_BYTE_INDEX_SCALE", type := .int, accessFlags := 25, slot := 3, constantValue := 0 }, { name := "LOG2_ARRAY_CHAR_INDEX_SCALE", type := .int, accessFlags := 25, slot := 4, constantValue := 0 }, { name := "LOG2_ARRAY_SHORT_INDEX_SCALE", type := .int, accessFlags := 25, slot := 5, constantValue := 0 }, { name := "LOG2_ARRAY_INT_INDEX_SCALE", type := .int, accessFlags := 25, slot := 6, constantValue := 0 }, { name := "LOG2_ARRAY_LONG_INDEX_SCALE", type := .int, accessFlags := 25, slot := 7, constantValue := 0 }, { name := "LOG2_ARRAY_FLOAT_INDEX_SCALE", type := .int, accessFlags := 25, slot := 8, constantValue := 0 }, { name := "LOG2_ARRAY_DOUBLE_INDEX_SCALE", type := .int, accessFlags := 25, slot := 9, constantValue := 0 }, { name := "LOG2_BYTE_BIT_SIZE", type := .int, accessFlags := 26, slot := 10, constantValue := 0 }, { name := "T_BOOLEAN", type := .int, accessFlags := 25, slot := 11, constantValue := 0 }, { name := "T_CHAR", type := .int, accessFlags := 25, slot := 12, constantValue := 0 }, { name := "T_FLOAT", type := .int, accessFlags := 25, slot := 13, constantValue := 0 }, { name := "T_DOUBLE", type := .int, accessFlags := 25, slot := 14, constantValue := 0 }, { name := "T_BYTE", type := .int, accessFlags := 25, slot := 15, constantValue := 0 }, { name := "T_SHORT", type := .int, accessFlags := 25, slot := 16, constantValue := 0 }, { name := "T_INT", type := .int, accessFlags := 25, slot := 17, constantValue := 0 }, { name := "T_LONG", type := .int, accessFlags := 25, slot := 18, constantValue := 0 }, { name := "JLA", type := (.object "jdk/internal/access/JavaLangAccess"), accessFlags := 26, slot := 19, constantValue := 0 }, { name := "SOFT_MAX_ARRAY_LENGTH", type := .int, accessFlags := 25, slot := 20, constantValue := 0 }]
  methods := #[k14m0]
  instanceTypes := #[]
  staticTypes := #[(.object "jdk/internal/misc/Unsafe"), .boolean, .int, .int, .int, .int, .int, .int, .int, .int, .int, .int, .int, .int, .int, .int, .int, .int, .int, (.object "jdk/internal/access/JavaLangAccess"), .int]
  resolved := Array.replicate 378 none
  statics := none }

/-- the primitive byte -/
def k15 : Class := { plain "byte" none with kind := .primitive 'B', accessFlags := 0x411 }
/-- [B -/
def k16 : Class := { plain "[B" (some 0) with kind := .array 15 .byte, interfaces := #[11, 2], accessFlags := 1041 }

/-- the primitive char -/
def k17 : Class := { plain "char" none with kind := .primitive 'C', accessFlags := 0x411 }
/-- [C -/
def k18 : Class := { plain "[C" (some 0) with kind := .array 17 .char, interfaces := #[11, 2], accessFlags := 1041 }

/-- the primitive int -/
def k19 : Class := { plain "int" none with kind := .primitive 'I', accessFlags := 0x411 }
/-- [I -/
def k20 : Class := { plain "[I" (some 0) with kind := .array 19 .int, interfaces := #[11, 2], accessFlags := 1041 }

/-- [Lbindery/bindings/BindingType; -/
def k21 : Class := { plain "[Lbindery/bindings/BindingType;" (some 0) with kind := .array 10 (.object "bindery/bindings/BindingType"), interfaces := #[11, 2], accessFlags := 1041 }

def heap : Heap := #[{ cls := 7, slots := #[.long 0, .int 1, .null, .int 0, .null, .int 0, .int 0], vm := .statics 7 },
  { cls := 10, slots := #[.ref 8, .ref 9, .ref 3], vm := .statics 10 },
  { cls := 13, slots := #[.null, .null, .null], vm := .statics 13 },
  { cls := 21, slots := #[.ref 8, .ref 9], vm := .none },
  { cls := 16, slots := #[.int 100, .int 105, .int 114, .int 101, .int 99, .int 116, .int 111, .int 114, .int 121, .int 45, .int 105, .int 110], vm := .none },
  { cls := 16, slots := #[.int 100, .int 105, .int 114, .int 101, .int 99, .int 116, .int 111, .int 114, .int 121, .int 45, .int 111, .int 117, .int 116], vm := .none },
  { cls := 7, slots := #[.ref 4, .int 0, .int 0, .int 0], vm := .none },
  { cls := 7, slots := #[.ref 5, .int 0, .int 0, .int 0], vm := .none },
  { cls := 10, slots := #[.null, .int 0, .int 0, .ref 6, .null, .null, .int 0, .int 0, .null], vm := .none },
  { cls := 10, slots := #[.null, .int 1, .int 0, .ref 7, .null, .null, .int 0, .int 0, .null], vm := .none }]
def classes : Array Class := #[k0, k1, k2, k3, k4, k5, k6, k7, k8, k9, k10, k11, k12, k13, k14, k15, k16, k17, k18, k19, k20, k21]
def interned : List (Array UInt16 × Addr) := []
def slotsUsed : Nat := 66
def theMethod : MethodId := ⟨1, 3⟩
def args0 : Array Value := #[.int 6, .int 7, .int 8, .int 1]
def aboutOver (below : List Frame) : State where
  vm := { classes := classes, interned := interned.toArray }
  heap := heap
  slotsUsed := slotsUsed
  threads := #[{ frames := .invoking theMethod args0 :: below }]
def below0 : List Frame := [.native { method := ⟨0, 0⟩, args := #[] }]
def about1 : State := aboutOver below0
def p0 : Program := .bare "" "" ""
def e0 : Env := launch0.env 0 0 0
theorem w_frames : about1.frames = Frame.invoking theMethod args0 :: below0 := rfl
set_option maxRecDepth 65536 in
theorem w_args : argsFit about1.vm theMethod args0 = true := by decide +kernel
set_option maxRecDepth 65536 in
theorem w_heap : heapFits about1 = true := by decide +kernel
set_option maxRecDepth 65536 in
theorem w_runnable : about1.curStatus? = some .runnable := by decide +kernel
set_option maxRecDepth 65536 in
theorem w_alone : about1.alone = true := by decide +kernel
set_option maxRecDepth 65536 in
theorem w_named : about1.methodNamed? x = some theMethod := by decide +kernel
set_option maxRecDepth 65536 in
theorem w_hears : about1.hears theMethod below0 = true := by decide +kernel
set_option maxRecDepth 65536 in
theorem w_ripe : about1.ripe theMethod args0 below0 = true := by decide +kernel
theorem w_running : about1.status = .running := rfl
set_option maxRecDepth 65536 in
theorem w_room : about1.hasRoom e0.platform room_1 = true :=
  launch0.hasRoom_least _ room_1 (by decide +kernel) (by decide +kernel) (by decide +kernel) (by decide +kernel) (by decide +kernel) (by decide +kernel)
theorem allAtoms_all (ts : List Jvm.Cond) (a : Array Jvm.Value) (st : Jvm.State) : (allAtoms ts).before a st = ts.all (fun c => c.before a st) := by
  induction ts with
  | nil => rfl
  | cons c t ih =>
    show (Jvm.Cond.and c (allAtoms t)).before a st = _
    rw [Jvm.Cond.before_and, ih, List.all_cons]
def words1 : List Jvm.Cond := Jvm.Cond.code x code maxLocals ret :: tables_1
/-- a 'code' word, met by the world's own term for the bytes: nothing is compared byte by byte -/
theorem code_word {y : MethodName} {bytes : ByteArray} {mx : Nat} {rt : Option FieldType} {a : Array Value} {s : State} {m : MethodId} {meth : Method} {c : Code} (h1 : s.methodNamed? y = some m) (h2 : s.vm.method? m = some meth) (h3 : meth.code = some c) (h4 : c.code = bytes)
    (h5 : (c.maxLocals == mx && c.exceptionTable.isEmpty && decide (c.maxStack ≤ mostOperands) && decide (meth.sig.returnType = rt) && !meth.locks && decide (parseMethodDescriptor y.desc = some meth.sig)) = true) : (Jvm.Cond.code y bytes mx rt).before a s = true := by
  simp only [Bool.and_eq_true, beq_iff_eq, Bool.not_eq_true', decide_eq_true_eq] at h5
  obtain ⟨⟨⟨⟨⟨g1, g2⟩, g3⟩, g4⟩, g5⟩, g6⟩ := h5
  simp [Cond.before, Cond.holds, Cond.value, h1, h2, h3, h4, g1, g2, g3, g4, g5, g6]
def isCode : Jvm.Cond → Bool
  | .code _ _ _ _ => true
  | _ => false
theorem all_split {L : List Jvm.Cond} {P : Jvm.Cond → Bool} (h1 : L.all (fun c => isCode c || P c) = true) (h2 : ∀ c ∈ L.filter isCode, P c = true) : L.all P = true := by
  refine List.all_eq_true.mpr fun c hc => ?_
  have h := List.all_eq_true.mp h1 c hc
  rcases Bool.eq_false_or_eq_true (isCode c) with hi | hi
  · exact h2 c (List.mem_filter.mpr ⟨hc, hi⟩)
  · simpa [hi] using h
set_option maxRecDepth 65536 in
theorem w_c0 : (Jvm.Cond.code x code maxLocals ret).before args0 about1 = true := code_word (m := ⟨1, 3⟩) (meth := k1m3) (c := k1c3) (by decide +kernel) rfl rfl rfl (by decide +kernel)
set_option maxRecDepth 65536 in
theorem w_c1 : (Jvm.Cond.code ({ cls := "bindery/bindings/BindingTypeNamedPinLaw", name := "inChars", desc := "()[C" } : Jvm.MethodName) method_2_code (0 : Nat) (Option.some (Jvm.ClassFile.FieldType.array Jvm.ClassFile.FieldType.char))).before args0 about1 = true := code_word (m := ⟨1, 1⟩) (meth := k1m1) (c := k1c1) (by decide +kernel) rfl rfl rfl (by decide +kernel)
set_option maxRecDepth 65536 in
theorem w_c2 : (Jvm.Cond.code ({ cls := "java/lang/String", name := "<init>", desc := "([C)V" } : Jvm.MethodName) jdk_42_method_3_code (2 : Nat) (Option.none : Option Jvm.ClassFile.FieldType)).before args0 about1 = true := code_word (m := ⟨7, 1⟩) (meth := k7m1) (c := k7c1) (by decide +kernel) rfl rfl rfl (by decide +kernel)
set_option maxRecDepth 65536 in
theorem w_c3 : (Jvm.Cond.code ({ cls := "java/lang/String", name := "<init>", desc := "([CIILjava/lang/Void;)V" } : Jvm.MethodName) jdk_42_method_149_code (6 : Nat) (Option.none : Option Jvm.ClassFile.FieldType)).before args0 about1 = true := code_word (m := ⟨7, 4⟩) (meth := k7m4) (c := k7c4) (by decide +kernel) rfl rfl rfl (by decide +kernel)
set_option maxRecDepth 65536 in
theorem w_c4 : (Jvm.Cond.code ({ cls := "java/lang/Object", name := "<init>", desc := "()V" } : Jvm.MethodName) object_method_1_code (1 : Nat) (Option.none : Option Jvm.ClassFile.FieldType)).before args0 about1 = true := code_word (m := ⟨0, 0⟩) (meth := k0m0) (c := k0c0) (by decide +kernel) rfl rfl rfl (by decide +kernel)
set_option maxRecDepth 65536 in
theorem w_c5 : (Jvm.Cond.code ({ cls := "java/lang/StringUTF16", name := "compress", desc := "([CII)[B" } : Jvm.MethodName) jdk_52_method_16_code (6 : Nat) (Option.some (Jvm.ClassFile.FieldType.array Jvm.ClassFile.FieldType.byte))).before args0 about1 = true := code_word (m := ⟨8, 2⟩) (meth := k8m2) (c := k8c2) (by decide +kernel) rfl rfl rfl (by decide +kernel)
set_option maxRecDepth 65536 in
theorem w_c6 : (Jvm.Cond.code ({ cls := "java/lang/StringUTF16", name := "compress", desc := "([CI[BII)I" } : Jvm.MethodName) jdk_52_method_21_code (7 : Nat) (Option.some Jvm.ClassFile.FieldType.int)).before args0 about1 = true := code_word (m := ⟨8, 3⟩) (meth := k8m3) (c := k8c3) (by decide +kernel) rfl rfl rfl (by decide +kernel)
set_option maxRecDepth 65536 in
theorem w_c7 : (Jvm.Cond.code ({ cls := "java/lang/StringUTF16", name := "coderFromArrayLen", desc := "([BI)B" } : Jvm.MethodName) jdk_52_method_15_code (2 : Nat) (Option.some Jvm.ClassFile.FieldType.byte)).before args0 about1 = true := code_word (m := ⟨8, 1⟩) (meth := k8m1) (c := k8c1) (by decide +kernel) rfl rfl rfl (by decide +kernel)
set_option maxRecDepth 65536 in
theorem w_c8 : (Jvm.Cond.code ({ cls := "bindery/bindings/BindingType", name := "named", desc := "(Ljava/lang/String;)Lbindery/bindings/BindingType;" } : Jvm.MethodName) prog_4_method_4_code (5 : Nat) (Option.some (Jvm.ClassFile.FieldType.object "bindery/bindings/BindingType"))).before args0 about1 = true := code_word (m := ⟨10, 1⟩) (meth := k10m1) (c := k10c1) (by decide +kernel) rfl rfl rfl (by decide +kernel)
set_option maxRecDepth 65536 in
theorem w_c9 : (Jvm.Cond.code ({ cls := "bindery/bindings/BindingType", name := "values", desc := "()[Lbindery/bindings/BindingType;" } : Jvm.MethodName) prog_4_method_1_code (0 : Nat) (Option.some (Jvm.ClassFile.FieldType.array (Jvm.ClassFile.FieldType.object "bindery/bindings/BindingType")))).before args0 about1 = true := code_word (m := ⟨10, 0⟩) (meth := k10m0) (c := k10c0) (by decide +kernel) rfl rfl rfl (by decide +kernel)
set_option maxRecDepth 65536 in
theorem w_c10 : (Jvm.Cond.code ({ cls := "java/lang/String", name := "equals", desc := "(Ljava/lang/Object;)Z" } : Jvm.MethodName) jdk_42_method_66_code (3 : Nat) (Option.some Jvm.ClassFile.FieldType.boolean)).before args0 about1 = true := code_word (m := ⟨7, 2⟩) (meth := k7m2) (c := k7c2) (by decide +kernel) rfl rfl rfl (by decide +kernel)
set_option maxRecDepth 65536 in
theorem w_c11 : (Jvm.Cond.code ({ cls := "java/lang/StringLatin1", name := "equals", desc := "([B[B)Z" } : Jvm.MethodName) jdk_43_method_13_code (3 : Nat) (Option.some Jvm.ClassFile.FieldType.boolean)).before args0 about1 = true := code_word (m := ⟨12, 2⟩) (meth := k12m2) (c := k12c2) (by decide +kernel) rfl rfl rfl (by decide +kernel)
set_option maxRecDepth 65536 in
theorem w_c12 : (Jvm.Cond.code ({ cls := "bindery/bindings/BindingTypeNamedPinLaw", name := "outChars", desc := "()[C" } : Jvm.MethodName) method_3_code (0 : Nat) (Option.some (Jvm.ClassFile.FieldType.array Jvm.ClassFile.FieldType.char))).before args0 about1 = true := code_word (m := ⟨1, 2⟩) (meth := k1m2) (c := k1c2) (by decide +kernel) rfl rfl rfl (by decide +kernel)
set_option maxRecDepth 65536 in
theorem w_c13 : (Jvm.Cond.code ({ cls := "java/lang/String", name := "valueOf", desc := "(C)Ljava/lang/String;" } : Jvm.MethodName) jdk_42_method_139_code (1 : Nat) (Option.some (Jvm.ClassFile.FieldType.object "java/lang/String"))).before args0 about1 = true := code_word (m := ⟨7, 3⟩) (meth := k7m3) (c := k7c3) (by decide +kernel) rfl rfl rfl (by decide +kernel)
set_option maxRecDepth 65536 in
theorem w_c14 : (Jvm.Cond.code ({ cls := "java/lang/StringLatin1", name := "canEncode", desc := "(C)Z" } : Jvm.MethodName) jdk_43_method_3_code (1 : Nat) (Option.some Jvm.ClassFile.FieldType.boolean)).before args0 about1 = true := code_word (m := ⟨12, 1⟩) (meth := k12m1) (c := k12c1) (by decide +kernel) rfl rfl rfl (by decide +kernel)
set_option maxRecDepth 65536 in
theorem w_c15 : (Jvm.Cond.code ({ cls := "java/lang/StringLatin1", name := "toBytes", desc := "(C)[B" } : Jvm.MethodName) jdk_43_method_46_code (1 : Nat) (Option.some (Jvm.ClassFile.FieldType.array Jvm.ClassFile.FieldType.byte))).before args0 about1 = true := code_word (m := ⟨12, 3⟩) (meth := k12m3) (c := k12c3) (by decide +kernel) rfl rfl rfl (by decide +kernel)
set_option maxRecDepth 65536 in
theorem w_c16 : (Jvm.Cond.code ({ cls := "java/lang/String", name := "<init>", desc := "([BB)V" } : Jvm.MethodName) jdk_42_method_151_code (3 : Nat) (Option.none : Option Jvm.ClassFile.FieldType)).before args0 about1 = true := code_word (m := ⟨7, 5⟩) (meth := k7m5) (c := k7c5) (by decide +kernel) rfl rfl rfl (by decide +kernel)
def codes1 : List Jvm.Cond := [Jvm.Cond.code x code maxLocals ret, Jvm.Cond.code ({ cls := "bindery/bindings/BindingTypeNamedPinLaw", name := "inChars", desc := "()[C" } : Jvm.MethodName) method_2_code (0 : Nat) (Option.some (Jvm.ClassFile.FieldType.array Jvm.ClassFile.FieldType.char)), Jvm.Cond.code ({ cls := "java/lang/String", name := "<init>", desc := "([C)V" } : Jvm.MethodName) jdk_42_method_3_code (2 : Nat) (Option.none : Option Jvm.ClassFile.FieldType), Jvm.Cond.code ({ cls := "java/lang/String", name := "<init>", desc := "([CIILjava/lang/Void;)V" } : Jvm.MethodName) jdk_42_method_149_code (6 : Nat) (Option.none : Option Jvm.ClassFile.FieldType), Jvm.Cond.code ({ cls := "java/lang/Object", name := "<init>", desc := "()V" } : Jvm.MethodName) object_method_1_code (1 : Nat) (Option.none : Option Jvm.ClassFile.FieldType), Jvm.Cond.code ({ cls := "java/lang/StringUTF16", name := "compress", desc := "([CII)[B" } : Jvm.MethodName) jdk_52_method_16_code (6 : Nat) (Option.some (Jvm.ClassFile.FieldType.array Jvm.ClassFile.FieldType.byte)), Jvm.Cond.code ({ cls := "java/lang/StringUTF16", name := "compress", desc := "([CI[BII)I" } : Jvm.MethodName) jdk_52_method_21_code (7 : Nat) (Option.some Jvm.ClassFile.FieldType.int), Jvm.Cond.code ({ cls := "java/lang/StringUTF16", name := "coderFromArrayLen", desc := "([BI)B" } : Jvm.MethodName) jdk_52_method_15_code (2 : Nat) (Option.some Jvm.ClassFile.FieldType.byte), Jvm.Cond.code ({ cls := "bindery/bindings/BindingType", name := "named", desc := "(Ljava/lang/String;)Lbindery/bindings/BindingType;" } : Jvm.MethodName) prog_4_method_4_code (5 : Nat) (Option.some (Jvm.ClassFile.FieldType.object "bindery/bindings/BindingType")), Jvm.Cond.code ({ cls := "bindery/bindings/BindingType", name := "values", desc := "()[Lbindery/bindings/BindingType;" } : Jvm.MethodName) prog_4_method_1_code (0 : Nat) (Option.some (Jvm.ClassFile.FieldType.array (Jvm.ClassFile.FieldType.object "bindery/bindings/BindingType"))), Jvm.Cond.code ({ cls := "java/lang/String", name := "equals", desc := "(Ljava/lang/Object;)Z" } : Jvm.MethodName) jdk_42_method_66_code (3 : Nat) (Option.some Jvm.ClassFile.FieldType.boolean), Jvm.Cond.code ({ cls := "java/lang/StringLatin1", name := "equals", desc := "([B[B)Z" } : Jvm.MethodName) jdk_43_method_13_code (3 : Nat) (Option.some Jvm.ClassFile.FieldType.boolean), Jvm.Cond.code ({ cls := "bindery/bindings/BindingTypeNamedPinLaw", name := "outChars", desc := "()[C" } : Jvm.MethodName) method_3_code (0 : Nat) (Option.some (Jvm.ClassFile.FieldType.array Jvm.ClassFile.FieldType.char)), Jvm.Cond.code ({ cls := "java/lang/String", name := "valueOf", desc := "(C)Ljava/lang/String;" } : Jvm.MethodName) jdk_42_method_139_code (1 : Nat) (Option.some (Jvm.ClassFile.FieldType.object "java/lang/String")), Jvm.Cond.code ({ cls := "java/lang/StringLatin1", name := "canEncode", desc := "(C)Z" } : Jvm.MethodName) jdk_43_method_3_code (1 : Nat) (Option.some Jvm.ClassFile.FieldType.boolean), Jvm.Cond.code ({ cls := "java/lang/StringLatin1", name := "toBytes", desc := "(C)[B" } : Jvm.MethodName) jdk_43_method_46_code (1 : Nat) (Option.some (Jvm.ClassFile.FieldType.array Jvm.ClassFile.FieldType.byte)), Jvm.Cond.code ({ cls := "java/lang/String", name := "<init>", desc := "([BB)V" } : Jvm.MethodName) jdk_42_method_151_code (3 : Nat) (Option.none : Option Jvm.ClassFile.FieldType)]
set_option maxRecDepth 65536 in
theorem codes_eq : words1.filter isCode = codes1 := rfl
theorem w_codes : ∀ c ∈ words1.filter isCode, c.before args0 about1 = true := by
  rw [codes_eq]
  intro c hc
  simp only [codes1, List.mem_cons, List.not_mem_nil, or_false] at hc
  rcases hc with rfl | rfl | rfl | rfl | rfl | rfl | rfl | rfl | rfl | rfl | rfl | rfl | rfl | rfl | rfl | rfl | rfl
  · exact w_c0
  · exact w_c1
  · exact w_c2
  · exact w_c3
  · exact w_c4
  · exact w_c5
  · exact w_c6
  · exact w_c7
  · exact w_c8
  · exact w_c9
  · exact w_c10
  · exact w_c11
  · exact w_c12
  · exact w_c13
  · exact w_c14
  · exact w_c15
  · exact w_c16
set_option maxRecDepth 65536 in
theorem w_t1 : (words1.take 24).all (fun c => isCode c || c.before args0 about1) = true := by decide +kernel
set_option maxRecDepth 65536 in
theorem w_t2 : ((words1.drop 24).take 24).all (fun c => isCode c || c.before args0 about1) = true := by decide +kernel
set_option maxRecDepth 65536 in
theorem w_t3 : (((words1.drop 24).drop 24).take 24).all (fun c => isCode c || c.before args0 about1) = true := by decide +kernel
set_option maxRecDepth 65536 in
theorem w_t4 : (((words1.drop 24).drop 24).drop 24).all (fun c => isCode c || c.before args0 about1) = true := by decide +kernel
theorem w_tables : (allAtoms (Jvm.Cond.code x code maxLocals ret :: tables_1)).before args0 about1 = true := by
  rw [allAtoms_all]
  show words1.all (fun c => c.before args0 about1) = true
  refine all_split ?_ w_codes
  rw [← List.take_append_drop 24 words1, List.all_append, w_t1, ← List.take_append_drop 24 (words1.drop 24), List.all_append, w_t2, ← List.take_append_drop 24 ((words1.drop 24).drop 24), List.all_append, w_t3, w_t4]
  rfl
set_option maxRecDepth 65536 in
theorem w_rest : rest_1_c.before args0 about1 = true := by decide +kernel
set_option maxRecDepth 65536 in
theorem w_case : (Jvm.Cond.and given_1 narrow_1).before args0 about1 = true := by decide +kernel
set_option maxRecDepth 65536 in
theorem w_consts : constsHeld consts_1 about1 := Jvm.Lit.constsHeldB_iff.mp (by decide +kernel)
theorem w_applies : (headSpec (Jvm.Cond.code x code maxLocals ret :: tables_1) room_1).applies x e0.platform about1 = true :=
  (Spec.applies_iff w_frames).mpr ⟨w_running, w_runnable, w_alone, w_named, w_hears, w_ripe, w_room, w_tables⟩
theorem atStart : AtStart classFile x code maxLocals ret World_1 tables_1 room_1 Calls_1 rest_1 Pre_1 launch0 p0 e0 about1 theMethod args0 below0 :=
  ⟨lists_1, trivial, launch0.admits_env _ _ _, launch0.least_env, fairChoices_fair.cas, fairChoices_fair.clock, w_frames, w_args, w_heap, w_applies, ⟨w_consts, trivial⟩, w_rest, w_case⟩
end start1
theorem witness_1 : WitnessClaimed_1 := ⟨start1.p0, start1.e0, start1.about1, start1.theMethod, start1.args0, start1.below0, start1.atStart⟩
end Jvm.Pilot.@@N@@
