import JvmDerived
import JvmDerived.Pilot.@@N@@Statement
import JvmDerived.Pilot.@@N@@Code
set_option linter.unusedVariables false
set_option linter.unusedSimpArgs false
namespace Jvm.OwnKit
open Sem ClassFile Op Lib Bundle Jvm.Stand Jvm.Free Jvm.LawKit Jvm.RoadKit
section Kit
variable {p : Program} {l : Launch} {e : Env} {R : Room} {s : State} {m : MethodId} {args : Array Value} {below : List Frame} {meth : Method} {c : Code} {Z : State} {a0 : Array Value} {EL : List (String × Nat)} {cw : Prop} {own : String} {n0 : Nat} {bytes : ByteArray} {maxL : Nat} {ret : Option FieldType} {nm : String} {T : State} {h : Heap} {C S : Nat} {sf : List Addr} {P : State → Outcome → Prop}

/-- from t the run comes to a state of which P speaks -/
def Go (p : Program) (e : Env) (below : List Frame) (P : State → Outcome → Prop) (t : State) : Prop := ∃ u o, Steps p.tables e below t u ∧ P u o
theorem Go.st {t t' : State} (k : ∀ target, Steps p.tables e below t' target → Steps p.tables e below t target) (G : Go p e below P t') : Go p e below P t := by
  obtain ⟨u, o, h1, h2⟩ := G; exact ⟨u, o, k _ h1, h2⟩
theorem Go.tr {t t' : State} (k : Steps p.tables e below t t') (G : Go p e below P t') : Go p e below P t := by
  obtain ⟨u, o, h1, h2⟩ := G; exact ⟨u, o, k.trans h1, h2⟩

/-- where the walk stands: all that the steps ask, in one word -/
def Hs (p : Program) (l : Launch) (e : Env) (R : Room) (s : State) (m : MethodId) (args : Array Value) (below : List Frame) (meth : Method) (c : Code) (Z : State) (a0 : Array Value) (EL : List (String × Nat)) (cw : Prop) (own : String) (n0 : Nat) (bytes : ByteArray) (maxL : Nat) (ret : Option FieldType) (nm : String) (T : State) (h : Heap) (C S : Nat) (sf : List Addr) : Prop :=
  (p.tables.exec = Jvm.exec ∧ EW Z a0 EL ∧ c.code = bytes ∧ c.maxLocals = maxL ∧ meth.sig.returnType = ret ∧ meth.locks = false ∧ meth.name = nm ∧ n0 ≤ s.heap.size) ∧
  ∃ (vm0 : Vm) (k0 : Nat) (locs : List Loc), Stand p l e R (s.setVm vm0) m args below meth c T locs C S ∧ T.heap = h ∧ s.Since vm0 k0 ∧ k0 ≤ h.size ∧ Z.Warmed39 vm0 ∧ vm0.findClass own = some m.cls ∧ Fr n0 locs ∧ CHr Z EL s.vm s.heap vm0 h ∧ (∀ x ∈ sf, x < h.size ∧ Safe Z EL vm0 h x) ∧ (cw ∨ s.WarmedH vm0) ∧ Old Z n0 h

theorem Hs.here (H : Hs p l e R s m args below meth c Z a0 EL cw own n0 bytes maxL ret nm T h C S sf) : At T m c below := by
  obtain ⟨-, vm0, k0, locs, X, -⟩ := H; exact X.here
theorem Hs.exec (H : Hs p l e R s m args below meth c Z a0 EL cw own n0 bytes maxL ret nm T h C S sf) : p.tables.exec = Jvm.exec := H.1.1
theorem Hs.dec (H : Hs p l e R s m args below meth c Z a0 EL cw own n0 bytes maxL ret nm T h C S sf) {pc : Nat} {r : Except ClassFile.DecodeError (ClassFile.Instr × Nat)} (hd : decode bytes pc = r) : decode c.code pc = r := by rw [H.1.2.2.1]; exact hd
theorem Hs.le (H : Hs p l e R s m args below meth c Z a0 EL cw own n0 bytes maxL ret nm T h C S sf) : n0 ≤ h.size := by
  obtain ⟨⟨-, -, -, -, -, -, -, hn⟩, vm0, k0, locs, -, -, -, -, -, -, -, hC, -⟩ := H
  exact Nat.le_trans hn hC.2.1
theorem Hs.nle {a : Addr} (H : Hs p l e R s m args below meth c Z a0 EL cw own n0 bytes maxL ret nm T h C S sf) (g : a = h.size) : n0 ≤ a := Nat.le_trans H.le (Nat.le_of_eq g.symm)
theorem Hs.old (H : Hs p l e R s m args below meth c Z a0 EL cw own n0 bytes maxL ret nm T h C S sf) : Old Z n0 h := by
  obtain ⟨-, vm0, k0, locs, -, -, -, -, -, -, -, -, -, -, hO⟩ := H; exact hO
theorem Hs.mono (H : Hs p l e R s m args below meth c Z a0 EL cw own n0 bytes maxL ret nm T h C S sf) {C' S' : Nat} (hc : C ≤ C') (hs : S ≤ S') : Hs p l e R s m args below meth c Z a0 EL cw own n0 bytes maxL ret nm T h C' S' sf := by
  obtain ⟨hM, vm0, k0, locs, X, r⟩ := H
  exact ⟨hM, vm0, k0, locs, X.mono hc hs, r⟩
theorem Hs.less (H : Hs p l e R s m args below meth c Z a0 EL cw own n0 bytes maxL ret nm T h C S sf) {sf' : List Addr} (hs : ∀ x ∈ sf', x ∈ sf) : Hs p l e R s m args below meth c Z a0 EL cw own n0 bytes maxL ret nm T h C S sf' := by
  obtain ⟨hM, vm0, k0, locs, X, h1, h2, h3, h4, h5, h6, h7, h8, h9, hO⟩ := H
  exact ⟨hM, vm0, k0, locs, X, h1, h2, h3, h4, h5, h6, h7, fun x hx => h8 x (hs x hx), h9, hO⟩
/-- a place that no constant of the list lies at -/
def Sf (Z : State) (EL : List (String × Nat)) (h : Heap) (sf : List Addr) (a : Addr) : Prop := a ∈ sf ∨ (∃ K, Exa Z h a K ∧ K ≠ "java/lang/String" ∧ K ≠ "[B") ∨ ∃ cl ty, Arr Z h a cl ty ∧ ty ≠ .byte
theorem Sf.mem {a : Addr} (q : a ∈ sf) : Sf Z EL h sf a := Or.inl q
theorem Sf.exa {a : Addr} {K : String} (E : Exa Z h a K) (h1 : K ≠ "java/lang/String" := by decide) (h2 : K ≠ "[B" := by decide) : Sf Z EL h sf a := Or.inr (Or.inl ⟨K, E, h1, h2⟩)
theorem Sf.arr {a : Addr} {k : ClassId} {ty : FieldType} {z : Int32} {vs : List Value} {dv : Value} (A : Arv Z h a k ty z vs dv) (ht : ty ≠ .byte := by decide) : Sf Z EL h sf a := by
  obtain ⟨cl, A, -⟩ := A; exact Or.inr (Or.inr ⟨cl, ty, A, ht⟩)
theorem Sf.safe {a : Addr} {vm0 : Vm} (hZ : Z.Warmed39 vm0) (hs : ∀ x ∈ sf, x < h.size ∧ Safe Z EL vm0 h x) (q : Sf Z EL h sf a) : Safe Z EL vm0 h a := by
  rcases q with q | ⟨K, E, h1, h2⟩ | ⟨cl, ty, A, ht⟩
  · exact (hs a q).2
  · exact Safe.exa hZ.alike E h1 h2
  · exact Safe.arr hZ.alike A ht

/-! ## what leaves the heap as it is -/
/-- a step of the library's that keeps the heap (T' in place of T) -/
theorem Hs.keepT {T' : State} (H : Hs p l e R s m args below meth c Z a0 EL cw own n0 bytes maxL ret nm T h C S sf)
    (k : ∀ (vm0 : Vm) (locs : List Loc), Stand p l e R (s.setVm vm0) m args below meth c T locs C S → Z.Warmed39 (s.setVm vm0).vm → (s.setVm vm0).vm.findClass own = some m.cls → T.heap = h → Stand p l e R (s.setVm vm0) m args below meth c T' locs C S ∧ T'.heap = h) : Hs p l e R s m args below meth c Z a0 EL cw own n0 bytes maxL ret nm T' h C S sf := by
  obtain ⟨hM, vm0, k0, locs, X, h1, h2, h3, h4, h5, h6, h7, h8, h9, hO⟩ := H
  obtain ⟨X', e'⟩ := k vm0 locs X h4 h5 h1
  exact ⟨hM, vm0, k0, locs, X', e', h2, h3, h4, h5, h6, h7, h8, h9, hO⟩
theorem G.getF (H : Hs p l e R s m args below meth c Z a0 EL cw own n0 bytes maxL ret nm T h C S sf) {R0 O n d : String} {index : Nat} (w : (Cond.fieldLink own index R0 n d).before a0 Z = true) (via : Via Z R0 O n d) {a : Addr} {v : Value} (F : Fld Z h a O n d v) {pc pc' : Nat} {L : Array Slot} {st : List Value} (hd : decode bytes pc = .ok (.getfield index, 3)) (hp : pc + 3 = pc')
    (k : ∀ T', Hs p l e R s m args below meth c Z a0 EL cw own n0 bytes maxL ret nm T' h C S sf → Go p e below P (T'.setTop (mkF m pc' L (v :: st)))) : Go p e below P (T.setTop (mkF m pc L (.ref a :: st))) := by
  subst hp
  obtain ⟨hM, vm0, k0, locs, X, h1, h2, h3, h4, h5, h6, h7, h8, h9, hO⟩ := id H
  obtain ⟨T', X', e', st'⟩ := RoadKit.getF X H.exec h4 (host := "") h5 (Or.inl w) via h1 F (g := mkF m pc L (.ref a :: st)) rfl rfl (H.dec hd)
  exact Go.st st' (k T' ⟨hM, vm0, k0, locs, X', e', h2, h3, h4, h5, h6, h7, h8, h9, hO⟩)
theorem G.getFN (H : Hs p l e R s m args below meth c Z a0 EL cw own n0 bytes maxL ret nm T h C S sf) {R0 O n d host : String} {index : Nat} (w : (Cond.fieldLinkNest own index R0 n d host).before a0 Z = true) (via : Via Z R0 O n d) {a : Addr} {v : Value} (F : Fld Z h a O n d v) {pc pc' : Nat} {L : Array Slot} {st : List Value} (hd : decode bytes pc = .ok (.getfield index, 3)) (hp : pc + 3 = pc')
    (k : ∀ T', Hs p l e R s m args below meth c Z a0 EL cw own n0 bytes maxL ret nm T' h C S sf → Go p e below P (T'.setTop (mkF m pc' L (v :: st)))) : Go p e below P (T.setTop (mkF m pc L (.ref a :: st))) := by
  subst hp
  obtain ⟨hM, vm0, k0, locs, X, h1, h2, h3, h4, h5, h6, h7, h8, h9, hO⟩ := id H
  obtain ⟨T', X', e', st'⟩ := RoadKit.getF X H.exec h4 h5 (Or.inr w) via h1 F (g := mkF m pc L (.ref a :: st)) rfl rfl (H.dec hd)
  exact Go.st st' (k T' ⟨hM, vm0, k0, locs, X', e', h2, h3, h4, h5, h6, h7, h8, h9, hO⟩)
theorem G.getS (H : Hs p l e R s m args below meth c Z a0 EL cw own n0 bytes maxL ret nm T h C S sf) {R0 O n d : String} {index : Nat} (w : (Cond.fieldLink own index R0 n d).before a0 Z = true) (via : Via Z R0 O n d) {v : Value} (F : Sta Z h O n d v) {pc pc' : Nat} {L : Array Slot} {st : List Value} (hd : decode bytes pc = .ok (.getstatic index, 3)) (hp : pc + 3 = pc')
    (k : ∀ T', Hs p l e R s m args below meth c Z a0 EL cw own n0 bytes maxL ret nm T' h C S sf → Go p e below P (T'.setTop (mkF m pc' L (v :: st)))) : Go p e below P (T.setTop (mkF m pc L st)) := by
  subst hp
  obtain ⟨hM, vm0, k0, locs, X, h1, h2, h3, h4, h5, h6, h7, h8, h9, hO⟩ := id H
  obtain ⟨T', X', e', st'⟩ := RoadKit.getS (host := "") X H.exec h4 h5 w via h1 F (g := mkF m pc L st) rfl (H.dec hd)
  exact Go.st st' (k T' ⟨hM, vm0, k0, locs, X', e', h2, h3, h4, h5, h6, h7, h8, h9, hO⟩)
theorem G.castY (H : Hs p l e R s m args below meth c Z a0 EL cw own n0 bytes maxL ret nm T h C S sf) {K : String} {index : Nat} (w : (Cond.classLink own index K).before a0 Z = true) {a : Addr} (F : Ins Z h a K true) {pc pc' : Nat} {L : Array Slot} {st : List Value} (hd : decode bytes pc = .ok (.checkcast index, 3)) (hp : pc + 3 = pc')
    (k : ∀ T', Hs p l e R s m args below meth c Z a0 EL cw own n0 bytes maxL ret nm T' h C S sf → Go p e below P (T'.setTop (mkF m pc' L (.ref a :: st)))) : Go p e below P (T.setTop (mkF m pc L (.ref a :: st))) := by
  subst hp
  obtain ⟨hM, vm0, k0, locs, X, h1, h2, h3, h4, h5, h6, h7, h8, h9, hO⟩ := id H
  obtain ⟨T', X', e', st'⟩ := RoadKit.castY X H.exec h4 h5 w h1 F (g := mkF m pc L (.ref a :: st)) rfl rfl (H.dec hd)
  exact Go.st st' (k T' ⟨hM, vm0, k0, locs, X', e', h2, h3, h4, h5, h6, h7, h8, h9, hO⟩)
theorem G.instY (H : Hs p l e R s m args below meth c Z a0 EL cw own n0 bytes maxL ret nm T h C S sf) {K : String} {index : Nat} (w : (Cond.classLink own index K).before a0 Z = true) {a : Addr} (F : Ins Z h a K true) {pc pc' : Nat} {L : Array Slot} {st : List Value} (hd : decode bytes pc = .ok (.instanceof index, 3)) (hp : pc + 3 = pc')
    (k : ∀ T', Hs p l e R s m args below meth c Z a0 EL cw own n0 bytes maxL ret nm T' h C S sf → Go p e below P (T'.setTop (mkF m pc' L (.int 1 :: st)))) : Go p e below P (T.setTop (mkF m pc L (.ref a :: st))) := by
  subst hp
  obtain ⟨hM, vm0, k0, locs, X, h1, h2, h3, h4, h5, h6, h7, h8, h9, hO⟩ := id H
  obtain ⟨T', X', e', st'⟩ := RoadKit.instY X H.exec h4 h5 w h1 F (g := mkF m pc L (.ref a :: st)) rfl rfl (H.dec hd)
  exact Go.st st' (k T' ⟨hM, vm0, k0, locs, X', e', h2, h3, h4, h5, h6, h7, h8, h9, hO⟩)
theorem G.instNo (H : Hs p l e R s m args below meth c Z a0 EL cw own n0 bytes maxL ret nm T h C S sf) {K D : String} {index : Nat} (w : (Cond.classLink own index K).before a0 Z = true) {a : Addr} (E : Exa Z h a D) (F : ∃ c t, Z.vm.findClass D = some c ∧ Z.vm.findClass K = some t ∧ Z.vm.assignable c t = false) {pc pc' : Nat} {L : Array Slot} {st : List Value} (hd : decode bytes pc = .ok (.instanceof index, 3)) (hp : pc + 3 = pc')
    (k : ∀ T', Hs p l e R s m args below meth c Z a0 EL cw own n0 bytes maxL ret nm T' h C S sf → Go p e below P (T'.setTop (mkF m pc' L (.int 0 :: st)))) : Go p e below P (T.setTop (mkF m pc L (.ref a :: st))) := by
  subst hp
  obtain ⟨hM, vm0, k0, locs, X, h1, h2, h3, h4, h5, h6, h7, h8, h9, hO⟩ := id H
  obtain ⟨T', X', e', st'⟩ := RoadKit.instNo X H.exec h4 h5 w h1 E F (g := mkF m pc L (.ref a :: st)) rfl rfl (H.dec hd)
  exact Go.st st' (k T' ⟨hM, vm0, k0, locs, X', e', h2, h3, h4, h5, h6, h7, h8, h9, hO⟩)
theorem G.initO (H : Hs p l e R s m args below meth c Z a0 EL cw own n0 bytes maxL ret nm T h C S sf) {index : Nat} (w1 : (Cond.methodLink own index Lib.objectInit).before a0 Z = true) (w2 : (Cond.instanceMethod Lib.objectInit).before a0 Z = true) (w3 : (Cond.code Lib.objectInit ⟨#[0xb1]⟩ 1 none).before a0 Z = true) {a : Addr} {pc pc' : Nat} {L : Array Slot} {st : List Value} (hL : L.size = maxL) (hd : decode bytes pc = .ok (.invokespecial index, 3)) (hp : pc + 3 = pc') (hf : 1 ≤ R.frames) {W : Nat} (hW : (st.map fun v => v.category).sum = W) (hl : W + 12 ≤ R.locals)
    (k : ∀ T', Hs p l e R s m args below meth c Z a0 EL cw own n0 bytes maxL ret nm T' h C S sf → Go p e below P (T'.setTop (mkF m pc' L st))) : Go p e below P (T.setTop (mkF m pc L (.ref a :: st))) := by
  subst hp
  obtain ⟨hM, vm0, k0, locs, X, h1, h2, h3, h4, h5, h6, h7, h8, h9, hO⟩ := id H
  obtain ⟨T', X', e', st'⟩ := RoadKit.initO X H.exec h4 h5 w1 w2 w3 h1 (g := mkF m pc L (.ref a :: st)) rfl (by rw [hM.2.2.2.1]; exact hL) rfl (H.dec hd) hf (W := W) (by show 2 * 0 + _ ≤ _; omega) hl
  exact Go.st st' (k T' ⟨hM, vm0, k0, locs, X', e', h2, h3, h4, h5, h6, h7, h8, h9, hO⟩)
theorem G.arrlen (H : Hs p l e R s m args below meth c Z a0 EL cw own n0 bytes maxL ret nm T h C S sf) {a : Addr} {kc : ClassId} {ty : FieldType} {z : Int32} {vs : List Value} {dv : Value} (A : Arv Z h a kc ty z vs dv) {pc pc' : Nat} {L : Array Slot} {st : List Value} (hd : decode bytes pc = .ok (.arraylength, 1)) (hp : pc + 1 = pc') (k : Go p e below P (T.setTop (mkF m pc' L (.int z :: st)))) : Go p e below P (T.setTop (mkF m pc L (.ref a :: st))) := by
  subst hp
  obtain ⟨hM, vm0, k0, locs, X, h1, h2, h3, h4, h5, h6, h7, h8, h9, hO⟩ := id H
  obtain ⟨cl, Ar, q1, S1, q3, H1, G1⟩ := A
  refine Go.st (fun t kk => X.arraylength H.exec (cell := cl) (by rw [h1]; exact Ar.1) (State.isArrayOf_alike (s := Z) h4.alike Ar.2.1) (g := mkF m pc L (.ref a :: st)) rfl rfl (H.dec hd) t ?_) k
  rw [len_of S1 q3]; exact kk
theorem G.ialoadG (H : Hs p l e R s m args below meth c Z a0 EL cw own n0 bytes maxL ret nm T h C S sf) {a : Addr} {kc : ClassId} {z : Int32} {vs : List Value} {dv : Value} (A : Arv Z h a kc .int z vs dv) {j : Int32} {v : Value} (hj : ¬ j < 0 ∧ j < z) (hv : vs.getD j.toNatClampNeg dv = v) {pc pc' : Nat} {L : Array Slot} {st : List Value} (hd : decode bytes pc = .ok (.iaload, 1)) (hp : pc + 1 = pc') (k : Go p e below P (T.setTop (mkF m pc' L (v :: st)))) : Go p e below P (T.setTop (mkF m pc L (.int j :: .ref a :: st))) := by
  subst hp
  obtain ⟨hM, vm0, k0, locs, X, h1, h2, h3, h4, h5, h6, h7, h8, h9, hO⟩ := id H
  obtain ⟨cl, Ar, q1, S1, q3, H1, G1⟩ := A
  exact Go.st (fun t kk => X.iaload H.exec (cell := cl) (by rw [h1]; exact Ar.1) (State.isArrayOf_alike (s := Z) h4.alike Ar.2.1) Ar.2.2 (inb_of S1 hj) (Has.at H1 (inb_of S1 hj) hv) (g := mkF m pc L (.int j :: .ref a :: st)) rfl rfl (H.dec hd) t kk) k
theorem G.caloadG (H : Hs p l e R s m args below meth c Z a0 EL cw own n0 bytes maxL ret nm T h C S sf) {a : Addr} {kc : ClassId} {z : Int32} {vs : List Value} {dv : Value} (A : Arv Z h a kc .char z vs dv) {j : Int32} {v : Value} (hj : ¬ j < 0 ∧ j < z) (hv : vs.getD j.toNatClampNeg dv = v) {pc pc' : Nat} {L : Array Slot} {st : List Value} (hd : decode bytes pc = .ok (.caload, 1)) (hp : pc + 1 = pc') (k : Go p e below P (T.setTop (mkF m pc' L (v :: st)))) : Go p e below P (T.setTop (mkF m pc L (.int j :: .ref a :: st))) := by
  subst hp
  obtain ⟨hM, vm0, k0, locs, X, h1, h2, h3, h4, h5, h6, h7, h8, h9, hO⟩ := id H
  obtain ⟨cl, Ar, q1, S1, q3, H1, G1⟩ := A
  exact Go.st (fun t kk => X.caload H.exec (cell := cl) (by rw [h1]; exact Ar.1) (State.isArrayOf_alike (s := Z) h4.alike Ar.2.1) Ar.2.2 (inb_of S1 hj) (Has.at H1 (inb_of S1 hj) hv) (g := mkF m pc L (.int j :: .ref a :: st)) rfl rfl (H.dec hd) t kk) k
theorem G.baloadG (H : Hs p l e R s m args below meth c Z a0 EL cw own n0 bytes maxL ret nm T h C S sf) {a : Addr} {kc : ClassId} {z : Int32} {vs : List Value} {dv : Value} (A : Arv Z h a kc .byte z vs dv) {j : Int32} {v : Value} (hj : ¬ j < 0 ∧ j < z) (hv : vs.getD j.toNatClampNeg dv = v) {pc pc' : Nat} {L : Array Slot} {st : List Value} (hd : decode bytes pc = .ok (.baload, 1)) (hp : pc + 1 = pc') (k : Go p e below P (T.setTop (mkF m pc' L (v :: st)))) : Go p e below P (T.setTop (mkF m pc L (.int j :: .ref a :: st))) := by
  subst hp
  obtain ⟨hM, vm0, k0, locs, X, h1, h2, h3, h4, h5, h6, h7, h8, h9, hO⟩ := id H
  obtain ⟨cl, Ar, q1, S1, q3, H1, G1⟩ := A
  exact Go.st (fun t kk => X.baloadBytes H.exec (cell := cl) (by rw [h1]; exact Ar.1) (State.isArrayOf_alike (s := Z) h4.alike Ar.2.1) Ar.2.2 (inb_of S1 hj) (Has.at H1 (inb_of S1 hj) hv) (g := mkF m pc L (.int j :: .ref a :: st)) rfl rfl (H.dec hd) t kk) k
theorem G.aaloadG (H : Hs p l e R s m args below meth c Z a0 EL cw own n0 bytes maxL ret nm T h C S sf) {a : Addr} {kc : ClassId} {ty : FieldType} {z : Int32} {vs : List Value} {dv : Value} (A : Arv Z h a kc ty z vs dv) (hty : ty.isReference = true) {j : Int32} {v : Value} (hj : ¬ j < 0 ∧ j < z) (hv : vs.getD j.toNatClampNeg dv = v) {pc pc' : Nat} {L : Array Slot} {st : List Value} (hd : decode bytes pc = .ok (.aaload, 1)) (hp : pc + 1 = pc') (k : Go p e below P (T.setTop (mkF m pc' L (v :: st)))) : Go p e below P (T.setTop (mkF m pc L (.int j :: .ref a :: st))) := by
  subst hp
  obtain ⟨hM, vm0, k0, locs, X, h1, h2, h3, h4, h5, h6, h7, h8, h9, hO⟩ := id H
  obtain ⟨cl, Ar, q1, S1, q3, H1, G1⟩ := A
  exact Go.st (fun t kk => X.aaload H.exec (cell := cl) (by rw [h1]; exact Ar.1) (State.isArrayOf_alike (s := Z) h4.alike Ar.2.1) hty Ar.2.2 (inb_of S1 hj) (Has.at H1 (inb_of S1 hj) hv) (g := mkF m pc L (.int j :: .ref a :: st)) rfl rfl (H.dec hd) t kk) k
theorem G.ldcI (H : Hs p l e R s m args below meth c Z a0 EL cw own n0 bytes maxL ret nm T h C S sf) {index : Nat} {v : Int32} (w : (Cond.constant own index v).before a0 Z = true) {pc pc' : Nat} {L : Array Slot} {st : List Value} (hd : decode bytes pc = .ok (.ldc index, 2)) (hp : pc + 2 = pc') (k : Go p e below P (T.setTop (mkF m pc' L (.int v :: st)))) : Go p e below P (T.setTop (mkF m pc L st)) := by
  subst hp
  obtain ⟨hM, vm0, k0, locs, X, h1, h2, h3, h4, h5, h6, h7, h8, h9, hO⟩ := id H
  exact Go.st (fun t kk => Jvm.Stand.ldcI X H.exec h5 (mv h4 w) (g := mkF m pc L st) rfl (H.dec hd) kk) k
theorem G.ldc2J (H : Hs p l e R s m args below meth c Z a0 EL cw own n0 bytes maxL ret nm T h C S sf) {index : Nat} {v : Int64} (w : (Cond.constantLong own index v).before a0 Z = true) {pc pc' : Nat} {L : Array Slot} {st : List Value} (hd : decode bytes pc = .ok (.ldc2_w index, 3)) (hp : pc + 3 = pc') (k : Go p e below P (T.setTop (mkF m pc' L (.long v :: st)))) : Go p e below P (T.setTop (mkF m pc L st)) := by
  subst hp
  obtain ⟨hM, vm0, k0, locs, X, h1, h2, h3, h4, h5, h6, h7, h8, h9, hO⟩ := id H
  exact Go.st (fun t kk => Jvm.Stand.ldc2J X H.exec h5 (mv h4 w) (g := mkF m pc L st) rfl (H.dec hd) kk) k
/-! ## the plain steps -/
theorem G.aloadN (H : Hs p l e R s m args below meth c Z a0 EL cw own n0 bytes maxL ret nm T h C S sf) {i : Fin 4} {v : Value} {pc pc' : Nat} {L : Array Slot} {st : List Value} (hd : decode bytes pc = .ok (.aload_n i, 1)) (hp : pc + 1 = pc') (hl : L[i.val]? = some (.val v)) (hv : v.isRef = true) (k : Go p e below P (T.setTop (mkF m pc' L (v :: st)))) : Go p e below P (T.setTop (mkF m pc L (st))) := by
  subst hp
  exact Go.st (fun t kk => XS.aloadN H.here H.exec (g := mkF m pc L (st)) rfl (H.dec hd) hl hv kk) k
theorem G.aload (H : Hs p l e R s m args below meth c Z a0 EL cw own n0 bytes maxL ret nm T h C S sf) {i : Nat} {v : Value} {pc pc' : Nat} {L : Array Slot} {st : List Value} (hd : decode bytes pc = .ok (.aload i, 2)) (hp : pc + 2 = pc') (hl : L[i]? = some (.val v)) (hv : v.isRef = true) (k : Go p e below P (T.setTop (mkF m pc' L (v :: st)))) : Go p e below P (T.setTop (mkF m pc L (st))) := by
  subst hp
  exact Go.st (fun t kk => XS.aload H.here H.exec (g := mkF m pc L (st)) rfl (H.dec hd) hl hv kk) k
theorem G.iloadN (H : Hs p l e R s m args below meth c Z a0 EL cw own n0 bytes maxL ret nm T h C S sf) {i : Fin 4} {v : Int32} {pc pc' : Nat} {L : Array Slot} {st : List Value} (hd : decode bytes pc = .ok (.iload_n i, 1)) (hp : pc + 1 = pc') (hl : L[i.val]? = some (.val (.int v))) (k : Go p e below P (T.setTop (mkF m pc' L (.int v :: st)))) : Go p e below P (T.setTop (mkF m pc L (st))) := by
  subst hp
  exact Go.st (fun t kk => XS.iloadN H.here H.exec (g := mkF m pc L (st)) rfl (H.dec hd) hl kk) k
theorem G.iload (H : Hs p l e R s m args below meth c Z a0 EL cw own n0 bytes maxL ret nm T h C S sf) {i : Nat} {v : Int32} {pc pc' : Nat} {L : Array Slot} {st : List Value} (hd : decode bytes pc = .ok (.iload i, 2)) (hp : pc + 2 = pc') (hl : L[i]? = some (.val (.int v))) (k : Go p e below P (T.setTop (mkF m pc' L (.int v :: st)))) : Go p e below P (T.setTop (mkF m pc L (st))) := by
  subst hp
  exact Go.st (fun t kk => XS.iload H.here H.exec (g := mkF m pc L (st)) rfl (H.dec hd) hl kk) k
theorem G.lloadN (H : Hs p l e R s m args below meth c Z a0 EL cw own n0 bytes maxL ret nm T h C S sf) {i : Fin 4} {v : Int64} {pc pc' : Nat} {L : Array Slot} {st : List Value} (hd : decode bytes pc = .ok (.lload_n i, 1)) (hp : pc + 1 = pc') (hl : L[i.val]? = some (.val (.long v))) (k : Go p e below P (T.setTop (mkF m pc' L (.long v :: st)))) : Go p e below P (T.setTop (mkF m pc L (st))) := by
  subst hp
  exact Go.st (fun t kk => XT.lloadN H.here H.exec (g := mkF m pc L (st)) rfl (H.dec hd) hl kk) k
theorem G.lload (H : Hs p l e R s m args below meth c Z a0 EL cw own n0 bytes maxL ret nm T h C S sf) {i : Nat} {v : Int64} {pc pc' : Nat} {L : Array Slot} {st : List Value} (hd : decode bytes pc = .ok (.lload i, 2)) (hp : pc + 2 = pc') (hl : L[i]? = some (.val (.long v))) (k : Go p e below P (T.setTop (mkF m pc' L (.long v :: st)))) : Go p e below P (T.setTop (mkF m pc L (st))) := by
  subst hp
  exact Go.st (fun t kk => XT.lload H.here H.exec (g := mkF m pc L (st)) rfl (H.dec hd) hl kk) k
theorem G.iconst (H : Hs p l e R s m args below meth c Z a0 EL cw own n0 bytes maxL ret nm T h C S sf) {i : Int} {v : Int32} {pc pc' : Nat} {L : Array Slot} {st : List Value} (hd : decode bytes pc = .ok (.iconst i, 1)) (hp : pc + 1 = pc') (hv : Int32.ofInt i = v) (k : Go p e below P (T.setTop (mkF m pc' L (.int v :: st)))) : Go p e below P (T.setTop (mkF m pc L (st))) := by
  subst hp; subst hv
  exact Go.st (fun t kk => XS.iconst H.here H.exec (g := mkF m pc L (st)) rfl (H.dec hd) kk) k
theorem G.bipush (H : Hs p l e R s m args below meth c Z a0 EL cw own n0 bytes maxL ret nm T h C S sf) {i : Int} {v : Int32} {pc pc' : Nat} {L : Array Slot} {st : List Value} (hd : decode bytes pc = .ok (.bipush i, 2)) (hp : pc + 2 = pc') (hv : (Int8.ofInt i).toInt32 = v) (k : Go p e below P (T.setTop (mkF m pc' L (.int v :: st)))) : Go p e below P (T.setTop (mkF m pc L (st))) := by
  subst hp; subst hv
  exact Go.st (fun t kk => XS.bipush H.here H.exec (g := mkF m pc L (st)) rfl (H.dec hd) kk) k
theorem G.sipush (H : Hs p l e R s m args below meth c Z a0 EL cw own n0 bytes maxL ret nm T h C S sf) {i : Int} {v : Int32} {pc pc' : Nat} {L : Array Slot} {st : List Value} (hd : decode bytes pc = .ok (.sipush i, 3)) (hp : pc + 3 = pc') (hv : (Int16.ofInt i).toInt32 = v) (k : Go p e below P (T.setTop (mkF m pc' L (.int v :: st)))) : Go p e below P (T.setTop (mkF m pc L (st))) := by
  subst hp; subst hv
  exact Go.st (fun t kk => XS.sipush H.here H.exec (g := mkF m pc L (st)) rfl (H.dec hd) kk) k
theorem G.aconstNull (H : Hs p l e R s m args below meth c Z a0 EL cw own n0 bytes maxL ret nm T h C S sf) {pc pc' : Nat} {L : Array Slot} {st : List Value} (hd : decode bytes pc = .ok (.aconst_null, 1)) (hp : pc + 1 = pc') (k : Go p e below P (T.setTop (mkF m pc' L (.null :: st)))) : Go p e below P (T.setTop (mkF m pc L (st))) := by
  subst hp
  exact Go.st (fun t kk => XS.aconstNull H.here H.exec (g := mkF m pc L (st)) rfl (H.dec hd) kk) k
theorem G.lconst (H : Hs p l e R s m args below meth c Z a0 EL cw own n0 bytes maxL ret nm T h C S sf) {i : Fin 2} {v : Int64} {pc pc' : Nat} {L : Array Slot} {st : List Value} (hd : decode bytes pc = .ok (.lconst i, 1)) (hp : pc + 1 = pc') (hv : Int64.ofNat i = v) (k : Go p e below P (T.setTop (mkF m pc' L (.long v :: st)))) : Go p e below P (T.setTop (mkF m pc L (st))) := by
  subst hp; subst hv
  exact Go.st (fun t kk => XT.lconst H.here H.exec (g := mkF m pc L (st)) rfl (H.dec hd) kk) k
theorem G.iadd (H : Hs p l e R s m args below meth c Z a0 EL cw own n0 bytes maxL ret nm T h C S sf) {x y : Int32} {pc pc' : Nat} {L : Array Slot} {st : List Value} (hd : decode bytes pc = .ok (.iadd, 1)) (hp : pc + 1 = pc') (k : Go p e below P (T.setTop (mkF m pc' L (.int (x + y) :: st)))) : Go p e below P (T.setTop (mkF m pc L (.int y :: .int x :: st))) := by
  subst hp
  exact Go.st (fun t kk => XS.iadd H.here H.exec (g := mkF m pc L (.int y :: .int x :: st)) rfl (H.dec hd) rfl kk) k
theorem G.isub (H : Hs p l e R s m args below meth c Z a0 EL cw own n0 bytes maxL ret nm T h C S sf) {x y : Int32} {pc pc' : Nat} {L : Array Slot} {st : List Value} (hd : decode bytes pc = .ok (.isub, 1)) (hp : pc + 1 = pc') (k : Go p e below P (T.setTop (mkF m pc' L (.int (x - y) :: st)))) : Go p e below P (T.setTop (mkF m pc L (.int y :: .int x :: st))) := by
  subst hp
  exact Go.st (fun t kk => XS.isub H.here H.exec (g := mkF m pc L (.int y :: .int x :: st)) rfl (H.dec hd) rfl kk) k
theorem G.iand (H : Hs p l e R s m args below meth c Z a0 EL cw own n0 bytes maxL ret nm T h C S sf) {x y : Int32} {pc pc' : Nat} {L : Array Slot} {st : List Value} (hd : decode bytes pc = .ok (.iand, 1)) (hp : pc + 1 = pc') (k : Go p e below P (T.setTop (mkF m pc' L (.int (x &&& y) :: st)))) : Go p e below P (T.setTop (mkF m pc L (.int y :: .int x :: st))) := by
  subst hp
  exact Go.st (fun t kk => XS.iand H.here H.exec (g := mkF m pc L (.int y :: .int x :: st)) rfl (H.dec hd) rfl kk) k
theorem G.imul (H : Hs p l e R s m args below meth c Z a0 EL cw own n0 bytes maxL ret nm T h C S sf) {x y : Int32} {pc pc' : Nat} {L : Array Slot} {st : List Value} (hd : decode bytes pc = .ok (.imul, 1)) (hp : pc + 1 = pc') (k : Go p e below P (T.setTop (mkF m pc' L (.int (x * y) :: st)))) : Go p e below P (T.setTop (mkF m pc L (.int y :: .int x :: st))) := by
  subst hp
  exact Go.st (fun t kk => XS.imul H.here H.exec (g := mkF m pc L (.int y :: .int x :: st)) rfl (H.dec hd) rfl kk) k
theorem G.ior (H : Hs p l e R s m args below meth c Z a0 EL cw own n0 bytes maxL ret nm T h C S sf) {x y : Int32} {pc pc' : Nat} {L : Array Slot} {st : List Value} (hd : decode bytes pc = .ok (.ior, 1)) (hp : pc + 1 = pc') (k : Go p e below P (T.setTop (mkF m pc' L (.int (x ||| y) :: st)))) : Go p e below P (T.setTop (mkF m pc L (.int y :: .int x :: st))) := by
  subst hp
  exact Go.st (fun t kk => XT.ior H.here H.exec (g := mkF m pc L (.int y :: .int x :: st)) rfl (H.dec hd) rfl kk) k
theorem G.ixor (H : Hs p l e R s m args below meth c Z a0 EL cw own n0 bytes maxL ret nm T h C S sf) {x y : Int32} {pc pc' : Nat} {L : Array Slot} {st : List Value} (hd : decode bytes pc = .ok (.ixor, 1)) (hp : pc + 1 = pc') (k : Go p e below P (T.setTop (mkF m pc' L (.int (x ^^^ y) :: st)))) : Go p e below P (T.setTop (mkF m pc L (.int y :: .int x :: st))) := by
  subst hp
  exact Go.st (fun t kk => XT.ixor H.here H.exec (g := mkF m pc L (.int y :: .int x :: st)) rfl (H.dec hd) rfl kk) k
theorem G.ishl (H : Hs p l e R s m args below meth c Z a0 EL cw own n0 bytes maxL ret nm T h C S sf) {x y : Int32} {pc pc' : Nat} {L : Array Slot} {st : List Value} (hd : decode bytes pc = .ok (.ishl, 1)) (hp : pc + 1 = pc') (k : Go p e below P (T.setTop (mkF m pc' L (.int (x <<< (y &&& 31)) :: st)))) : Go p e below P (T.setTop (mkF m pc L (.int y :: .int x :: st))) := by
  subst hp
  exact Go.st (fun t kk => XT.ishl H.here H.exec (g := mkF m pc L (.int y :: .int x :: st)) rfl (H.dec hd) rfl kk) k
theorem G.ishr (H : Hs p l e R s m args below meth c Z a0 EL cw own n0 bytes maxL ret nm T h C S sf) {x y : Int32} {pc pc' : Nat} {L : Array Slot} {st : List Value} (hd : decode bytes pc = .ok (.ishr, 1)) (hp : pc + 1 = pc') (k : Go p e below P (T.setTop (mkF m pc' L (.int (x >>> (y &&& 31)) :: st)))) : Go p e below P (T.setTop (mkF m pc L (.int y :: .int x :: st))) := by
  subst hp
  exact Go.st (fun t kk => XT.ishr H.here H.exec (g := mkF m pc L (.int y :: .int x :: st)) rfl (H.dec hd) rfl kk) k
theorem G.iushr (H : Hs p l e R s m args below meth c Z a0 EL cw own n0 bytes maxL ret nm T h C S sf) {x y : Int32} {pc pc' : Nat} {L : Array Slot} {st : List Value} (hd : decode bytes pc = .ok (.iushr, 1)) (hp : pc + 1 = pc') (k : Go p e below P (T.setTop (mkF m pc' L (.int (XT.ushr x y) :: st)))) : Go p e below P (T.setTop (mkF m pc L (.int y :: .int x :: st))) := by
  subst hp
  exact Go.st (fun t kk => XT.iushr H.here H.exec (g := mkF m pc L (.int y :: .int x :: st)) rfl (H.dec hd) rfl kk) k
theorem G.idiv (H : Hs p l e R s m args below meth c Z a0 EL cw own n0 bytes maxL ret nm T h C S sf) {x y : Int32} {pc pc' : Nat} {L : Array Slot} {st : List Value} (hd : decode bytes pc = .ok (.idiv, 1)) (hp : pc + 1 = pc') (hy : y ≠ 0) (k : Go p e below P (T.setTop (mkF m pc' L (.int (x / y) :: st)))) : Go p e below P (T.setTop (mkF m pc L (.int y :: .int x :: st))) := by
  subst hp
  exact Go.st (fun t kk => XS.idiv H.here H.exec (g := mkF m pc L (.int y :: .int x :: st)) rfl (H.dec hd) rfl hy kk) k
theorem G.ineg (H : Hs p l e R s m args below meth c Z a0 EL cw own n0 bytes maxL ret nm T h C S sf) {x : Int32} {pc pc' : Nat} {L : Array Slot} {st : List Value} (hd : decode bytes pc = .ok (.ineg, 1)) (hp : pc + 1 = pc') (k : Go p e below P (T.setTop (mkF m pc' L (.int (-x) :: st)))) : Go p e below P (T.setTop (mkF m pc L (.int x :: st))) := by
  subst hp
  exact Go.st (fun t kk => XS.ineg H.here H.exec (g := mkF m pc L (.int x :: st)) rfl (H.dec hd) rfl kk) k
theorem G.irem (H : Hs p l e R s m args below meth c Z a0 EL cw own n0 bytes maxL ret nm T h C S sf) {x y : Int32} {pc pc' : Nat} {L : Array Slot} {st : List Value} (hd : decode bytes pc = .ok (.irem, 1)) (hp : pc + 1 = pc') (hy : y ≠ 0) (k : Go p e below P (T.setTop (mkF m pc' L (.int (x % y) :: st)))) : Go p e below P (T.setTop (mkF m pc L (.int y :: .int x :: st))) := by
  subst hp
  obtain ⟨-, vm0, k0, locs, X, -⟩ := id H
  exact Go.st (fun t kk => iremM X H.exec (g := mkF m pc L (.int y :: .int x :: st)) rfl (H.dec hd) rfl hy kk) k
theorem G.ladd (H : Hs p l e R s m args below meth c Z a0 EL cw own n0 bytes maxL ret nm T h C S sf) {x y : Int64} {pc pc' : Nat} {L : Array Slot} {st : List Value} (hd : decode bytes pc = .ok (.ladd, 1)) (hp : pc + 1 = pc') (k : Go p e below P (T.setTop (mkF m pc' L (.long (x + y) :: st)))) : Go p e below P (T.setTop (mkF m pc L (.long y :: .long x :: st))) := by
  subst hp
  exact Go.st (fun t kk => XT.ladd H.here H.exec (g := mkF m pc L (.long y :: .long x :: st)) rfl (H.dec hd) rfl kk) k
theorem G.lsub (H : Hs p l e R s m args below meth c Z a0 EL cw own n0 bytes maxL ret nm T h C S sf) {x y : Int64} {pc pc' : Nat} {L : Array Slot} {st : List Value} (hd : decode bytes pc = .ok (.lsub, 1)) (hp : pc + 1 = pc') (k : Go p e below P (T.setTop (mkF m pc' L (.long (x - y) :: st)))) : Go p e below P (T.setTop (mkF m pc L (.long y :: .long x :: st))) := by
  subst hp
  exact Go.st (fun t kk => XT.lsub H.here H.exec (g := mkF m pc L (.long y :: .long x :: st)) rfl (H.dec hd) rfl kk) k
theorem G.land (H : Hs p l e R s m args below meth c Z a0 EL cw own n0 bytes maxL ret nm T h C S sf) {x y : Int64} {pc pc' : Nat} {L : Array Slot} {st : List Value} (hd : decode bytes pc = .ok (.land, 1)) (hp : pc + 1 = pc') (k : Go p e below P (T.setTop (mkF m pc' L (.long (x &&& y) :: st)))) : Go p e below P (T.setTop (mkF m pc L (.long y :: .long x :: st))) := by
  subst hp
  exact Go.st (fun t kk => XT.land H.here H.exec (g := mkF m pc L (.long y :: .long x :: st)) rfl (H.dec hd) rfl kk) k
theorem G.lor (H : Hs p l e R s m args below meth c Z a0 EL cw own n0 bytes maxL ret nm T h C S sf) {x y : Int64} {pc pc' : Nat} {L : Array Slot} {st : List Value} (hd : decode bytes pc = .ok (.lor, 1)) (hp : pc + 1 = pc') (k : Go p e below P (T.setTop (mkF m pc' L (.long (x ||| y) :: st)))) : Go p e below P (T.setTop (mkF m pc L (.long y :: .long x :: st))) := by
  subst hp
  exact Go.st (fun t kk => XT.lor H.here H.exec (g := mkF m pc L (.long y :: .long x :: st)) rfl (H.dec hd) rfl kk) k
theorem G.lxor (H : Hs p l e R s m args below meth c Z a0 EL cw own n0 bytes maxL ret nm T h C S sf) {x y : Int64} {pc pc' : Nat} {L : Array Slot} {st : List Value} (hd : decode bytes pc = .ok (.lxor, 1)) (hp : pc + 1 = pc') (k : Go p e below P (T.setTop (mkF m pc' L (.long (x ^^^ y) :: st)))) : Go p e below P (T.setTop (mkF m pc L (.long y :: .long x :: st))) := by
  subst hp
  exact Go.st (fun t kk => XT.lxor H.here H.exec (g := mkF m pc L (.long y :: .long x :: st)) rfl (H.dec hd) rfl kk) k
theorem G.lmul (H : Hs p l e R s m args below meth c Z a0 EL cw own n0 bytes maxL ret nm T h C S sf) {x y : Int64} {pc pc' : Nat} {L : Array Slot} {st : List Value} (hd : decode bytes pc = .ok (.lmul, 1)) (hp : pc + 1 = pc') (k : Go p e below P (T.setTop (mkF m pc' L (.long (x * y) :: st)))) : Go p e below P (T.setTop (mkF m pc L (.long y :: .long x :: st))) := by
  subst hp
  exact Go.st (fun t kk => XT.lmul H.here H.exec (g := mkF m pc L (.long y :: .long x :: st)) rfl (H.dec hd) rfl kk) k
theorem G.lushr (H : Hs p l e R s m args below meth c Z a0 EL cw own n0 bytes maxL ret nm T h C S sf) {x : Int64} {y : Int32} {pc pc' : Nat} {L : Array Slot} {st : List Value} (hd : decode bytes pc = .ok (.lushr, 1)) (hp : pc + 1 = pc') (k : Go p e below P (T.setTop (mkF m pc' L (.long (XT.ushrL x y) :: st)))) : Go p e below P (T.setTop (mkF m pc L (.int y :: .long x :: st))) := by
  subst hp
  exact Go.st (fun t kk => XT.lushr H.here H.exec (g := mkF m pc L (.int y :: .long x :: st)) rfl (H.dec hd) rfl kk) k
theorem G.i2l (H : Hs p l e R s m args below meth c Z a0 EL cw own n0 bytes maxL ret nm T h C S sf) {x : Int32} {pc pc' : Nat} {L : Array Slot} {st : List Value} (hd : decode bytes pc = .ok (.i2l, 1)) (hp : pc + 1 = pc') (k : Go p e below P (T.setTop (mkF m pc' L (.long (x.toInt64) :: st)))) : Go p e below P (T.setTop (mkF m pc L (.int x :: st))) := by
  subst hp
  exact Go.st (fun t kk => XT.i2l H.here H.exec (g := mkF m pc L (.int x :: st)) rfl (H.dec hd) rfl kk) k
theorem G.l2i (H : Hs p l e R s m args below meth c Z a0 EL cw own n0 bytes maxL ret nm T h C S sf) {x : Int64} {pc pc' : Nat} {L : Array Slot} {st : List Value} (hd : decode bytes pc = .ok (.l2i, 1)) (hp : pc + 1 = pc') (k : Go p e below P (T.setTop (mkF m pc' L (.int (x.toInt32) :: st)))) : Go p e below P (T.setTop (mkF m pc L (.long x :: st))) := by
  subst hp
  exact Go.st (fun t kk => XT.l2i H.here H.exec (g := mkF m pc L (.long x :: st)) rfl (H.dec hd) rfl kk) k
theorem G.i2b (H : Hs p l e R s m args below meth c Z a0 EL cw own n0 bytes maxL ret nm T h C S sf) {x : Int32} {pc pc' : Nat} {L : Array Slot} {st : List Value} (hd : decode bytes pc = .ok (.i2b, 1)) (hp : pc + 1 = pc') (k : Go p e below P (T.setTop (mkF m pc' L (.int (x.toInt8.toInt32) :: st)))) : Go p e below P (T.setTop (mkF m pc L (.int x :: st))) := by
  subst hp
  exact Go.st (fun t kk => XT.i2b H.here H.exec (g := mkF m pc L (.int x :: st)) rfl (H.dec hd) rfl kk) k
theorem G.i2s (H : Hs p l e R s m args below meth c Z a0 EL cw own n0 bytes maxL ret nm T h C S sf) {x : Int32} {pc pc' : Nat} {L : Array Slot} {st : List Value} (hd : decode bytes pc = .ok (.i2s, 1)) (hp : pc + 1 = pc') (k : Go p e below P (T.setTop (mkF m pc' L (.int (x.toInt16.toInt32) :: st)))) : Go p e below P (T.setTop (mkF m pc L (.int x :: st))) := by
  subst hp
  exact Go.st (fun t kk => XT.i2s H.here H.exec (g := mkF m pc L (.int x :: st)) rfl (H.dec hd) rfl kk) k
theorem G.i2c (H : Hs p l e R s m args below meth c Z a0 EL cw own n0 bytes maxL ret nm T h C S sf) {x y : Int32} {pc pc' : Nat} {L : Array Slot} {st : List Value} (hd : decode bytes pc = .ok (.i2c, 1)) (hp : pc + 1 = pc') (hy : x.toUInt32.toUInt16.toUInt32.toInt32 = y) (k : Go p e below P (T.setTop (mkF m pc' L (.int y :: st)))) : Go p e below P (T.setTop (mkF m pc L (.int x :: st))) := by
  subst hp; subst hy
  exact Go.st (fun t kk => XT.i2c H.here H.exec (g := mkF m pc L (.int x :: st)) rfl (H.dec hd) rfl kk) k
theorem G.lcmp (H : Hs p l e R s m args below meth c Z a0 EL cw own n0 bytes maxL ret nm T h C S sf) {x y : Int64} {pc pc' : Nat} {L : Array Slot} {st : List Value} (hd : decode bytes pc = .ok (.lcmp, 1)) (hp : pc + 1 = pc') (k : Go p e below P (T.setTop (mkF m pc' L (.int (XT.cmpL x y) :: st)))) : Go p e below P (T.setTop (mkF m pc L (.long y :: .long x :: st))) := by
  subst hp
  exact Go.st (fun t kk => XT.lcmp H.here H.exec (g := mkF m pc L (.long y :: .long x :: st)) rfl (H.dec hd) rfl kk) k
theorem G.pop (H : Hs p l e R s m args below meth c Z a0 EL cw own n0 bytes maxL ret nm T h C S sf) {x : Value} {pc pc' : Nat} {L : Array Slot} {st : List Value} (hd : decode bytes pc = .ok (.pop, 1)) (hp : pc + 1 = pc') (hc : x.category = 1) (k : Go p e below P (T.setTop (mkF m pc' L (st)))) : Go p e below P (T.setTop (mkF m pc L (x :: st))) := by
  subst hp
  exact Go.st (fun t kk => XT.pop H.here H.exec (g := mkF m pc L (x :: st)) rfl (H.dec hd) rfl hc kk) k
theorem G.dup (H : Hs p l e R s m args below meth c Z a0 EL cw own n0 bytes maxL ret nm T h C S sf) {x : Value} {pc pc' : Nat} {L : Array Slot} {st : List Value} (hd : decode bytes pc = .ok (.dup, 1)) (hp : pc + 1 = pc') (hc : x.category = 1) (k : Go p e below P (T.setTop (mkF m pc' L (x :: x :: st)))) : Go p e below P (T.setTop (mkF m pc L (x :: st))) := by
  subst hp
  exact Go.st (fun t kk => XS.dup H.here H.exec (g := mkF m pc L (x :: st)) rfl (H.dec hd) rfl hc kk) k
theorem G.dupX1 (H : Hs p l e R s m args below meth c Z a0 EL cw own n0 bytes maxL ret nm T h C S sf) {x y : Value} {pc pc' : Nat} {L : Array Slot} {st : List Value} (hd : decode bytes pc = .ok (.dup_x1, 1)) (hp : pc + 1 = pc') (hc : x.category = 1) (hc' : y.category = 1) (k : Go p e below P (T.setTop (mkF m pc' L (x :: y :: x :: st)))) : Go p e below P (T.setTop (mkF m pc L (x :: y :: st))) := by
  subst hp
  exact Go.st (fun t kk => XT.dupX1 H.here H.exec (g := mkF m pc L (x :: y :: st)) rfl (H.dec hd) rfl hc hc' kk) k
theorem G.dup2 (H : Hs p l e R s m args below meth c Z a0 EL cw own n0 bytes maxL ret nm T h C S sf) {x y : Value} {pc pc' : Nat} {L : Array Slot} {st : List Value} (hd : decode bytes pc = .ok (.dup2, 1)) (hp : pc + 1 = pc') (hc : x.category = 1) (hc' : y.category = 1) (k : Go p e below P (T.setTop (mkF m pc' L (x :: y :: x :: y :: st)))) : Go p e below P (T.setTop (mkF m pc L (x :: y :: st))) := by
  subst hp
  exact Go.st (fun t kk => XT.dup2 H.here H.exec (g := mkF m pc L (x :: y :: st)) rfl (H.dec hd) rfl hc hc' kk) k
theorem G.istoreN (H : Hs p l e R s m args below meth c Z a0 EL cw own n0 bytes maxL ret nm T h C S sf) {i : Fin 4} {x : Int32} {L' : Array Slot} {pc pc' : Nat} {L : Array Slot} {st : List Value} (hd : decode bytes pc = .ok (.istore_n i, 1)) (hp : pc + 1 = pc') (hl : storeLocals L i.val (.int x) = some L') (k : Go p e below P (T.setTop (mkF m pc' L' (st)))) : Go p e below P (T.setTop (mkF m pc L (.int x :: st))) := by
  subst hp
  exact Go.st (fun t kk => XS.istoreN H.here H.exec (g := mkF m pc L (.int x :: st)) rfl (H.dec hd) rfl hl kk) k
theorem G.istore (H : Hs p l e R s m args below meth c Z a0 EL cw own n0 bytes maxL ret nm T h C S sf) {i : Nat} {x : Int32} {L' : Array Slot} {pc pc' : Nat} {L : Array Slot} {st : List Value} (hd : decode bytes pc = .ok (.istore i, 2)) (hp : pc + 2 = pc') (hl : storeLocals L i (.int x) = some L') (k : Go p e below P (T.setTop (mkF m pc' L' (st)))) : Go p e below P (T.setTop (mkF m pc L (.int x :: st))) := by
  subst hp
  exact Go.st (fun t kk => XS.istore H.here H.exec (g := mkF m pc L (.int x :: st)) rfl (H.dec hd) rfl hl kk) k
theorem G.astoreN (H : Hs p l e R s m args below meth c Z a0 EL cw own n0 bytes maxL ret nm T h C S sf) {i : Fin 4} {x : Value} {L' : Array Slot} {pc pc' : Nat} {L : Array Slot} {st : List Value} (hd : decode bytes pc = .ok (.astore_n i, 1)) (hp : pc + 1 = pc') (hv : x.isRef = true) (hl : storeLocals L i.val x = some L') (k : Go p e below P (T.setTop (mkF m pc' L' (st)))) : Go p e below P (T.setTop (mkF m pc L (x :: st))) := by
  subst hp
  exact Go.st (fun t kk => XS.astoreN H.here H.exec (g := mkF m pc L (x :: st)) rfl (H.dec hd) rfl hv hl kk) k
theorem G.astore (H : Hs p l e R s m args below meth c Z a0 EL cw own n0 bytes maxL ret nm T h C S sf) {i : Nat} {x : Value} {L' : Array Slot} {pc pc' : Nat} {L : Array Slot} {st : List Value} (hd : decode bytes pc = .ok (.astore i, 2)) (hp : pc + 2 = pc') (hv : x.isRef = true) (hl : storeLocals L i x = some L') (k : Go p e below P (T.setTop (mkF m pc' L' (st)))) : Go p e below P (T.setTop (mkF m pc L (x :: st))) := by
  subst hp
  exact Go.st (fun t kk => XS.astore H.here H.exec (g := mkF m pc L (x :: st)) rfl (H.dec hd) rfl hv hl kk) k
theorem G.iinc (H : Hs p l e R s m args below meth c Z a0 EL cw own n0 bytes maxL ret nm T h C S sf) {i : Nat} {cst : Int} {x v : Int32} {L' : Array Slot} {pc pc' : Nat} {L : Array Slot} {st : List Value} (hd : decode bytes pc = .ok (.iinc i cst, 3)) (hp : pc + 3 = pc') (hl : L[i]? = some (.val (.int x))) (hv : x + Int32.ofInt cst = v) (hl' : storeLocals L i (.int v) = some L') (k : Go p e below P (T.setTop (mkF m pc' L' (st)))) : Go p e below P (T.setTop (mkF m pc L (st))) := by
  subst hp; subst hv
  exact Go.st (fun t kk => XS.iinc H.here H.exec (g := mkF m pc L (st)) rfl (H.dec hd) hl hl' kk) k
theorem G.goto (H : Hs p l e R s m args below meth c Z a0 EL cw own n0 bytes maxL ret nm T h C S sf) {o : Int} {pc pc' : Nat} {L : Array Slot} {st : List Value} (hd : decode bytes pc = .ok (.goto o, 3)) (ho : 0 ≤ (pc : Int) + o) (hp : ((pc : Int) + o).toNat = pc') (k : Go p e below P (T.setTop (mkF m pc' L (st)))) : Go p e below P (T.setTop (mkF m pc L (st))) :=
  Go.st (fun t kk => XS.goto H.here H.exec (g := mkF m pc L (st)) rfl (pc0 := pc) rfl (H.dec hd) ho hp kk) k
theorem G.ifYes (H : Hs p l e R s m args below meth c Z a0 EL cw own n0 bytes maxL ret nm T h C S sf) {cd : ClassFile.Cond} {x : Int32} {o : Int} {pc pc' : Nat} {L : Array Slot} {st : List Value} (hd : decode bytes pc = .ok (.ifCond cd o, 3)) (hc : ifCond.holds cd x = true) (ho : 0 ≤ (pc : Int) + o) (hp : ((pc : Int) + o).toNat = pc') (k : Go p e below P (T.setTop (mkF m pc' L (st)))) : Go p e below P (T.setTop (mkF m pc L (.int x :: st))) :=
  Go.st (fun t kk => XS.ifYes H.here H.exec (g := mkF m pc L (.int x :: st)) rfl (pc0 := pc) rfl (H.dec hd) rfl hc ho hp kk) k
theorem G.icmpYes (H : Hs p l e R s m args below meth c Z a0 EL cw own n0 bytes maxL ret nm T h C S sf) {cd : ClassFile.Cond} {x y : Int32} {o : Int} {pc pc' : Nat} {L : Array Slot} {st : List Value} (hd : decode bytes pc = .ok (.if_icmp cd o, 3)) (hc : if_icmp.holds cd x y = true) (ho : 0 ≤ (pc : Int) + o) (hp : ((pc : Int) + o).toNat = pc') (k : Go p e below P (T.setTop (mkF m pc' L (st)))) : Go p e below P (T.setTop (mkF m pc L (.int y :: .int x :: st))) :=
  Go.st (fun t kk => XS.icmpYes H.here H.exec (g := mkF m pc L (.int y :: .int x :: st)) rfl (pc0 := pc) rfl (H.dec hd) rfl hc ho hp kk) k
theorem G.ifnullYes (H : Hs p l e R s m args below meth c Z a0 EL cw own n0 bytes maxL ret nm T h C S sf) {o : Int} {pc pc' : Nat} {L : Array Slot} {st : List Value} (hd : decode bytes pc = .ok (.ifnull o, 3)) (ho : 0 ≤ (pc : Int) + o) (hp : ((pc : Int) + o).toNat = pc') (k : Go p e below P (T.setTop (mkF m pc' L (st)))) : Go p e below P (T.setTop (mkF m pc L (.null :: st))) :=
  Go.st (fun t kk => XS.ifnullYes H.here H.exec (g := mkF m pc L (.null :: st)) rfl (pc0 := pc) rfl (H.dec hd) rfl ho hp kk) k
theorem G.ifnonnullYes (H : Hs p l e R s m args below meth c Z a0 EL cw own n0 bytes maxL ret nm T h C S sf) {b : Addr} {o : Int} {pc pc' : Nat} {L : Array Slot} {st : List Value} (hd : decode bytes pc = .ok (.ifnonnull o, 3)) (ho : 0 ≤ (pc : Int) + o) (hp : ((pc : Int) + o).toNat = pc') (k : Go p e below P (T.setTop (mkF m pc' L (st)))) : Go p e below P (T.setTop (mkF m pc L (.ref b :: st))) :=
  Go.st (fun t kk => XT.ifnonnullYes H.here H.exec (g := mkF m pc L (.ref b :: st)) rfl (pc0 := pc) rfl (H.dec hd) rfl ho hp kk) k
theorem G.acmpYes (H : Hs p l e R s m args below meth c Z a0 EL cw own n0 bytes maxL ret nm T h C S sf) {cd : ClassFile.ACond} {x y : Value} {o : Int} {pc pc' : Nat} {L : Array Slot} {st : List Value} (hd : decode bytes pc = .ok (.if_acmp cd o, 3)) (hx' : x.isRef = true) (hy' : y.isRef = true) (hc : XT.acmp cd x y = true) (ho : 0 ≤ (pc : Int) + o) (hp : ((pc : Int) + o).toNat = pc') (k : Go p e below P (T.setTop (mkF m pc' L (st)))) : Go p e below P (T.setTop (mkF m pc L (y :: x :: st))) :=
  Go.st (fun t kk => XT.acmpYes H.here H.exec (g := mkF m pc L (y :: x :: st)) rfl (pc0 := pc) rfl (H.dec hd) rfl hx' hy' hc ho hp kk) k
theorem G.ifNo (H : Hs p l e R s m args below meth c Z a0 EL cw own n0 bytes maxL ret nm T h C S sf) {cd : ClassFile.Cond} {o : Int} {x : Int32} {pc pc' : Nat} {L : Array Slot} {st : List Value} (hd : decode bytes pc = .ok (.ifCond cd o, 3)) (hp : pc + 3 = pc') (hc : ifCond.holds cd x = false) (k : Go p e below P (T.setTop (mkF m pc' L (st)))) : Go p e below P (T.setTop (mkF m pc L (.int x :: st))) := by
  subst hp
  exact Go.st (fun t kk => XS.ifNo H.here H.exec (g := mkF m pc L (.int x :: st)) rfl (H.dec hd) rfl hc kk) k
theorem G.icmpNo (H : Hs p l e R s m args below meth c Z a0 EL cw own n0 bytes maxL ret nm T h C S sf) {cd : ClassFile.Cond} {o : Int} {x y : Int32} {pc pc' : Nat} {L : Array Slot} {st : List Value} (hd : decode bytes pc = .ok (.if_icmp cd o, 3)) (hp : pc + 3 = pc') (hc : if_icmp.holds cd x y = false) (k : Go p e below P (T.setTop (mkF m pc' L (st)))) : Go p e below P (T.setTop (mkF m pc L (.int y :: .int x :: st))) := by
  subst hp
  exact Go.st (fun t kk => XS.icmpNo H.here H.exec (g := mkF m pc L (.int y :: .int x :: st)) rfl (H.dec hd) rfl hc kk) k
theorem G.ifnullNo (H : Hs p l e R s m args below meth c Z a0 EL cw own n0 bytes maxL ret nm T h C S sf) {o : Int} {b : Addr} {pc pc' : Nat} {L : Array Slot} {st : List Value} (hd : decode bytes pc = .ok (.ifnull o, 3)) (hp : pc + 3 = pc') (k : Go p e below P (T.setTop (mkF m pc' L (st)))) : Go p e below P (T.setTop (mkF m pc L (.ref b :: st))) := by
  subst hp
  exact Go.st (fun t kk => XS.ifnullNo H.here H.exec (g := mkF m pc L (.ref b :: st)) rfl (H.dec hd) rfl kk) k
theorem G.ifnonnullNo (H : Hs p l e R s m args below meth c Z a0 EL cw own n0 bytes maxL ret nm T h C S sf) {o : Int} {pc pc' : Nat} {L : Array Slot} {st : List Value} (hd : decode bytes pc = .ok (.ifnonnull o, 3)) (hp : pc + 3 = pc') (k : Go p e below P (T.setTop (mkF m pc' L (st)))) : Go p e below P (T.setTop (mkF m pc L (.null :: st))) := by
  subst hp
  exact Go.st (fun t kk => XT.ifnonnullNo H.here H.exec (g := mkF m pc L (.null :: st)) rfl (H.dec hd) rfl kk) k
theorem G.acmpNo (H : Hs p l e R s m args below meth c Z a0 EL cw own n0 bytes maxL ret nm T h C S sf) {cd : ClassFile.ACond} {o : Int} {x y : Value} {pc pc' : Nat} {L : Array Slot} {st : List Value} (hd : decode bytes pc = .ok (.if_acmp cd o, 3)) (hp : pc + 3 = pc') (hx' : x.isRef = true) (hy' : y.isRef = true) (hc : XT.acmp cd x y = false) (k : Go p e below P (T.setTop (mkF m pc' L (st)))) : Go p e below P (T.setTop (mkF m pc L (y :: x :: st))) := by
  subst hp
  exact Go.st (fun t kk => XT.acmpNo H.here H.exec (g := mkF m pc L (y :: x :: st)) rfl (H.dec hd) rfl hx' hy' hc kk) k
theorem G.tswIn (H : Hs p l e R s m args below meth c Z a0 EL cw own n0 bytes maxL ret nm T h C S sf) {dflt low high : Int} {offs : Array Int} {len : Nat} {o : Int} {i : Int32} {pc pc' : Nat} {L : Array Slot} {st : List Value} (hd : decode bytes pc = .ok (.tableswitch dflt low high offs, len)) (hin : ¬ (i.toInt < low ∨ i.toInt > high)) (hoff : offs[(i.toInt - low).toNat]? = some o) (ho : 0 ≤ (pc : Int) + o) (hp : ((pc : Int) + o).toNat = pc') (k : Go p e below P (T.setTop (mkF m pc' L st))) : Go p e below P (T.setTop (mkF m pc L (.int i :: st))) :=
  Go.st (fun t kk => XS.tswIn H.here H.exec (g := mkF m pc L (.int i :: st)) rfl (pc0 := pc) rfl (H.dec hd) rfl hin hoff ho hp kk) k
theorem G.tswOut (H : Hs p l e R s m args below meth c Z a0 EL cw own n0 bytes maxL ret nm T h C S sf) {dflt low high : Int} {offs : Array Int} {len : Nat} {i : Int32} {pc pc' : Nat} {L : Array Slot} {st : List Value} (hd : decode bytes pc = .ok (.tableswitch dflt low high offs, len)) (hout : i.toInt < low ∨ i.toInt > high) (ho : 0 ≤ (pc : Int) + dflt) (hp : ((pc : Int) + dflt).toNat = pc') (k : Go p e below P (T.setTop (mkF m pc' L st))) : Go p e below P (T.setTop (mkF m pc L (.int i :: st))) :=
  Go.st (fun t kk => XS.tswOut H.here H.exec (g := mkF m pc L (.int i :: st)) rfl (pc0 := pc) rfl (H.dec hd) rfl hout ho hp kk) k
/-! ## what makes or writes -/
theorem Hs.ext {T' : State} {h' : Heap} {C' S' : Nat} {vm0 : Vm} {k0 : Nat} {locs : List Loc} (H : Hs p l e R s m args below meth c Z a0 EL cw own n0 bytes maxL ret nm T h C S sf) (X' : Stand p l e R (s.setVm vm0) m args below meth c T' locs C' S') (e' : T'.heap = h') (E : Ext h h') (h2 : s.Since vm0 k0) (h3 : k0 ≤ h.size) (h4 : Z.Warmed39 vm0) (h5 : vm0.findClass own = some m.cls) (h6 : Fr n0 locs) (h7 : CHr Z EL s.vm s.heap vm0 h) (h8 : ∀ x ∈ sf, x < h.size ∧ Safe Z EL vm0 h x) (h9 : cw ∨ s.WarmedH vm0) (hO : Old Z n0 h) (hlt : h.size < h'.size) : Hs p l e R s m args below meth c Z a0 EL cw own n0 bytes maxL ret nm T' h' C' S' (h.size :: sf) :=
  ⟨H.1, vm0, k0, locs, X', e', h2, Nat.le_trans h3 E.1, h4, h5, h6, h7.trans (CHr.ext E h7.1), fun x hx => by
    rcases List.mem_cons.mp hx with rfl | hx
    · exact ⟨hlt, Safe.ext E h7.1 (Safe.new (Nat.le_refl _))⟩
    · exact ⟨Nat.lt_of_lt_of_le (h8 x hx).1 E.1, Safe.ext E h7.1 (h8 x hx).2⟩, h9, hO.ext E⟩
theorem G.new (H : Hs p l e R s m args below meth c Z a0 EL cw own n0 bytes maxL ret nm T h C S sf) {K : String} {index n : Nat} (w : (Cond.classLink own index K).before a0 Z = true) (wi : (Cond.instantiable K n).before a0 Z = true) (wz : (Cond.initialized K).before a0 Z = true) {pc pc' : Nat} {L : Array Slot} {st : List Value} (hd : decode bytes pc = .ok (.new index, 3)) (hp : pc + 3 = pc') (hc : C + 1 ≤ R.cells) (hl : S + n ≤ R.slots)
    (k : ∀ T' h' a, a = h.size → Hs p l e R s m args below meth c Z a0 EL cw own n0 bytes maxL ret nm T' h' (C + 1) (S + n) (a :: sf) → Ext h h' → Exa Z h' a K → (∀ {O nm' d : String} {ty : FieldType}, Laid Z a0 K O nm' d → parseFieldDescriptor d = some ty → Fld Z h' a O nm' d (defaultValue ty)) → Go p e below P (T'.setTop (mkF m pc' L (.ref a :: st)))) : Go p e below P (T.setTop (mkF m pc L st)) := by
  subst hp
  obtain ⟨hM, vm0, k0, locs, X, h1, h2, h3, h4, h5, h6, h7, h8, h9, hO⟩ := id H
  obtain ⟨T', h', X', e', E, A, D, -, st'⟩ := RoadKit.newO X H.exec h4 h5 w wi wz h1 (g := mkF m pc L st) rfl (H.dec hd) hc hl
  exact Go.st st' (k T' h' _ rfl (H.ext X' e' E h2 h3 h4 h5 h6 h7 h8 h9 hO A.lt) E A D)
theorem G.newP (H : Hs p l e R s m args below meth c Z a0 EL cw own n0 bytes maxL ret nm T h C S sf) {aty : ArrayType} (w : (Cond.arrayClass (newarray.typeOf aty)).before a0 Z = true) {z : Int32} {pc pc' : Nat} {L : Array Slot} {st : List Value} (hd : decode bytes pc = .ok (.newarray aty, 2)) (hp : pc + 2 = pc') (hn : ¬ z < 0) {cap : Nat} (hcap : z.toNatClampNeg ≤ cap) (hb : cap * 8 ≤ 536870912) (hc : C + 1 ≤ R.cells) (hl : S + cap ≤ R.slots) {vs : List Value} (hvs : List.replicate z.toNatClampNeg (defaultValue (newarray.typeOf aty)) = vs) {ad : String} (had : "[" ++ (newarray.typeOf aty).toString = ad)
    (k : ∀ T' h' a kc, a = h.size → Hs p l e R s m args below meth c Z a0 EL cw own n0 bytes maxL ret nm T' h' (C + 1) (S + cap) (a :: sf) → Ext h h' → Arv Z h' a kc (newarray.typeOf aty) z vs (defaultValue (newarray.typeOf aty)) → Exa Z h' a ad → Go p e below P (T'.setTop (mkF m pc' L (.ref a :: st)))) : Go p e below P (T.setTop (mkF m pc L (.int z :: st))) := by
  subst hp
  obtain ⟨hM, vm0, k0, locs, X, h1, h2, h3, h4, h5, h6, h7, h8, h9, hO⟩ := id H
  obtain ⟨T', h', cA, X', e', E, A, EX, st'⟩ := RoadKit.newPE X H.exec h4 w h1 (g := mkF m pc L (.int z :: st)) rfl (H.dec hd) rfl hn hcap hb hc hl had
  refine Go.st st' (k T' h' _ cA rfl (H.ext X' e' E h2 h3 h4 h5 h6 h7 h8 h9 hO A.lt) E ?_ EX)
  subst hvs
  exact (Arv.new A hn).pad (fun i => by simpa using pad_rep [] (defaultValue (newarray.typeOf aty)) z.toNatClampNeg i)
theorem G.newR (H : Hs p l e R s m args below meth c Z a0 EL cw own n0 bytes maxL ret nm T h C S sf) {K : String} {index : Nat} (w1 : (Cond.classLink own index K).before a0 Z = true) (w2 : (Cond.arrayOver (.object K)).before a0 Z = true) {z : Int32} {pc pc' : Nat} {L : Array Slot} {st : List Value} (hd : decode bytes pc = .ok (.anewarray index, 3)) (hp : pc + 3 = pc') (hn : ¬ z < 0) {cap : Nat} (hcap : z.toNatClampNeg ≤ cap) (hb : cap * 8 ≤ 536870912) (hc : C + 1 ≤ R.cells) (hl : S + cap ≤ R.slots) {vs : List Value} (hvs : List.replicate z.toNatClampNeg Value.null = vs) {ad : String} (had : "[" ++ (FieldType.object K).toString = ad)
    (k : ∀ T' h' a kc, a = h.size → Hs p l e R s m args below meth c Z a0 EL cw own n0 bytes maxL ret nm T' h' (C + 1) (S + cap) (a :: sf) → Ext h h' → Arv Z h' a kc (.object K) z vs .null → Exa Z h' a ad → Ovr Z kc K → Go p e below P (T'.setTop (mkF m pc' L (.ref a :: st)))) : Go p e below P (T.setTop (mkF m pc L (.int z :: st))) := by
  subst hp
  obtain ⟨hM, vm0, k0, locs, X, h1, h2, h3, h4, h5, h6, h7, h8, h9, hO⟩ := id H
  obtain ⟨T', h', cA, X', e', E, A, EX, O, st'⟩ := RoadKit.newRE X H.exec h4 h5 w1 w2 h1 (g := mkF m pc L (.int z :: st)) rfl (H.dec hd) rfl hn hcap hb hc hl had
  refine Go.st st' (k T' h' _ cA rfl (H.ext X' e' E h2 h3 h4 h5 h6 h7 h8 h9 hO A.lt) E ?_ EX O)
  subst hvs
  exact (Arv.new A hn).pad (fun i => by show (List.replicate z.toNatClampNeg Value.null).getD i Value.null = ([] : List Value).getD i Value.null; simpa using pad_rep [] Value.null z.toNatClampNeg i)
theorem Hs.wr {T' : State} {h' : Heap} {vm0 : Vm} {k0 : Nat} {locs : List Loc} {a : Addr} {sl : Nat} {v : Value} (H : Hs p l e R s m args below meth c Z a0 EL cw own n0 bytes maxL ret nm T h C S sf) (X' : Stand p l e R (s.setVm vm0) m args below meth c T' (locs ++ [⟨a, sl⟩]) C S) (e' : T'.heap = h') (W : Wr h h' a sl v) (q : n0 ≤ a) (sa : Safe Z EL vm0 h a) (h2 : s.Since vm0 k0) (h3 : k0 ≤ h.size) (h4 : Z.Warmed39 vm0) (h5 : vm0.findClass own = some m.cls) (h6 : Fr n0 locs) (h7 : CHr Z EL s.vm s.heap vm0 h) (h8 : ∀ x ∈ sf, x < h.size ∧ Safe Z EL vm0 h x) (h9 : cw ∨ s.WarmedH vm0) (hO : Old Z n0 h) : Hs p l e R s m args below meth c Z a0 EL cw own n0 bytes maxL ret nm T' h' C S sf :=
  ⟨H.1, vm0, k0, locs ++ [⟨a, sl⟩], X', e', h2, by rw [W.size]; exact h3, h4, h5, Fr.snoc X' h6 q, h7.trans (CHr.wr W sa h7.1), fun x hx => ⟨by rw [W.size]; exact (h8 x hx).1, Safe.wr W sa h7.1 (h8 x hx).2⟩, h9, hO.wr W q⟩
theorem G.putF (H : Hs p l e R s m args below meth c Z a0 EL cw own n0 bytes maxL ret nm T h C S sf) {R0 O n d K : String} {index kk : Nat} {ty : FieldType} (w : (Cond.fieldLink own index R0 n d).before a0 Z = true) (via : Via Z R0 O n d) {a : Addr} {v old : Value} (F : Fld Z h a O n d old) (E : Exa Z h a K) (Ly : (Cond.lays K O n d).before a0 Z = true ∨ ((Cond.laysFinal K O n d).before a0 Z = true ∧ own = O ∧ nm = "<init>")) (wi : (Cond.instantiable K kk).before a0 Z = true) (hty : parseFieldDescriptor d = some ty) (hn : narrow ty v = v) (hf : fits ty v = true) (hq : n0 ≤ a) (hsf : Sf Z EL h sf a) {pc pc' : Nat} {L : Array Slot} {st : List Value} (hd : decode bytes pc = .ok (.putfield index, 3)) (hp : pc + 3 = pc')
    (k : ∀ T' h', Hs p l e R s m args below meth c Z a0 EL cw own n0 bytes maxL ret nm T' h' C S sf → Wr h h' a (RoadKit.slotOf Z O n d) v → Go p e below P (T'.setTop (mkF m pc' L st))) : Go p e below P (T.setTop (mkF m pc L (v :: .ref a :: st))) := by
  subst hp
  obtain ⟨hM, vm0, k0, locs, X, h1, h2, h3, h4, h5, h6, h7, h8, h9, hO⟩ := id H
  obtain ⟨T', h', X', e', W, st'⟩ := RoadKit.putF X H.exec h4 (host := "") h5 (Or.inl w) via h1 F E (Ly.imp id (fun q => ⟨q.1, q.2.1, hM.2.2.2.2.2.2.1.trans q.2.2⟩)) wi hty hn hf (g := mkF m pc L (v :: .ref a :: st)) rfl rfl (H.dec hd)
  exact Go.st st' (k T' h' (H.wr X' e' W hq (hsf.safe h4 h8) h2 h3 h4 h5 h6 h7 h8 h9 hO) W)
theorem G.stI (H : Hs p l e R s m args below meth c Z a0 EL cw own n0 bytes maxL ret nm T h C S sf) {a : Addr} {kc : ClassId} {z : Int32} {vs : List Value} {dv : Value} (A : Arv Z h a kc .int z vs dv) {j x : Int32} (hj : ¬ j < 0 ∧ j < z) {i : Nat} (hi : j.toNatClampNeg = i) (hlt : i < vs.length) (hq : n0 ≤ a) {pc pc' : Nat} {L : Array Slot} {st : List Value} (hd : decode bytes pc = .ok (.iastore, 1)) (hp : pc + 1 = pc')
    (k : ∀ T' h', Hs p l e R s m args below meth c Z a0 EL cw own n0 bytes maxL ret nm T' h' C S sf → Wr h h' a i (.int x) → Arv Z h' a kc .int z (vs.set i (.int x)) dv → Go p e below P (T'.setTop (mkF m pc' L st))) : Go p e below P (T.setTop (mkF m pc L (.int x :: .int j :: .ref a :: st))) := by
  subst hp; subst hi
  obtain ⟨hM, vm0, k0, locs, X, h1, h2, h3, h4, h5, h6, h7, h8, h9, hO⟩ := id H
  obtain ⟨cl, Ar, q1, S1, q3, H1, G1⟩ := A
  obtain ⟨T', h', X', e', W, st'⟩ := RoadKit.stI X H.exec h4 h1 Ar (inb_of S1 hj) (g := mkF m pc L (.int x :: .int j :: .ref a :: st)) rfl rfl (H.dec hd)
  exact Go.st st' (k T' h' (H.wr X' e' W hq (Safe.arr h4.alike Ar (by decide)) h2 h3 h4 h5 h6 h7 h8 h9 hO) W (Arv.set Ar q1 S1 q3 H1 G1 rfl W _ rfl hlt))
theorem G.stC (H : Hs p l e R s m args below meth c Z a0 EL cw own n0 bytes maxL ret nm T h C S sf) {a : Addr} {kc : ClassId} {z : Int32} {vs : List Value} {dv : Value} (A : Arv Z h a kc .char z vs dv) {j x : Int32} (hj : ¬ j < 0 ∧ j < z) {i : Nat} (hi : j.toNatClampNeg = i) (hlt : i < vs.length) (hq : n0 ≤ a) {y : Int32} (hy : nar .char x = y) {pc pc' : Nat} {L : Array Slot} {st : List Value} (hd : decode bytes pc = .ok (.castore, 1)) (hp : pc + 1 = pc')
    (k : ∀ T' h', Hs p l e R s m args below meth c Z a0 EL cw own n0 bytes maxL ret nm T' h' C S sf → Wr h h' a i (.int y) → Arv Z h' a kc .char z (vs.set i (.int y)) dv → Go p e below P (T'.setTop (mkF m pc' L st))) : Go p e below P (T.setTop (mkF m pc L (.int x :: .int j :: .ref a :: st))) := by
  subst hp; subst hi; subst hy
  obtain ⟨hM, vm0, k0, locs, X, h1, h2, h3, h4, h5, h6, h7, h8, h9, hO⟩ := id H
  obtain ⟨cl, Ar, q1, S1, q3, H1, G1⟩ := A
  obtain ⟨T', h', X', e', W, st'⟩ := RoadKit.stC X H.exec h4 h1 Ar (inb_of S1 hj) (g := mkF m pc L (.int x :: .int j :: .ref a :: st)) rfl rfl (H.dec hd)
  exact Go.st st' (k T' h' (H.wr X' e' W hq (Safe.arr h4.alike Ar (by decide)) h2 h3 h4 h5 h6 h7 h8 h9 hO) W (Arv.set Ar q1 S1 q3 H1 G1 (fits_nar_char x) W _ rfl hlt))
theorem G.stB (H : Hs p l e R s m args below meth c Z a0 EL cw own n0 bytes maxL ret nm T h C S sf) {a : Addr} {kc : ClassId} {z : Int32} {vs : List Value} {dv : Value} (A : Arv Z h a kc .byte z vs dv) {j x : Int32} (hj : ¬ j < 0 ∧ j < z) {i : Nat} (hi : j.toNatClampNeg = i) (hlt : i < vs.length) (hq : n0 ≤ a) (hsf : Sf Z EL h sf a) {y : Int32} (hy : nar .byte x = y) {pc pc' : Nat} {L : Array Slot} {st : List Value} (hd : decode bytes pc = .ok (.bastore, 1)) (hp : pc + 1 = pc')
    (k : ∀ T' h', Hs p l e R s m args below meth c Z a0 EL cw own n0 bytes maxL ret nm T' h' C S sf → Wr h h' a i (.int y) → Arv Z h' a kc .byte z (vs.set i (.int y)) dv → Go p e below P (T'.setTop (mkF m pc' L st))) : Go p e below P (T.setTop (mkF m pc L (.int x :: .int j :: .ref a :: st))) := by
  subst hp; subst hi; subst hy
  obtain ⟨hM, vm0, k0, locs, X, h1, h2, h3, h4, h5, h6, h7, h8, h9, hO⟩ := id H
  obtain ⟨cl, Ar, q1, S1, q3, H1, G1⟩ := A
  obtain ⟨T', h', X', e', W, st'⟩ := RoadKit.stB X H.exec h4 h1 Ar (inb_of S1 hj) (g := mkF m pc L (.int x :: .int j :: .ref a :: st)) rfl rfl (H.dec hd)
  exact Go.st st' (k T' h' (H.wr X' e' W hq (hsf.safe h4 h8) h2 h3 h4 h5 h6 h7 h8 h9 hO) W (Arv.set Ar q1 S1 q3 H1 G1 (fits_nar_byte x) W _ rfl hlt))
theorem G.stR (H : Hs p l e R s m args below meth c Z a0 EL cw own n0 bytes maxL ret nm T h C S sf) {a : Addr} {kc : ClassId} {ty : FieldType} {z : Int32} {vs : List Value} {dv : Value} (A : Arv Z h a kc ty z vs dv) (hty : ty.isReference = true) {j : Int32} {v : Value} (F : Sto Z h a v) (hv : v.isRef = true) (hj : ¬ j < 0 ∧ j < z) {i : Nat} (hi : j.toNatClampNeg = i) (hlt : i < vs.length) (hq : n0 ≤ a) {pc pc' : Nat} {L : Array Slot} {st : List Value} (hd : decode bytes pc = .ok (.aastore, 1)) (hp : pc + 1 = pc')
    (k : ∀ T' h', Hs p l e R s m args below meth c Z a0 EL cw own n0 bytes maxL ret nm T' h' C S sf → Wr h h' a i v → Arv Z h' a kc ty z (vs.set i v) dv → Go p e below P (T'.setTop (mkF m pc' L st))) : Go p e below P (T.setTop (mkF m pc L (v :: .int j :: .ref a :: st))) := by
  subst hp; subst hi
  obtain ⟨hM, vm0, k0, locs, X, h1, h2, h3, h4, h5, h6, h7, h8, h9, hO⟩ := id H
  obtain ⟨cl, Ar, q1, S1, q3, H1, G1⟩ := A
  obtain ⟨T', h', X', e', W, st'⟩ := RoadKit.stR X H.exec h4 h1 Ar (inb_of S1 hj) hty F (g := mkF m pc L (v :: .int j :: .ref a :: st)) rfl rfl (H.dec hd)
  exact Go.st st' (k T' h' (H.wr X' e' W hq (Safe.arr h4.alike Ar (by intro q; rw [q] at hty; cases hty)) h2 h3 h4 h5 h6 h7 h8 h9 hO) W (Arv.set Ar q1 S1 q3 H1 G1 (by rcases ref_cases hv with rfl | ⟨b, rfl⟩ <;> cases ty <;> first | rfl | cases hty) W _ rfl hlt))
/-! ## a String constant -/
theorem Hs.rebase {T' : State} {h' : Heap} {C' S' : Nat} {vm0 : Vm} {k1 : Nat} {locs : List Loc} (H : Hs p l e R s m args below meth c Z a0 EL cw own n0 bytes maxL ret nm T h C S sf) (hcw : cw) (X' : Stand p l e R (s.setVm T'.vm) m args below meth c T' locs C' S') (e' : T'.heap = h') (h2 : s.Since T'.vm k1) (h3 : k1 ≤ h'.size) (h4 : Z.Warmed39 T'.vm) (h5 : T'.vm.findClass own = some m.cls) (h6 : Fr n0 locs) (h7 : CHr Z EL s.vm s.heap vm0 h) (h7' : CHr Z EL vm0 h T'.vm h') (h8 : ∀ x ∈ sf, x < h.size ∧ Safe Z EL vm0 h x) (hO : Old Z n0 h') : Hs p l e R s m args below meth c Z a0 EL cw own n0 bytes maxL ret nm T' h' C' S' sf :=
  ⟨H.1, T'.vm, k1, locs, X', e', h2, h3, h4, h5, h6, h7.trans h7', fun x hx => ⟨Nat.lt_of_lt_of_le (h8 x hx).1 h7'.2.1, h7'.safe (h8 x hx).1 (h8 x hx).2⟩, Or.inl hcw, hO⟩
theorem G.ldcS (H : Hs p l e R s m args below meth c Z a0 EL cw own n0 bytes maxL ret nm T h C S sf) (hcw : cw) (wS : ∀ a ∈ Bundle.stringAtoms, a.before a0 Z = true) {index : Nat} {text : String} (w : (Cond.stringLink own index text).before a0 Z = true) (hmem : (own, index) ∈ EL) {vs : List Value} {z : Int32} (ht : (∀ c ∈ text.toList, c.toNat < 256) ∧ text.toList.map (fun c => Value.int (Jvm.Lit.byteI c.toNat.toUInt16)) = vs) (hz : ¬ z < 0) (hl : z.toNatClampNeg = vs.length) {n : Nat} (hn : 4 * text.toList.length ≤ n) (hbig : n ≤ 536870912) (hc : C + 2 ≤ R.cells) (hl' : S + (n + 4) ≤ R.slots) {pc pc' : Nat} {L : Array Slot} {st : List Value} (hd : decode bytes pc = .ok (.ldc index, 2)) (hp : pc + 2 = pc')
    (k : ∀ T' h' a b kb, Hs p l e R s m args below meth c Z a0 EL cw own n0 bytes maxL ret nm T' h' (C + 2) (S + (n + 4)) sf → Ext h h' → Exa Z h' a "java/lang/String" → Fld Z h' a "java/lang/String" "coder" "B" (.int 0) → Fld Z h' a "java/lang/String" "value" "[B" (.ref b) → Arv Z h' b kb .byte z vs (.int 0) → (∀ x ∈ sf, x ≠ a ∧ x ≠ b) → Go p e below P (T'.setTop (mkF m pc' L (.ref a :: st)))) : Go p e below P (T.setTop (mkF m pc L st)) := by
  subst hp
  obtain ⟨hM, vm0, k0, locs, X, h1, h2, h3, h4, h5, h6, h7, h8, h9, hO⟩ := id H
  obtain ⟨a, T', h', k1, b, kb, X', e', E, s2, s3, s4, s5, F1, F2, F3, F4, -, -, h7', -, hne, st'⟩ := RoadKit.ldcCH X H.exec h4 h5 w wS h1 h2 h3 hM.2.1 hmem h7.1 ht hz hl (g := mkF m pc L st) rfl (H.dec hd) hn hbig hc hl'
  exact Go.st st' (k T' h' a b kb (H.rebase hcw X' e' s2 s3 s4 s5 h6 h7 h7' h8 (hO.ext E)) E F1 F2 F3 F4 (fun x hx => hne x (h7'.safe (h8 x hx).1 (h8 x hx).2)))
theorem G.ldcO (H : Hs p l e R s m args below meth c Z a0 EL cw own n0 bytes maxL ret nm T h C S sf) (hcw : cw) (wS : ∀ a ∈ Bundle.stringAtoms, a.before a0 Z = true) {index : Nat} {text : String} (w : (Cond.stringLink own index text).before a0 Z = true) {n : Nat} (hn : 4 * text.toList.length ≤ n) (hbig : n ≤ 536870912) (hc : C + 2 ≤ R.cells) (hl' : S + (n + 4) ≤ R.slots) {pc pc' : Nat} {L : Array Slot} {st : List Value} (hd : decode bytes pc = .ok (.ldc index, 2)) (hp : pc + 2 = pc')
    (k : ∀ T' h' a, Hs p l e R s m args below meth c Z a0 EL cw own n0 bytes maxL ret nm T' h' (C + 2) (S + (n + 4)) sf → Ext h h' → Go p e below P (T'.setTop (mkF m pc' L (.ref a :: st)))) : Go p e below P (T.setTop (mkF m pc L st)) := by
  subst hp
  obtain ⟨hM, vm0, k0, locs, X, h1, h2, h3, h4, h5, h6, h7, h8, h9, hO⟩ := id H
  obtain ⟨a, T', h', k1, X', e', E, s2, s3, s4, s5, h7', -, st'⟩ := RoadKit.ldcOH X H.exec h4 h5 w wS h1 h2 h3 hM.2.1 h7.1 (g := mkF m pc L st) rfl (H.dec hd) hn hbig hc hl'
  exact Go.st st' (k T' h' a (H.rebase hcw X' e' s2 s3 s4 s5 h6 h7 h7' h8 (hO.ext E)) E)
/-! ## the end of a method -/
def FinP (s : State) (below : List Frame) (Z : State) (EL : List (String × Nat)) (cw : Prop) (n0 Cm Sm : Nat) (Q : Option Value → Heap → List Addr → Prop) : State → Outcome → Prop := fun u o =>
  u.status = .running ∧ Ended u below o ∧ ∃ v L so, o = .returned v ∧ Q v u.heap so ∧ Old Z n0 u.heap ∧ Fr n0 L ∧ CHr Z EL s.vm s.heap u.vm u.heap ∧ (∀ x ∈ so, x < u.heap.size ∧ Safe Z EL u.vm u.heap x) ∧ ReturnedEndW s o u L Cm Sm ∧ (cw ∨ FrameEnd s o u L Cm Sm)
theorem Hs.leave (H : Hs p l e R s m args below meth c Z a0 EL cw own n0 bytes maxL ret nm T h C S sf) {Cm Sm : Nat} {Q : Option Value → Heap → List Addr → Prop} {v : Option Value} {so : List Addr} (hv : ret = none → v = none) (hQ : Q v h so) (hso : ∀ x ∈ so, x ∈ sf) (hC : C ≤ Cm) (hS : S ≤ Sm) :
    ∃ fs, (∀ (f : JFrame) (acts : List Action), f.method = m → f.locked = none → f.entered = [] → (doReturn e (T.setTop f) acts v).1 = T.setFrames fs) ∧ FinP s below Z EL cw n0 Cm Sm Q (T.setFrames fs) (.returned v) := by
  obtain ⟨hM, vm0, k0, locs, X, h1, h2, h3, h4, h5, h6, h7, h8, h9, hO⟩ := H
  obtain ⟨-, hEL, -, -, hret, hlocks, -, -⟩ := hM
  obtain ⟨fs, hr, hrun, hended, hW, hsame⟩ := X.leave (v := v) (fun q => hv (hret.symm.trans q)) hlocks
  have hk : k0 ≤ (T.setFrames fs).heap.size := by show k0 ≤ T.heap.size; rw [h1]; exact h3
  obtain ⟨w1, w2, w3⟩ := h2.ended (U := T.setFrames fs) hW hk hsame
  have A := CHv.at X h4 hEL h7.1
  refine ⟨fs, hr, hrun, hended, v, locs, so, rfl, ?_, ?_, h6, ?_, ?_, ⟨⟨v, rfl⟩, w1, w2, w3.mono hC hS⟩, ?_⟩
  · show Q v T.heap so; rw [h1]; exact hQ
  · show Old Z n0 T.heap; rw [h1]; exact hO
  · show CHr Z EL s.vm s.heap T.vm T.heap; rw [h1]; exact h7.trans A
  · intro x hx
    show x < T.heap.size ∧ Safe Z EL T.vm T.heap x
    rw [h1]; exact ⟨(h8 x (hso x hx)).1, A.safe (h8 x (hso x hx)).1 (h8 x (hso x hx)).2⟩
  · exact h9.imp id (fun q => ⟨⟨v, rfl⟩, State.WarmedH.trans (t := s.setVm vm0) q hW, w3.mono hC hS⟩)
theorem G.retG (H : Hs p l e R s m args below meth c Z a0 EL cw own n0 bytes maxL ret nm T h C S sf) {Cm Sm : Nat} {Q : Option Value → Heap → List Addr → Prop} {so : List Addr} {pc : Nat} {L : Array Slot} {w : Value} {t : FieldType} {i : Instr} {rest : List Value} (hret : ret = some t) (hn : narrow t w = w)
    (hi : (i = .ireturn ∧ (t = .int ∨ t = .boolean ∨ t = .byte ∨ t = .char ∨ t = .short) ∧ ∃ z, w = .int z) ∨ (i = .lreturn ∧ t = .long ∧ ∃ z, w = .long z) ∨ (i = .dreturn ∧ t = .double ∧ ∃ z, w = .double z) ∨ (i = .freturn ∧ t = .float ∧ ∃ z, w = .float z) ∨ (i = .areturn ∧ t.isReference = true ∧ w.isRef = true))
    (hd : decode bytes pc = .ok (i, 1)) (hso : ∀ x ∈ so, x ∈ sf) (hC : C ≤ Cm) (hS : S ≤ Sm) (hQ : Q (some w) h so) : Go p e below (FinP s below Z EL cw n0 Cm Sm Q) (T.setTop (mkF m pc L (w :: rest))) := by
  obtain ⟨fs, hr, hF⟩ := H.leave (Q := Q) (v := some w) (Cm := Cm) (Sm := Sm) (fun q => by rw [hret] at q; cases q) hQ hso hC hS
  obtain ⟨hM, vm0, k0, locs, X, -⟩ := id H
  exact ⟨_, _, retOut X H.exec (hM.2.2.2.2.1.trans hret) hn hi (H.dec hd) hr, hF⟩
theorem G.retI (H : Hs p l e R s m args below meth c Z a0 EL cw own n0 bytes maxL ret nm T h C S sf) {Cm Sm : Nat} {Q : Option Value → Heap → List Addr → Prop} {so : List Addr} {pc : Nat} {L : Array Slot} {z : Int32} {rest : List Value} (hret : ret = some .int) (hd : decode bytes pc = .ok (.ireturn, 1)) (hso : ∀ x ∈ so, x ∈ sf) (hC : C ≤ Cm) (hS : S ≤ Sm) (hQ : Q (some (.int z)) h so) : Go p e below (FinP s below Z EL cw n0 Cm Sm Q) (T.setTop (mkF m pc L (.int z :: rest))) :=
  G.retG H hret rfl (Or.inl ⟨rfl, Or.inl rfl, z, rfl⟩) hd hso hC hS hQ
theorem G.retN (H : Hs p l e R s m args below meth c Z a0 EL cw own n0 bytes maxL ret nm T h C S sf) {Cm Sm : Nat} {Q : Option Value → Heap → List Addr → Prop} {so : List Addr} {pc : Nat} {L : Array Slot} {z : Int32} {t : FieldType} {rest : List Value} (hret : ret = some t) (ht : t = .boolean ∨ t = .byte ∨ t = .char ∨ t = .short) (hd : decode bytes pc = .ok (.ireturn, 1)) (hso : ∀ x ∈ so, x ∈ sf) (hC : C ≤ Cm) (hS : S ≤ Sm) (hQ : Q (some (.int (nar t z))) h so) : Go p e below (FinP s below Z EL cw n0 Cm Sm Q) (T.setTop (mkF m pc L (.int z :: rest))) := by
  obtain ⟨fs, hr, hF⟩ := H.leave (Q := Q) (v := some (.int (nar t z))) (Cm := Cm) (Sm := Sm) (fun q => by rw [hret] at q; cases q) hQ hso hC hS
  obtain ⟨hM, vm0, k0, locs, X, -⟩ := id H
  exact ⟨_, _, RoadKit.retN X H.exec (hM.2.2.2.2.1.trans hret) ht (H.dec hd) hr, hF⟩
theorem G.retA (H : Hs p l e R s m args below meth c Z a0 EL cw own n0 bytes maxL ret nm T h C S sf) {Cm Sm : Nat} {Q : Option Value → Heap → List Addr → Prop} {so : List Addr} {pc : Nat} {L : Array Slot} {w : Value} {t : FieldType} {rest : List Value} (hret : ret = some t) (ht : t.isReference = true) (hw : w.isRef = true) (hd : decode bytes pc = .ok (.areturn, 1)) (hso : ∀ x ∈ so, x ∈ sf) (hC : C ≤ Cm) (hS : S ≤ Sm) (hQ : Q (some w) h so) : Go p e below (FinP s below Z EL cw n0 Cm Sm Q) (T.setTop (mkF m pc L (w :: rest))) :=
  G.retG H hret (by rcases ref_cases hw with rfl | ⟨a, rfl⟩ <;> cases t <;> first | rfl | cases ht) (Or.inr (Or.inr (Or.inr (Or.inr ⟨rfl, ht, hw⟩)))) hd hso hC hS hQ
theorem G.retV (H : Hs p l e R s m args below meth c Z a0 EL cw own n0 bytes maxL ret nm T h C S sf) {Cm Sm : Nat} {Q : Option Value → Heap → List Addr → Prop} {so : List Addr} {pc : Nat} {L : Array Slot} (hret : ret = none) (hd : decode bytes pc = .ok (.return_, 1)) (hso : ∀ x ∈ so, x ∈ sf) (hC : C ≤ Cm) (hS : S ≤ Sm) (hQ : Q none h so) : Go p e below (FinP s below Z EL cw n0 Cm Sm Q) (T.setTop (mkF m pc L [])) := by
  obtain ⟨fs, hr, hF⟩ := H.leave (Q := Q) (v := none) (Cm := Cm) (Sm := Sm) (fun _ => rfl) hQ hso hC hS
  obtain ⟨hM, vm0, k0, locs, X, -⟩ := id H
  exact ⟨_, _, X.returnOut H.exec (hM.2.2.2.2.1.trans hret) (H.dec hd) hr, hF⟩
/-! ## a method's contract -/
def Met (Z : State) (a0 : Array Value) (EL : List (String × Nat)) (cw : Prop) (n0 : Nat) (l : Launch) (y : MethodName) (bytes : ByteArray) (maxL : Nat) (ret : Option FieldType) (rm : Room) (as' : Array Value) (h : Heap) (sfI : List Addr) (Q : Option Value → Heap → List Addr → Prop) : Prop :=
  ∀ ws, MetFree l y (head1 (Cond.code y bytes maxL ret :: ws) rm) (fun a U => a = as' ∧ Z.Warmed39 U.vm ∧ U.heap = h ∧ CHv Z EL U.vm h ∧ ∀ x ∈ sfI, x < h.size ∧ Safe Z EL U.vm h x) (fun _ _ _ _ _ => True)
    (fun _ U o U' => ∃ v L so, o = .returned v ∧ Q v U'.heap so ∧ Old Z n0 U'.heap ∧ Fr n0 L ∧ CHr Z EL U.vm U.heap U'.vm U'.heap ∧ (∀ x ∈ so, x < U'.heap.size ∧ Safe Z EL U'.vm U'.heap x) ∧ ReturnedEndW U o U' L rm.cells rm.slots ∧ (cw ∨ FrameEnd U o U' L rm.cells rm.slots))
theorem Met.of {y : MethodName} {rm : Room} {as' : Array Value} {sfI : List Addr} {Q : Option Value → Heap → List Addr → Prop} {L0 : Array Slot} (hEL : EW Z a0 EL) (hpn : plainFor y = true) (hO : Old Z n0 h) (hL : Jvm.Sym.laidSlots as'.toList ++ List.replicate (maxL - (Jvm.Sym.laidSlots as'.toList).length) .unset = L0.toList)
    (body : ∀ (p : Program) (e : Env) (s : State) (m : MethodId) (below : List Frame) (meth : Method) (c : Code) (T : State), Hs p l e rm s m as' below meth c Z a0 EL cw y.cls n0 bytes maxL ret y.name T h 0 0 sfI → Go p e below (FinP s below Z EL cw n0 rm.cells rm.slots Q) (T.setTop (mkF m 0 L0 []))) : Met Z a0 EL cw n0 l y bytes maxL ret rm as' h sfI Q := by
  intro ws
  refine MetFree.of_bodySF hpn hisR ?_
  intro p e s m args below meth c s₁ Bd hml hP hK
  obtain ⟨rfl, hZ, hh, hC, hs⟩ := hP
  have X0 : Stand p l e rm (s.setVm s.vm) m args below meth c s₁ [] 0 0 := Stand.of_body Bd
  have e0 : s₁.heap = h := by rw [← hh, Bd.state]; rfl
  have H : Hs p l e rm s m args below meth c Z a0 EL cw y.cls n0 bytes maxL ret y.name s₁ h 0 0 sfI :=
    ⟨⟨Bd.exec, hEL, Bd.bytes, hml, Bd.returns, Bd.notSynchronized, (name_of_methodNamed Bd.named Bd.method).1, by rw [hh, ← hO.1]; exact hO.2.1⟩, s.vm, s.heap.size, [], X0, e0, (State.WarmedH.refl s).since _, by rw [hh]; exact Nat.le_refl _, hZ, findClass_of_methodNamed Bd.named, Fr.nil n0, by rw [hh]; exact CHr.refl hC, hs, Or.inr (State.WarmedH.refl s), hO⟩
  obtain ⟨u, o, h1, h2, h3, v, L, so, r1, r2, rO, r3, r4, r5, r6, r7⟩ := body p e s m below meth c s₁ H
  exact ⟨u, o, (XT.entry hL).trans h1, h2, h3, v, L, so, r1, r2, rO, r3, r4, r5, r6, r7⟩
theorem Met.backS {y : MethodName} {rm : Room} {as' : Array Value} {sfI : List Addr} {Q : Option Value → Heap → List Addr → Prop} {vm0 : Vm} {len W : Nat} (M : Met Z a0 EL cw n0 l y bytes maxL ret rm as' h sfI Q) (hEL : EW Z a0 EL) (hZ : Z.Warmed39 vm0) (wc : (Cond.code y bytes maxL ret).before a0 Z = true) (wz : (Cond.initialized y.cls).before a0 Z = true) (hf : rm.frames + 1 ≤ R.frames) (hl : W + (maxL + 11) + rm.locals ≤ R.locals) (H : CHv Z EL vm0 h) (hs : ∀ x ∈ sfI, x < h.size ∧ Safe Z EL vm0 h x) :
    BackS l R p e below (s.setVm vm0) args y len W (fun A a => a = as' ∧ A.U.heap = h ∧ A.cells + rm.cells ≤ R.cells ∧ A.slots + rm.slots ≤ R.slots)
      (fun A _ v B => ∃ L so, Q v B.U.heap so ∧ Old Z n0 B.U.heap ∧ Fr n0 L ∧ B.locs = A.locs ++ L ∧ B.cells = A.cells + rm.cells ∧ B.slots = A.slots + rm.slots ∧ CHr Z EL vm0 h B.U.vm B.U.heap ∧ (∀ x ∈ so, x < B.U.heap.size ∧ Safe Z EL B.U.vm B.U.heap x) ∧ (cw ∨ (s.setVm vm0).WarmedH B.U.vm)) :=
  BackS.of_freeW (bytes := bytes) (maxL := maxL) (ret := ret)
    (E := fun _ first o t L k n => k = rm.cells ∧ n = rm.slots ∧ ∃ v so, o = .returned v ∧ Q v t.heap so ∧ Old Z n0 t.heap ∧ Fr n0 L ∧ CHr Z EL first.vm first.heap t.vm t.heap ∧ (∀ x ∈ so, x < t.heap.size ∧ Safe Z EL t.vm t.heap x) ∧ (cw ∨ first.WarmedH t.vm))
    (M []) hf hl
    (fun m meth c A a Y hp => have hU : Z.Warmed39 A.U.vm := wtrans (s := s.setVm vm0) hZ Y.warmed
      ⟨by show (Cond.and _ .tt).before a A.U = true; rw [Cond.before_and, mv hU wc]; rfl, mv hU wc, mv hU wz, hp.2.2.1, hp.2.2.2⟩)
    (fun m meth c A a g mk Y hp => by
      have A1 := CHv.at Y hZ hEL H
      exact ⟨hp.1, wtrans (s := s.setVm vm0) hZ Y.warmed, hp.2.1, A1.1, fun x hx => ⟨(hs x hx).1, A1.safe (hs x hx).1 (hs x hx).2⟩⟩)
    (fun _ _ _ _ _ _ _ _ _ => trivial)
    (fun _ _ _ _ ⟨v, L, so, h1, h2, hO, h3, h4, h5, h6, h7⟩ => ⟨L, _, _, h6, rfl, rfl, v, so, h1, h2, hO, h3, h4, h5, h7.imp id (fun q => q.2.1)⟩)
    (fun m meth c A a g mk v t L k n Y hp _ _ ⟨e1, e2, v', so, e3, e4, eO, e5, e6, e7, e8⟩ => by
      cases e3; subst e1 e2
      refine ⟨L, so, e4, eO, e5, rfl, rfl, rfl, (CHv.at Y hZ hEL H).trans ?_, e7, e8.imp id (fun q => State.WarmedH.trans (t := A.U) Y.warmed q)⟩
      rw [← hp.2.1]; exact e6)
/-- behind a call -/
theorem Hs.behind {vm0 vm₁ : Vm} {k0 : Nat} {locs : List Loc} {B : Pt} {L' : List Loc} {so : List Addr} {kc ks : Nat} (H : Hs p l e R s m args below meth c Z a0 EL cw own n0 bytes maxL ret nm T h C S sf) (h2 : s.Since vm0 k0) (h3 : k0 ≤ h.size) (h4 : Z.Warmed39 vm0) (h5 : vm0.findClass own = some m.cls) (h6 : Fr n0 locs) (h7 : CHr Z EL s.vm s.heap vm0 h) (h8 : ∀ x ∈ sf, x < h.size ∧ Safe Z EL vm0 h x) (h9 : cw ∨ s.WarmedH vm0)
    (X' : Stand p l e R ((s.setVm vm0).setVm B.U.vm) m args below meth c B.U B.locs B.cells B.slots) (hS : (s.setVm vm0).Since B.U.vm B.U.heap.size) (hg : h.size ≤ B.U.heap.size) (r1 : Fr n0 L') (r2 : B.locs = locs ++ L') (r3 : B.cells = C + kc) (r4 : B.slots = S + ks) (r5 : CHr Z EL vm0 h B.U.vm B.U.heap) (r6 : ∀ x ∈ so, x < B.U.heap.size ∧ Safe Z EL B.U.vm B.U.heap x) (r7 : cw ∨ (s.setVm vm0).WarmedH B.U.vm) (rO : Old Z n0 B.U.heap) : Hs p l e R s m args below meth c Z a0 EL cw own n0 bytes maxL ret nm B.U B.U.heap (C + kc) (S + ks) (so ++ sf) := by
  obtain ⟨Y, y1, y2, y3⟩ := rebS (Z := Z) (own := own) h2 h3 X' hS hg h4 h5
  refine ⟨H.1, B.U.vm, B.U.heap.size, B.locs, by rw [← r3, ← r4]; exact Y, rfl, y1, Nat.le_refl _, y2, y3, by rw [r2]; exact Fr.app h6 r1, h7.trans r5, fun x hx => ?_, ?_, rO⟩
  · rcases List.mem_append.mp hx with hx | hx
    · exact r6 x hx
    · exact ⟨Nat.lt_of_lt_of_le (h8 x hx).1 hg, r5.safe (h8 x hx).1 (h8 x hx).2⟩
  · rcases h9 with q | q
    · exact Or.inl q
    · exact r7.imp id (fun r => State.WarmedH.trans (t := s.setVm vm0) q r)
theorem G.callS (H : Hs p l e R s m args below meth c Z a0 EL cw own n0 bytes maxL ret nm T h C S sf) {y : MethodName} {yb : ByteArray} {ym : Nat} {yr : Option FieldType} {rm : Room} {as' : Array Value} {sfI : List Addr} {Q : Option Value → Heap → List Addr → Prop} (M : Met Z a0 EL cw n0 l y yb ym yr rm as' h sfI Q) {index : Nat} (w1 : (Cond.methodLink own index y).before a0 Z = true) (w2 : (Cond.static y).before a0 Z = true) (wz : (Cond.initialized y.cls).before a0 Z = true) (wc : (Cond.code y yb ym yr).before a0 Z = true) (hy : y.cls ≠ "java/lang/invoke/MethodHandle" ∧ y.cls ≠ "java/lang/invoke/VarHandle")
    {argsL rest st : List Value} {W : Nat} {pc pc' : Nat} {L : Array Slot} (hL : L.size = maxL) (has : argsL.toArray = as') (hlen : ∀ sig, parseMethodDescriptor y.desc = some sig → argsL.length = sig.parameters.length) (hst : st = argsL.reverse ++ rest) (hW : (rest.map fun v => v.category).sum = W) (hd : decode bytes pc = .ok (.invokestatic index, 3)) (hp : pc + 3 = pc') (hf : rm.frames + 1 ≤ R.frames) (hl : W + (ym + 11) + rm.locals ≤ R.locals) (hc : C + rm.cells ≤ R.cells) (hsl : S + rm.slots ≤ R.slots) (hsf : ∀ x ∈ sfI, x ∈ sf)
    (k : ∀ T' h' v so, Hs p l e R s m args below meth c Z a0 EL cw own n0 bytes maxL ret nm T' h' (C + rm.cells) (S + rm.slots) (so ++ sf) → Q v h' so → Go p e below P (T'.setTop (mkF m pc' L (v.toList ++ rest)))) : Go p e below P (T.setTop (mkF m pc L st)) := by
  subst hp; subst has
  obtain ⟨hM, vm0, k0, locs, X, h1, h2, h3, h4, h5, h6, h7, h8, h9, hO⟩ := id H
  obtain ⟨v, vm₁, B, hw, X', hS, hg, ⟨L', so, q1, rO, r1, r2, r3, r4, r5, r6, r7⟩, st'⟩ := RoadKit.callSS X H.exec h5 (mvT (s := s.setVm vm0) h4 w1) (mvT (s := s.setVm vm0) h4 w2) (mvT (s := s.setVm vm0) h4 wz) (mvT (s := s.setVm vm0) h4 wc) hy (M.backS (W := W) hM.2.1 h4 wc wz hf hl h7.1 (fun x hx => h8 x (hsf x hx))) (g := mkF m pc L st) rfl (by rw [hM.2.2.2.1]; exact hL) hlen hst (by show 2 * 0 + _ ≤ _; omega) (H.dec hd) (fun _ _ => ⟨rfl, h1, hc, hsl⟩)
  rw [h1] at hg
  exact Go.tr st' (k _ _ v so (H.behind (vm₁ := vm₁) h2 h3 h4 h5 h6 h7 h8 h9 X' hS hg r1 r2 r3 r4 r5 r6 r7 rO) q1)
theorem G.callI (H : Hs p l e R s m args below meth c Z a0 EL cw own n0 bytes maxL ret nm T h C S sf) {y : MethodName} {yb : ByteArray} {ym : Nat} {rm : Room} {as' : Array Value} {sfI : List Addr} {Q : Option Value → Heap → List Addr → Prop} (M : Met Z a0 EL cw n0 l y yb ym none rm as' h sfI Q) {index : Nat} (hy1 : y.name = "<init>") (w1 : (Cond.methodLink own index y).before a0 Z = true) (w2 : (Cond.instanceMethod y).before a0 Z = true) (wz : (Cond.initialized y.cls).before a0 Z = true) (wc : (Cond.code y yb ym none).before a0 Z = true) (hy : y.cls ≠ "java/lang/invoke/MethodHandle" ∧ y.cls ≠ "java/lang/invoke/VarHandle")
    {a : Addr} {argsL rest st : List Value} {W : Nat} {pc pc' : Nat} {L : Array Slot} (hL : L.size = maxL) (has : (Value.ref a :: argsL).toArray = as') (hlen : ∀ sig, parseMethodDescriptor y.desc = some sig → argsL.length = sig.parameters.length) (hst : st = argsL.reverse ++ .ref a :: rest) (hW : (rest.map fun v => v.category).sum = W) (hd : decode bytes pc = .ok (.invokespecial index, 3)) (hp : pc + 3 = pc') (hf : rm.frames + 1 ≤ R.frames) (hl : W + (ym + 11) + rm.locals ≤ R.locals) (hc : C + rm.cells ≤ R.cells) (hsl : S + rm.slots ≤ R.slots) (hsf : ∀ x ∈ sfI, x ∈ sf)
    (k : ∀ T' h' v so, Hs p l e R s m args below meth c Z a0 EL cw own n0 bytes maxL ret nm T' h' (C + rm.cells) (S + rm.slots) (so ++ sf) → Q v h' so → Go p e below P (T'.setTop (mkF m pc' L (v.toList ++ rest)))) : Go p e below P (T.setTop (mkF m pc L st)) := by
  subst hp; subst has
  obtain ⟨hM, vm0, k0, locs, X, h1, h2, h3, h4, h5, h6, h7, h8, h9, hO⟩ := id H
  obtain ⟨v, vm₁, B, hw, X', hS, hg, ⟨L', so, q1, rO, r1, r2, r3, r4, r5, r6, r7⟩, st'⟩ := X.specialBackS H.exec hy1 h5 (mvT (s := s.setVm vm0) h4 w1) (mvT (s := s.setVm vm0) h4 w2) (mvT (s := s.setVm vm0) h4 wc) hy (M.backS (W := W) hM.2.1 h4 wc wz hf hl h7.1 (fun x hx => h8 x (hsf x hx))) (g := mkF m pc L st) rfl (by rw [hM.2.2.2.1]; exact hL) (Steps.refl _) (a := a) hlen hst (by show 2 * 0 + _ ≤ _; omega) (H.dec hd) (fun _ _ => ⟨rfl, h1, hc, hsl⟩)
  rw [h1] at hg
  exact Go.tr st' (k _ _ v so (H.behind (vm₁ := vm₁) h2 h3 h4 h5 h6 h7 h8 h9 X' hS hg r1 r2 r3 r4 r5 r6 r7 rO) q1)
theorem G.callV (H : Hs p l e R s m args below meth c Z a0 EL cw own n0 bytes maxL ret nm T h C S sf) {y z : MethodName} {D : String} {yb : ByteArray} {ym : Nat} {yr : Option FieldType} {rm : Room} {as' : Array Value} {sfI : List Addr} {Q : Option Value → Heap → List Addr → Prop} (M : Met Z a0 EL cw n0 l z yb ym yr rm as' h sfI Q) {index : Nat} (w1 : (Cond.methodLink own index y).before a0 Z = true) (w2 : (Cond.declares y).before a0 Z = true) (wn : ∀ s' : State, Z.Warmed39 s'.vm → NotFace s' y) (w3 : (Cond.selects D y z).before a0 Z = true) (w4 : (Cond.instanceMethod z).before a0 Z = true) (wz : (Cond.initialized z.cls).before a0 Z = true) (wc : (Cond.code z yb ym yr).before a0 Z = true) (hy : y.cls ≠ "java/lang/invoke/MethodHandle" ∧ y.cls ≠ "java/lang/invoke/VarHandle")
    {a : Addr} (E : Exa Z h a D) {argsL rest st : List Value} {W : Nat} {pc pc' : Nat} {L : Array Slot} (hL : L.size = maxL) (has : (Value.ref a :: argsL).toArray = as') (hlen : ∀ sig, parseMethodDescriptor y.desc = some sig → argsL.length = sig.parameters.length) (hst : st = argsL.reverse ++ .ref a :: rest) (hW : (rest.map fun v => v.category).sum = W) (hd : decode bytes pc = .ok (.invokevirtual index, 3)) (hp : pc + 3 = pc') (hf : rm.frames + 1 ≤ R.frames) (hl : W + (ym + 11) + rm.locals ≤ R.locals) (hc : C + rm.cells ≤ R.cells) (hsl : S + rm.slots ≤ R.slots) (hsf : ∀ x ∈ sfI, x ∈ sf)
    (k : ∀ T' h' v so, Hs p l e R s m args below meth c Z a0 EL cw own n0 bytes maxL ret nm T' h' (C + rm.cells) (S + rm.slots) (so ++ sf) → Q v h' so → Go p e below P (T'.setTop (mkF m pc' L (v.toList ++ rest)))) : Go p e below P (T.setTop (mkF m pc L st)) := by
  subst hp; subst has
  obtain ⟨hM, vm0, k0, locs, X, h1, h2, h3, h4, h5, h6, h7, h8, h9, hO⟩ := id H
  obtain ⟨cq, kq, qa, qb, qc⟩ := isOf (s := s.setVm vm0) h4 h1 E
  obtain ⟨v, vm₁, B, hw, X', hS, hg, ⟨L', so, q1, rO, r1, r2, r3, r4, r5, r6, r7⟩, st'⟩ := X.virtualBackS H.exec h5 (mvT (s := s.setVm vm0) h4 w1) (mvT (s := s.setVm vm0) h4 w2) (wn (s.setVm vm0) h4) (mvT (s := s.setVm vm0) h4 w3) (mvT (s := s.setVm vm0) h4 w4) hy (M.backS (W := W) hM.2.1 h4 wc wz hf hl h7.1 (fun x hx => h8 x (hsf x hx))) qa qc (g := mkF m pc L st) rfl (by rw [hM.2.2.2.1]; exact hL) (Steps.refl _) hlen hst (by show 2 * 0 + _ ≤ _; omega) (H.dec hd) (fun _ _ => ⟨rfl, h1, hc, hsl⟩)
  rw [h1] at hg
  exact Go.tr st' (k _ _ v so (H.behind (vm₁ := vm₁) h2 h3 h4 h5 h6 h7 h8 h9 X' hS hg r1 r2 r3 r4 r5 r6 r7 rO) q1)
theorem nf_sel {y : MethodName} {D : String} (w : (Cond.selects D y y).before a0 Z = true) : ∀ s' : State, Z.Warmed39 s'.vm → NotFace s' y := fun s' hZ => notFace_of_selects (args := #[]) (mvT (s := s') hZ w)
/-! ## numbers -/
theorem own_and255 (x : Int32) : ¬ (x &&& 255) < 0 ∧ ¬ (255 : Int32) < (x &&& 255) := by
  have h : (x &&& 255).toBitVec.toNat < 256 := by
    simp only [Int32.toBitVec_and, BitVec.toNat_and]
    exact Nat.lt_succ_of_le Nat.and_le_right
  have h2 : (x &&& 255).toInt = ((x &&& 255).toBitVec.toNat : Int) := by
    show (x &&& 255).toBitVec.toInt = _
    rw [BitVec.toInt_eq_toNat_of_lt (by omega)]
  rw [Int32.lt_iff_toInt_lt, Int32.lt_iff_toInt_lt, h2]
  have e0 : (0 : Int32).toInt = 0 := rfl
  have e1 : (255 : Int32).toInt = 255 := rfl
  omega
theorem own_u16 {x : Int32} (h : ¬ x < 0 ∧ ¬ (255 : Int32) < x) : ¬ x < 0 ∧ ¬ (65535 : Int32) < x := by
  obtain ⟨h0, h1⟩ := h
  rw [Int32.lt_iff_toInt_lt] at h0 h1
  refine ⟨by rw [Int32.lt_iff_toInt_lt]; exact h0, ?_⟩
  rw [Int32.lt_iff_toInt_lt]
  have e1 : (255 : Int32).toInt = 255 := rfl
  have e2 : (65535 : Int32).toInt = 65535 := rfl
  omega
theorem own_c16 {x : Int32} (h : ¬ x < 0 ∧ ¬ (65535 : Int32) < x) : x.toUInt32.toUInt16.toUInt32.toInt32 = x := by
  obtain ⟨h0, h1⟩ := h
  rw [Int32.lt_iff_toInt_lt] at h0 h1
  have e0 : (0 : Int32).toInt = 0 := rfl
  have e2 : (65535 : Int32).toInt = 65535 := rfl
  have hb : x.toBitVec.toNat < 65536 := by
    have q : x.toBitVec.toInt = x.toInt := rfl
    have r := BitVec.toInt_eq_toNat_cond x.toBitVec
    split at r <;> omega
  apply Int32.toBitVec_inj.mp
  apply BitVec.eq_of_toNat_eq
  have e : x.toUInt32.toUInt16.toUInt32.toInt32.toBitVec.toNat = x.toUInt32.toUInt16.toUInt32.toNat := rfl
  rw [e, UInt16.toNat_toUInt32, UInt32.toNat_toUInt16]
  show x.toBitVec.toNat % 2 ^ 16 = _
  omega
theorem own_narC {x : Int32} (h : ¬ x < 0 ∧ ¬ (65535 : Int32) < x) : nar .char x = x := own_c16 h
theorem own_bool {x : Int32} (h : x = 0 ∨ x = 1) : nar .boolean x = x := by rcases h with rfl | rfl <;> rfl
theorem own_and255L (x : Int64) : ¬ (x &&& 255).toInt32 < 0 ∧ ¬ (255 : Int32) < (x &&& 255).toInt32 := by
  have h : (x &&& 255).toBitVec.toNat < 256 := by
    simp only [Int64.toBitVec_and, BitVec.toNat_and]
    exact Nat.lt_succ_of_le Nat.and_le_right
  have h1 : (x &&& 255).toInt32.toBitVec.toNat = (x &&& 255).toBitVec.toNat := by
    rw [Int64.toBitVec_toInt32, BitVec.signExtend_eq_setWidth_of_le _ (by decide), BitVec.toNat_setWidth]
    exact Nat.mod_eq_of_lt (by omega)
  have h2 : (x &&& 255).toInt32.toInt = ((x &&& 255).toInt32.toBitVec.toNat : Int) := by
    show (x &&& 255).toInt32.toBitVec.toInt = _
    rw [BitVec.toInt_eq_toNat_of_lt (by omega)]
  rw [Int32.lt_iff_toInt_lt, Int32.lt_iff_toInt_lt, h2, h1]
  have e0 : (0 : Int32).toInt = 0 := rfl
  have e1 : (255 : Int32).toInt = 255 := rfl
  omega
theorem own_rem {x : Int32} {k : Int32} (hk : 0 < k.toInt) : 0 ≤ ((x &&& 2147483647) % k).toInt ∧ ((x &&& 2147483647) % k).toInt < k.toInt := by
  have h : (x &&& 2147483647).toBitVec.toNat < 2 ^ 31 := by
    simp only [Int32.toBitVec_and, BitVec.toNat_and]
    exact Nat.lt_of_le_of_lt Nat.and_le_right (by decide)
  have h2 : (x &&& 2147483647).toInt = ((x &&& 2147483647).toBitVec.toNat : Int) := by
    show (x &&& 2147483647).toBitVec.toInt = _
    rw [BitVec.toInt_eq_toNat_of_lt (by omega)]
  rw [Int32.toInt_mod, h2]
  exact ⟨Int.tmod_nonneg _ (by omega), Int.tmod_lt_of_pos _ hk⟩
theorem own_andn (x k : Int32) (n : Nat) (hn : k.toBitVec.toNat = n) (h31 : n < 2 ^ 31) : 0 ≤ (x &&& k).toInt ∧ (x &&& k).toInt ≤ n := by
  have h : (x &&& k).toBitVec.toNat ≤ n := by
    simp only [Int32.toBitVec_and, BitVec.toNat_and]
    rw [← hn]; exact Nat.and_le_right
  have h2 : (x &&& k).toInt = ((x &&& k).toBitVec.toNat : Int) := by
    show (x &&& k).toBitVec.toInt = _
    rw [BitVec.toInt_eq_toNat_of_lt (by omega)]
  rw [h2]; omega
theorem own_and3 (x : Int32) : x &&& 3 = 0 ∨ x &&& 3 = 1 ∨ x &&& 3 = 2 ∨ x &&& 3 = 3 := by
  obtain ⟨h1, h2⟩ := own_andn x 3 3 rfl (by decide)
  generalize x &&& 3 = k at h1 h2
  have key : ∀ j : Int32, k.toInt = j.toInt → k = j := fun j h => Int32.toInt_inj.mp h
  have hs : k.toInt = 0 ∨ k.toInt = 1 ∨ k.toInt = 2 ∨ k.toInt = 3 := by omega
  rcases hs with h | h | h | h
  · exact Or.inl (key 0 h)
  · exact Or.inr (Or.inl (key 1 h))
  · exact Or.inr (Or.inr (Or.inl (key 2 h)))
  · exact Or.inr (Or.inr (Or.inr (key 3 h)))
/-! ## small words -/
theorem sto_of {a y : Addr} {kc : ClassId} {ty : FieldType} {z : Int32} {vs : List Value} {dv : Value} {K : String} (A : Arv Z h a kc ty z vs dv) (O : Ovr Z kc K) (I : Ins Z h y K true) : Sto Z h a (.ref y) := by
  obtain ⟨cl, Ar, q, -⟩ := A; exact Sto.ofV Ar q O I
theorem own_pnZ {x : Int32} (h : x = 0 ∨ x = 1) : narrow .boolean (.int x) = .int x := by rcases h with rfl | rfl <;> rfl
theorem own_pfZ {x : Int32} (h : x = 0 ∨ x = 1) : fits .boolean (.int x) = true := by rcases h with rfl | rfl <;> rfl
theorem own_pnC {x : Int32} (h : ¬ x < 0 ∧ ¬ (65535 : Int32) < x) : narrow .char (.int x) = .int x := by
  show Value.int (x.toUInt32.toUInt16.toUInt32.toInt32) = _; rw [own_c16 h]
theorem own_pfC {x : Int32} (h : ¬ x < 0 ∧ ¬ (65535 : Int32) < x) : fits .char (.int x) = true := by
  have q := fits_nar_char x; rw [own_narC h] at q; exact q
theorem own_pnA {v : Value} {ty : FieldType} (hv : v.isRef = true) (ht : ty.isReference = true) : narrow ty v = v := by
  rcases ref_cases hv with rfl | ⟨a, rfl⟩ <;> cases ty <;> first | rfl | cases ht
theorem own_pfA {v : Value} {ty : FieldType} (hv : v.isRef = true) (ht : ty.isReference = true) : fits ty v = true := by
  rcases ref_cases hv with rfl | ⟨a, rfl⟩ <;> cases ty <;> first | rfl | cases ht
theorem cb0 : ∀ c ∈ ([] : List Int32), ¬ c < 0 ∧ ¬ (255 : Int32) < c := fun _ q => nomatch q
theorem cbS {x : Int32} {xs : List Int32} (q : ¬ x < 0 ∧ ¬ (255 : Int32) < x) (r : ∀ c ∈ xs, ¬ c < 0 ∧ ¬ (255 : Int32) < c) : ∀ c ∈ x :: xs, ¬ c < 0 ∧ ¬ (255 : Int32) < c := fun c hc => by
  rcases List.mem_cons.mp hc with rfl | hc
  · exact q
  · exact r c hc
/-- a Latin-1 String and its bytes -/
def Str (Z : State) (h : Heap) (a t : Addr) (kb : ClassId) (cs : List Int32) : Prop :=
  Exa Z h a "java/lang/String" ∧ Fld Z h a "java/lang/String" "coder" "B" (.int 0) ∧ Fld Z h a "java/lang/String" "value" "[B" (.ref t) ∧ Arv Z h t kb .byte (Int32.ofNat cs.length) (cs.map fun c => Value.int c.toInt8.toInt32) (.int 0) ∧ (∀ c ∈ cs, ¬ c < 0 ∧ ¬ (255 : Int32) < c) ∧ cs.length ≤ 4000
theorem Str.ext {h' : Heap} {a t : Addr} {kb : ClassId} {cs : List Int32} (E : Ext h h') (F : Str Z h a t kb cs) : Str Z h' a t kb cs := ⟨F.1.ext E, F.2.1.ext E, F.2.2.1.ext E, F.2.2.2.1.ext E, F.2.2.2.2⟩
theorem Str.keep {h' : Heap} {a t : Addr} {kb : ClassId} {cs : List Int32} {ws : List Addr} (F : Str Z h a t kb cs) (K : Keep h h' ws) (q : a ∉ ws) (r : t ∉ ws) : Str Z h' a t kb cs := ⟨F.1.keep K, F.2.1.keep K q, F.2.2.1.keep K q, F.2.2.2.1.keep K r, F.2.2.2.2⟩
theorem Str.other {h' : Heap} {a t w : Addr} {sl : Nat} {v : Value} {kb : ClassId} {cs : List Int32} (W : Wr h h' w sl v) (F : Str Z h a t kb cs) (q : a ≠ w) (r : t ≠ w) : Str Z h' a t kb cs := ⟨F.1.wr W, F.2.1.other W (Or.inl q), F.2.2.1.other W (Or.inl q), F.2.2.2.1.other W r, F.2.2.2.2⟩
theorem own_fldeq {args : Array Value} {t : Term} {K n d : String} {i : Int32} {x : Addr} (ev : t.eval args Z none [] Z = some (.ref x)) (hq : (Cond.eq (Term.field t K n d) (Term.int i)).value args Z none Z [] = some true) : Fld Z Z.heap x K n d (.int i) := by
  obtain ⟨u, w, hu, hw, k1, k2⟩ := cmp_v (Or.inl hq)
  have e1 : (Term.int i).eval args Z none [] Z = some (.int i) := Term.int_eval i
  cases e1.symm.trans hw
  obtain ⟨z, rfl⟩ := k2
  have e2 : z = i := gotT (Cond.eq_ints hu e1) hq
  subst e2
  exact Fld.start ((fld_at ev).symm.trans hu)
theorem arv_tyne {a b : Addr} {k1 k2 : ClassId} {t1 t2 : FieldType} {z1 z2 : Int32} {v1 v2 : List Value} {d1 d2 : Value} (A : Arv Z h a k1 t1 z1 v1 d1) (B : Arv Z h b k2 t2 z2 v2 d2) (q : t1 ≠ t2) : a ≠ b := fun e => by
  subst e
  obtain ⟨c1, ⟨a1, ⟨a2, kA, a3, compA, a4⟩, -⟩, -⟩ := A
  obtain ⟨c2, ⟨b1, ⟨b2, kB, b3, compB, b4⟩, -⟩, -⟩ := B
  cases a1.symm.trans b1
  cases a3.symm.trans b3
  have := a4.symm.trans b4
  injection this with _ e
  exact q e
/-! ## a call that a law of the pasted kind pays, the heap as it was -/
theorem G.pureV (H : Hs p l e R s m args below meth c Z a0 EL cw own n0 bytes maxL ret nm T h C S sf) {y : MethodName} {D : String} {Qv : Option Value → Prop} {as' : Array Value} {W : Nat} (hB : ∀ s' : State, Z.Warmed39 s'.vm → Back l R p e below s' args y 3 W (fun P a => a = as' ∧ P.U.heap = h ∧ P.cells + 0 ≤ R.cells ∧ P.slots + 0 ≤ R.slots) (fun P _ v B => ∃ L, (Qv v ∧ L = [] ∧ B.U.heap = h) ∧ B.locs = P.locs ++ L ∧ B.cells = P.cells + 0 ∧ B.slots = P.slots + 0))
    {index : Nat} (w1 : (Cond.methodLink own index y).before a0 Z = true) (w2 : (Cond.declares y).before a0 Z = true) (w3 : (Cond.selects D y y).before a0 Z = true) (w4 : (Cond.instanceMethod y).before a0 Z = true) (hy : y.cls ≠ "java/lang/invoke/MethodHandle" ∧ y.cls ≠ "java/lang/invoke/VarHandle")
    {a : Addr} (E : Exa Z h a D) {argsL rest st : List Value} {pc pc' : Nat} {L : Array Slot} (hL : L.size = maxL) (has : (Value.ref a :: argsL).toArray = as') (hlen : ∀ sig, parseMethodDescriptor y.desc = some sig → argsL.length = sig.parameters.length) (hst : st = argsL.reverse ++ .ref a :: rest) (hW : (rest.map fun v => v.category).sum = W) (hd : decode bytes pc = .ok (.invokevirtual index, 3)) (hp : pc + 3 = pc') (hc : C ≤ R.cells) (hsl : S ≤ R.slots)
    (k : ∀ T' v, Hs p l e R s m args below meth c Z a0 EL cw own n0 bytes maxL ret nm T' h C S sf → Qv v → Go p e below P (T'.setTop (mkF m pc' L (v.toList ++ rest)))) : Go p e below P (T.setTop (mkF m pc L st)) := by
  subst hp; subst has
  obtain ⟨hM, vm0, k0, locs, X, h1, h2, h3, h4, h5, h6, h7, h8, h9, hO⟩ := id H
  obtain ⟨cq, kq, qa, qb, qc⟩ := isOf (s := s.setVm vm0) h4 h1 E
  obtain ⟨v, vm₁, B, hw, X', ⟨L', ⟨q1, q2, q3⟩, r2, r3, r4⟩, st'⟩ := X.virtualBack H.exec h5 (mvT (s := s.setVm vm0) h4 w1) (mvT (s := s.setVm vm0) h4 w2) (notFace_of_selects (args := #[]) (mvT (s := s.setVm vm0) h4 w3)) (mvT (s := s.setVm vm0) h4 w3) (mvT (s := s.setVm vm0) h4 w4) hy (hB (s.setVm vm0) h4) qa qc (g := mkF m pc L st) rfl (by rw [hM.2.2.2.1]; exact hL) (Steps.refl _) hlen hst (by show 2 * 0 + _ ≤ _; omega) (H.dec hd) (fun _ _ => ⟨rfl, h1, hc, hsl⟩)
  subst q2
  refine Go.tr st' (k B.U v ⟨hM, vm0, k0, locs, ?_, q3, h2, h3, h4, h5, h6, h7, h8, h9, hO⟩ q1)
  have e1 : B.locs = locs := by rw [r2]; exact List.append_nil _
  have e2 : B.cells = C := r3
  have e3 : B.slots = S := r4
  rw [← e1, ← e2, ← e3]; exact X'
/-! ## calls through an interface, of an inherited method, of a private one -/
theorem G.callF (H : Hs p l e R s m args below meth c Z a0 EL cw own n0 bytes maxL ret nm T h C S sf) {xi z : MethodName} {D : String} {yb : ByteArray} {ym : Nat} {yr : Option FieldType} {rm : Room} {as' : Array Value} {sfI : List Addr} {Q : Option Value → Heap → List Addr → Prop} (M : Met Z a0 EL cw n0 l z yb ym yr rm as' h sfI Q) {index : Nat} {count : Nat} (w1 : (Cond.methodLink own index xi).before a0 Z = true) (w2 : (Cond.declares xi).before a0 Z = true) (w5 : ∀ (s' : State) (aa : Array Value), Z.Warmed39 s'.vm → (Cond.interfaceMethod xi.cls xi.cls xi.name xi.desc).before aa s' = true) (w3 : (Cond.selects D xi z).before a0 Z = true) (w4 : (Cond.instanceMethod z).before a0 Z = true) (w6 : (Cond.publicMethod z).before a0 Z = true) (w7 : (Cond.unhidden D xi.name xi.desc).before a0 Z = true) (w8 : (Cond.castable D xi.cls).before a0 Z = true) (wz : (Cond.initialized z.cls).before a0 Z = true) (wc : (Cond.code z yb ym yr).before a0 Z = true) (hy : xi.cls ≠ "java/lang/invoke/MethodHandle" ∧ xi.cls ≠ "java/lang/invoke/VarHandle")
    {a : Addr} (E : Exa Z h a D) {argsL rest st : List Value} {W : Nat} {pc pc' : Nat} {L : Array Slot} (hL : L.size = maxL) (has : (Value.ref a :: argsL).toArray = as') (hlen : ∀ sig, parseMethodDescriptor xi.desc = some sig → argsL.length = sig.parameters.length) (hst : st = argsL.reverse ++ .ref a :: rest) (hW : (rest.map fun v => v.category).sum = W) (hd : decode bytes pc = .ok (.invokeinterface index count, 5)) (hp : pc + 5 = pc') (hf : rm.frames + 1 ≤ R.frames) (hl : W + (ym + 11) + rm.locals ≤ R.locals) (hc : C + rm.cells ≤ R.cells) (hsl : S + rm.slots ≤ R.slots) (hsf : ∀ x ∈ sfI, x ∈ sf)
    (k : ∀ T' h' v so, Hs p l e R s m args below meth c Z a0 EL cw own n0 bytes maxL ret nm T' h' (C + rm.cells) (S + rm.slots) (so ++ sf) → Q v h' so → Go p e below P (T'.setTop (mkF m pc' L (v.toList ++ rest)))) : Go p e below P (T.setTop (mkF m pc L st)) := by
  subst hp; subst has
  obtain ⟨hM, vm0, k0, locs, X, h1, h2, h3, h4, h5, h6, h7, h8, h9, hO⟩ := id H
  obtain ⟨cq, kq, qa, qb, qc⟩ := isOf (s := s.setVm vm0) h4 h1 E
  obtain ⟨v, vm₁, B, hw, X', hS, hg, ⟨L', so, q1, rO, r1, r2, r3, r4, r5, r6, r7⟩, st'⟩ := X.interfaceBackS H.exec h5 (mvT (s := s.setVm vm0) h4 w1) (mvT (s := s.setVm vm0) h4 w2) (w5 (s.setVm vm0) args h4) (mvT (s := s.setVm vm0) h4 w3) (mvT (s := s.setVm vm0) h4 w4) (mvT (s := s.setVm vm0) h4 w6) (mvT (s := s.setVm vm0) h4 w7) (mvT (s := s.setVm vm0) h4 w8) hy (M.backS (W := W) hM.2.1 h4 wc wz hf hl h7.1 (fun x hx => h8 x (hsf x hx))) qa qb qc (g := mkF m pc L st) rfl (by rw [hM.2.2.2.1]; exact hL) (Steps.refl _) hlen hst (by show 2 * 0 + _ ≤ _; omega) (H.dec hd) (fun _ _ => ⟨rfl, h1, hc, hsl⟩)
  rw [h1] at hg
  exact Go.tr st' (k _ _ v so (H.behind (vm₁ := vm₁) h2 h3 h4 h5 h6 h7 h8 h9 X' hS hg r1 r2 r3 r4 r5 r6 r7 rO) q1)

theorem G.callFU (H : Hs p l e R s m args below meth c Z a0 EL cw own n0 bytes maxL ret nm T h C S sf) {xi z : MethodName} {D J : String} {yb : ByteArray} {ym : Nat} {yr : Option FieldType} {rm : Room} {as' : Array Value} {sfI : List Addr} {Q : Option Value → Heap → List Addr → Prop} (M : Met Z a0 EL cw n0 l z yb ym yr rm as' h sfI Q) {index : Nat} {count : Nat} (w1 : (Cond.methodLink own index xi).before a0 Z = true) (w2 : (Cond.declares ⟨J, xi.name, xi.desc⟩).before a0 Z = true) (w9 : (Cond.publicMethod ⟨J, xi.name, xi.desc⟩).before a0 Z = true) (w5 : ∀ (s' : State) (aa : Array Value), Z.Warmed39 s'.vm → (Cond.interfaceMethod xi.cls J xi.name xi.desc).before aa s' = true) (hxo : xi.cls ≠ J) (w3 : (Cond.selects D xi z).before a0 Z = true) (w4 : (Cond.instanceMethod z).before a0 Z = true) (w6 : (Cond.publicMethod z).before a0 Z = true) (w7 : (Cond.unhidden D xi.name xi.desc).before a0 Z = true) (w8 : (Cond.castable D xi.cls).before a0 Z = true) (wz : (Cond.initialized z.cls).before a0 Z = true) (wc : (Cond.code z yb ym yr).before a0 Z = true) (hy : xi.cls ≠ "java/lang/invoke/MethodHandle" ∧ xi.cls ≠ "java/lang/invoke/VarHandle")
    {a : Addr} (E : Exa Z h a D) {argsL rest st : List Value} {W : Nat} {pc pc' : Nat} {L : Array Slot} (hL : L.size = maxL) (has : (Value.ref a :: argsL).toArray = as') (hlen : ∀ sig, parseMethodDescriptor xi.desc = some sig → argsL.length = sig.parameters.length) (hst : st = argsL.reverse ++ .ref a :: rest) (hW : (rest.map fun v => v.category).sum = W) (hd : decode bytes pc = .ok (.invokeinterface index count, 5)) (hp : pc + 5 = pc') (hf : rm.frames + 1 ≤ R.frames) (hl : W + (ym + 11) + rm.locals ≤ R.locals) (hc : C + rm.cells ≤ R.cells) (hsl : S + rm.slots ≤ R.slots) (hsf : ∀ x ∈ sfI, x ∈ sf)
    (k : ∀ T' h' v so, Hs p l e R s m args below meth c Z a0 EL cw own n0 bytes maxL ret nm T' h' (C + rm.cells) (S + rm.slots) (so ++ sf) → Q v h' so → Go p e below P (T'.setTop (mkF m pc' L (v.toList ++ rest)))) : Go p e below P (T.setTop (mkF m pc L st)) := by
  subst hp; subst has
  obtain ⟨hM, vm0, k0, locs, X, h1, h2, h3, h4, h5, h6, h7, h8, h9, hO⟩ := id H
  obtain ⟨cq, kq, qa, qb, qc⟩ := isOf (s := s.setVm vm0) h4 h1 E
  obtain ⟨v, vm₁, B, hw, X', hS, hg, ⟨L', so, q1, rO, r1, r2, r3, r4, r5, r6, r7⟩, st'⟩ := interfaceBackUpS X H.exec h5 (mvT (s := s.setVm vm0) h4 w1) (mvT (s := s.setVm vm0) h4 w2) (mvT (s := s.setVm vm0) h4 w9) (w5 (s.setVm vm0) args h4) hxo (mvT (s := s.setVm vm0) h4 w3) (mvT (s := s.setVm vm0) h4 w4) (mvT (s := s.setVm vm0) h4 w6) (mvT (s := s.setVm vm0) h4 w7) (mvT (s := s.setVm vm0) h4 w8) hy (M.backS (W := W) hM.2.1 h4 wc wz hf hl h7.1 (fun x hx => h8 x (hsf x hx))) qa qb qc (g := mkF m pc L st) rfl (by rw [hM.2.2.2.1]; exact hL) (Steps.refl _) hlen hst (by show 2 * 0 + _ ≤ _; omega) (H.dec hd) (fun _ _ => ⟨rfl, h1, hc, hsl⟩)
  rw [h1] at hg
  exact Go.tr st' (k _ _ v so (H.behind (vm₁ := vm₁) h2 h3 h4 h5 h6 h7 h8 h9 X' hS hg r1 r2 r3 r4 r5 r6 r7 rO) q1)

theorem G.callVU (H : Hs p l e R s m args below meth c Z a0 EL cw own n0 bytes maxL ret nm T h C S sf) {y z : MethodName} {D owner : String} {yb : ByteArray} {ym : Nat} {yr : Option FieldType} {rm : Room} {as' : Array Value} {sfI : List Addr} {Q : Option Value → Heap → List Addr → Prop} (M : Met Z a0 EL cw n0 l z yb ym yr rm as' h sfI Q) {index : Nat} (w1 : (Cond.methodLink own index y).before a0 Z = true) (w5 : (Cond.sameMethod y.cls owner y.name y.desc).before a0 Z = true) (w2 : (Cond.declares ⟨owner, y.name, y.desc⟩).before a0 Z = true) (how : owner ≠ "java/lang/invoke/MethodHandle" ∧ owner ≠ "java/lang/invoke/VarHandle") (w3 : (Cond.selects D y z).before a0 Z = true) (w4 : (Cond.instanceMethod z).before a0 Z = true) (wz : (Cond.initialized z.cls).before a0 Z = true) (wc : (Cond.code z yb ym yr).before a0 Z = true)
    {a : Addr} (E : Exa Z h a D) {argsL rest st : List Value} {W : Nat} {pc pc' : Nat} {L : Array Slot} (hL : L.size = maxL) (has : (Value.ref a :: argsL).toArray = as') (hlen : ∀ sig, parseMethodDescriptor y.desc = some sig → argsL.length = sig.parameters.length) (hst : st = argsL.reverse ++ .ref a :: rest) (hW : (rest.map fun v => v.category).sum = W) (hd : decode bytes pc = .ok (.invokevirtual index, 3)) (hp : pc + 3 = pc') (hf : rm.frames + 1 ≤ R.frames) (hl : W + (ym + 11) + rm.locals ≤ R.locals) (hc : C + rm.cells ≤ R.cells) (hsl : S + rm.slots ≤ R.slots) (hsf : ∀ x ∈ sfI, x ∈ sf)
    (k : ∀ T' h' v so, Hs p l e R s m args below meth c Z a0 EL cw own n0 bytes maxL ret nm T' h' (C + rm.cells) (S + rm.slots) (so ++ sf) → Q v h' so → Go p e below P (T'.setTop (mkF m pc' L (v.toList ++ rest)))) : Go p e below P (T.setTop (mkF m pc L st)) := by
  subst hp; subst has
  obtain ⟨hM, vm0, k0, locs, X, h1, h2, h3, h4, h5, h6, h7, h8, h9, hO⟩ := id H
  obtain ⟨cq, kq, qa, qb, qc⟩ := isOf (s := s.setVm vm0) h4 h1 E
  obtain ⟨v, vm₁, B, hw, X', hS, hg, ⟨L', so, q1, rO, r1, r2, r3, r4, r5, r6, r7⟩, st'⟩ := virtualBackUpS X H.exec h5 (mvT (s := s.setVm vm0) h4 w1) (mvT (s := s.setVm vm0) h4 w5) (mvT (s := s.setVm vm0) h4 w2) how (mvT (s := s.setVm vm0) h4 w3) (mvT (s := s.setVm vm0) h4 w4) (M.backS (W := W) hM.2.1 h4 wc wz hf hl h7.1 (fun x hx => h8 x (hsf x hx))) qa qc (g := mkF m pc L st) rfl (by rw [hM.2.2.2.1]; exact hL) (Steps.refl _) hlen hst (by show 2 * 0 + _ ≤ _; omega) (H.dec hd) (fun _ _ => ⟨rfl, h1, hc, hsl⟩)
  rw [h1] at hg
  exact Go.tr st' (k _ _ v so (H.behind (vm₁ := vm₁) h2 h3 h4 h5 h6 h7 h8 h9 X' hS hg r1 r2 r3 r4 r5 r6 r7 rO) q1)

theorem G.callP (H : Hs p l e R s m args below meth c Z a0 EL cw own n0 bytes maxL ret nm T h C S sf) {z : MethodName} {D : String} {yb : ByteArray} {ym : Nat} {yr : Option FieldType} {rm : Room} {as' : Array Value} {sfI : List Addr} {Q : Option Value → Heap → List Addr → Prop} (M : Met Z a0 EL cw n0 l z yb ym yr rm as' h sfI Q) {index : Nat} (w1 : (Cond.methodLink own index z).before a0 Z = true) (w4 : (Cond.instanceMethod z).before a0 Z = true) (w3 : (Cond.selects z.cls z z).before a0 Z = true) (w5 : (Cond.privateMethod z).before a0 Z = true) (wz : (Cond.initialized z.cls).before a0 Z = true) (wc : (Cond.code z yb ym yr).before a0 Z = true) (hy : z.cls ≠ "java/lang/invoke/MethodHandle" ∧ z.cls ≠ "java/lang/invoke/VarHandle")
    {a : Addr} (E : Exa Z h a D) {argsL rest st : List Value} {W : Nat} {pc pc' : Nat} {L : Array Slot} (hL : L.size = maxL) (has : (Value.ref a :: argsL).toArray = as') (hlen : ∀ sig, parseMethodDescriptor z.desc = some sig → argsL.length = sig.parameters.length) (hst : st = argsL.reverse ++ .ref a :: rest) (hW : (rest.map fun v => v.category).sum = W) (hd : decode bytes pc = .ok (.invokevirtual index, 3)) (hp : pc + 3 = pc') (hf : rm.frames + 1 ≤ R.frames) (hl : W + (ym + 11) + rm.locals ≤ R.locals) (hc : C + rm.cells ≤ R.cells) (hsl : S + rm.slots ≤ R.slots) (hsf : ∀ x ∈ sfI, x ∈ sf)
    (k : ∀ T' h' v so, Hs p l e R s m args below meth c Z a0 EL cw own n0 bytes maxL ret nm T' h' (C + rm.cells) (S + rm.slots) (so ++ sf) → Q v h' so → Go p e below P (T'.setTop (mkF m pc' L (v.toList ++ rest)))) : Go p e below P (T.setTop (mkF m pc L st)) := by
  subst hp; subst has
  obtain ⟨hM, vm0, k0, locs, X, h1, h2, h3, h4, h5, h6, h7, h8, h9, hO⟩ := id H
  obtain ⟨cell, hcell, hobj⟩ := E.cell
  obtain ⟨v, vm₁, B, hw, X', hS, hg, ⟨L', so, q1, rO, r1, r2, r3, r4, r5, r6, r7⟩, st'⟩ := privateBackS X H.exec h5 (mvT (s := s.setVm vm0) h4 w1) (mvT (s := s.setVm vm0) h4 w4) (mvT (s := s.setVm vm0) h4 w3) (Cond.privateMethod_at (mvP (s := s.setVm vm0) (args := #[]) h4 w5)) (mvT (s := s.setVm vm0) h4 wc) hy (M.backS (W := W) hM.2.1 h4 wc wz hf hl h7.1 (fun x hx => h8 x (hsf x hx))) (g := mkF m pc L st) rfl (by rw [hM.2.2.2.1]; exact hL) (Steps.refl _) (by rw [h1]; exact hcell) hobj hlen hst (by show 2 * 0 + _ ≤ _; omega) (H.dec hd) (fun _ _ => ⟨rfl, h1, hc, hsl⟩)
  rw [h1] at hg
  exact Go.tr st' (k _ _ v so (H.behind (vm₁ := vm₁) h2 h3 h4 h5 h6 h7 h8 h9 X' hS hg r1 r2 r3 r4 r5 r6 r7 rO) q1)

/-! ## clone of an array, getClass, a class constant, arraycopy -/
theorem G.clone (H : Hs p l e R s m args below meth c Z a0 EL cw own n0 bytes maxL ret nm T h C S sf) {ad : String} {index : Nat} (w1 : (Cond.methodLink own index ⟨ad, "clone", "()Ljava/lang/Object;"⟩).before a0 Z = true) (w2 : (Cond.sameMethod ad "java/lang/Object" "clone" "()Ljava/lang/Object;").before a0 Z = true) (w3 : (Cond.native ⟨"java/lang/Object", "clone", "()Ljava/lang/Object;"⟩).before a0 Z = true) (w4 : (Cond.instanceMethod ⟨"java/lang/Object", "clone", "()Ljava/lang/Object;"⟩).before a0 Z = true) (w5 : (Cond.selects ad ⟨ad, "clone", "()Ljava/lang/Object;"⟩ ⟨"java/lang/Object", "clone", "()Ljava/lang/Object;"⟩).before a0 Z = true) (w6 : (Cond.castable ad "java/lang/Cloneable").before a0 Z = true)
    {a : Addr} {kc : ClassId} {ty : FieldType} {z : Int32} {vs : List Value} {dv : Value} (A : Arv Z h a kc ty z vs dv) (E : Exa Z h a ad) {st : List Value} {W cap : Nat} {pc pc' : Nat} {L : Array Slot} (hL : L.size = maxL) (hW : (st.map fun v => v.category).sum = W) (hd : decode bytes pc = .ok (.invokevirtual index, 3)) (hp : pc + 3 = pc') (hf : 1 ≤ R.frames) (hl : W + 14 ≤ R.locals) (hcap : z.toNatClampNeg ≤ cap) (hc : C + 1 ≤ R.cells) (hsl : S + cap ≤ R.slots)
    (k : ∀ T' h' b, b = h.size → Hs p l e R s m args below meth c Z a0 EL cw own n0 bytes maxL ret nm T' h' (C + 1) (S + cap) (b :: sf) → Ext h h' → Arv Z h' b kc ty z vs dv → Exa Z h' b ad → Go p e below P (T'.setTop (mkF m pc' L (.ref b :: st)))) : Go p e below P (T.setTop (mkF m pc L (.ref a :: st))) := by
  subst hp
  obtain ⟨hM, vm0, k0, locs, X, h1, h2, h3, h4, h5, h6, h7, h8, h9, hO⟩ := id H
  obtain ⟨T', h', X', e', Ex, A', E', st'⟩ := RoadKit.cloneH X H.exec h4 h5 w1 w2 w3 w4 w5 w6 h1 A.arh E (g := mkF m pc L (.ref a :: st)) rfl (by rw [hM.2.2.2.1]; exact hL) rfl (H.dec hd) hf (W := W) (by show 2 * 0 + _ ≤ _; omega) hl hcap hc hsl
  exact Go.st st' (k T' h' _ rfl (H.ext X' e' Ex h2 h3 h4 h5 h6 h7 h8 h9 hO E'.lt) Ex A' E')
theorem G.ldcK (H : Hs p l e R s m args below meth c Z a0 EL cw own n0 bytes maxL ret nm T h C S sf) {K : String} {index : Nat} {mr : Addr} (w : (Cond.classLink own index K).before a0 Z = true) (F : Mir Z K mr) {pc pc' : Nat} {L : Array Slot} {st : List Value} (hd : decode bytes pc = .ok (.ldc index, 2)) (hp : pc + 2 = pc')
    (k : ∀ T', Hs p l e R s m args below meth c Z a0 EL cw own n0 bytes maxL ret nm T' h C S sf → Go p e below P (T'.setTop (mkF m pc' L (.ref mr :: st)))) : Go p e below P (T.setTop (mkF m pc L st)) := by
  subst hp
  obtain ⟨hM, vm0, k0, locs, X, h1, h2, h3, h4, h5, h6, h7, h8, h9, hO⟩ := id H
  obtain ⟨cK, kK, f1, f2, f3, -⟩ := F
  have ev : (Term.mirror K).eval args (s.setVm vm0) none [] (s.setVm vm0) = some (.ref mr) := by
    obtain ⟨k', q1, q2⟩ := h4.alike.2.2 _ _ f2
    have e1 : vm0.findClass K = some cK := by rw [h4.alike.findClass]; exact f1
    have e2 : vm0.classes[cK]? = some k' := q1
    have e3 : k'.mirror = some mr := by rw [q2]; exact f3
    show ((vm0.findClass K).bind fun u => (vm0.classes[u]?).bind fun v => v.mirror.bind fun w => some (Value.ref w)) = _
    rw [e1]; show ((vm0.classes[cK]?).bind fun v => v.mirror.bind fun w => some (Value.ref w)) = _
    rw [e2]; show (k'.mirror.bind fun w => some (Value.ref w)) = _
    rw [e3]; rfl
  obtain ⟨vm', X', st'⟩ := X.ldcMirror H.exec h5 (mvT (s := s.setVm vm0) h4 w) ev (g := mkF m pc L st) rfl (H.dec hd)
  exact Go.st st' (k _ ⟨hM, vm0, k0, locs, X', h1, h2, h3, h4, h5, h6, h7, h8, h9, hO⟩)
theorem G.gclsI (H : Hs p l e R s m args below meth c Z a0 EL cw own n0 bytes maxL ret nm T h C S sf) {D : String} {index count : Nat} {xi : MethodName} (w1 : (Cond.methodLink own index xi).before a0 Z = true) (w2 : (Cond.declares ⟨"java/lang/Object", "getClass", "()Ljava/lang/Class;"⟩).before a0 Z = true) (w3 : ∀ (s' : State) (aa : Array Value), Z.Warmed39 s'.vm → (Cond.interfaceMethod xi.cls "java/lang/Object" xi.name xi.desc).before aa s' = true) (w4 : (Cond.selects D xi ⟨"java/lang/Object", "getClass", "()Ljava/lang/Class;"⟩).before a0 Z = true) (w5 : (Cond.instanceMethod ⟨"java/lang/Object", "getClass", "()Ljava/lang/Class;"⟩).before a0 Z = true) (w6 : (Cond.publicMethod ⟨"java/lang/Object", "getClass", "()Ljava/lang/Class;"⟩).before a0 Z = true) (w7 : (Cond.unhidden D xi.name xi.desc).before a0 Z = true) (w8 : (Cond.castable D xi.cls).before a0 Z = true) (w9 : (Cond.native ⟨"java/lang/Object", "getClass", "()Ljava/lang/Class;"⟩).before a0 Z = true) (hx : xi.cls ≠ "java/lang/invoke/MethodHandle" ∧ xi.cls ≠ "java/lang/invoke/VarHandle") (hxo : xi.cls ≠ "java/lang/Object") (hn : xi.name = "getClass") (hds : xi.desc = "()Ljava/lang/Class;")
    {a mr : Addr} (E : Exa Z h a D) (F : Mir Z D mr) {st : List Value} {W : Nat} {pc pc' : Nat} {L : Array Slot} (hL : L.size = maxL) (hW : (st.map fun v => v.category).sum = W) (hd : decode bytes pc = .ok (.invokeinterface index count, 5)) (hp : pc + 5 = pc') (hf : 1 ≤ R.frames) (hl : W + (nativeFrameWords "java/lang/Object" "getClass" 1 + 11) ≤ R.locals)
    (k : ∀ T', Hs p l e R s m args below meth c Z a0 EL cw own n0 bytes maxL ret nm T' h C S sf → Go p e below P (T'.setTop (mkF m pc' L (.ref mr :: st)))) : Go p e below P (T.setTop (mkF m pc L (.ref a :: st))) := by
  subst hp
  obtain ⟨hM, vm0, k0, locs, X, h1, h2, h3, h4, h5, h6, h7, h8, h9, hO⟩ := id H
  obtain ⟨cq, kq, qa, qb, qc⟩ := isOf (s := s.setVm vm0) h4 h1 E
  obtain ⟨cK, kK, f1, f2, f3, -⟩ := F
  have e1 : cq = cK := by
    have : vm0.findClass D = some cK := by rw [h4.alike.findClass]; exact f1
    exact Option.some.inj ((show vm0.findClass D = some cq from qa).symm.trans this)
  subst e1
  obtain ⟨k', q1, q2⟩ := h4.alike.2.2 _ _ f2
  have e3 : kq.mirror = some mr := by
    have : k' = kq := Option.some.inj ((show vm0.classes[cq]? = some k' from q1).symm.trans qb)
    rw [← this, q2]; exact f3
  obtain ⟨vm', X', st'⟩ := X.getClassOfI H.exec h5 (mvT (s := s.setVm vm0) h4 w1) (mvT (s := s.setVm vm0) h4 w2) (w3 (s.setVm vm0) args h4) (mvT (s := s.setVm vm0) h4 w4) (mvT (s := s.setVm vm0) h4 w5) (mvT (s := s.setVm vm0) h4 w6) (mvT (s := s.setVm vm0) h4 w7) (mvT (s := s.setVm vm0) h4 w8) (mvT (s := s.setVm vm0) h4 w9) hx hxo hn hds qa qb qc e3 (g := mkF m pc L (.ref a :: st)) rfl (by rw [hM.2.2.2.1]; exact hL) rfl (H.dec hd) hf (by show 2 * 0 + _ + _ ≤ _; omega)
  exact Go.st st' (k _ ⟨hM, vm0, k0, locs, X', h1, h2, h3, h4, h5, h6, h7, h8, h9, hO⟩)
theorem G.copy (H : Hs p l e R s m args below meth c Z a0 EL cw own n0 bytes maxL ret nm T h C S sf) {index : Nat} (w1 : (Cond.methodLink own index Jvm.Stand.acN).before a0 Z = true) (w2 : (Cond.native Jvm.Stand.acN).before a0 Z = true) (w3 : (Cond.static Jvm.Stand.acN).before a0 Z = true) (w4 : (Cond.initialized "java/lang/System").before a0 Z = true)
    {a b : Addr} {kc kc' : ClassId} {ty ty' : FieldType} {z z' sp dp nn : Int32} {vs vd us : List Value} {dv dd : Value} (A : Arv Z h a kc ty z vs dv) (B : Arv Z h b kc' ty' z' vd dd) (hty : (ty = ty' ∧ refKind ty = false) ∨ (refKind ty = true ∧ refKind ty' = true ∧ StoL Z h b us)) (g1 : ¬ sp < 0) (g2 : ¬ dp < 0) (g3 : ¬ nn < 0) (g4 : sp.toNatClampNeg + nn.toNatClampNeg ≤ z.toNatClampNeg) (g5 : dp.toNatClampNeg + nn.toNatClampNeg ≤ z'.toNatClampNeg) (hus : us = (List.range nn.toNatClampNeg).map fun i => vs.getD (sp.toNatClampNeg + i) dv) (hlen : dp.toNatClampNeg + nn.toNatClampNeg ≤ vd.length) {vr : List Value} (hvr : vd.take dp.toNatClampNeg ++ us ++ vd.drop (dp.toNatClampNeg + nn.toNatClampNeg) = vr) (hq : n0 ≤ b) (hsf : Sf Z EL h sf b)
    {st : List Value} {W : Nat} {pc pc' : Nat} {L : Array Slot} (hL : L.size = maxL) (hW : (st.map fun v => v.category).sum = W) (hd : decode bytes pc = .ok (.invokestatic index, 3)) (hp : pc + 3 = pc') (hf : 1 ≤ R.frames) (hl : W + (nativeFrameWords "java/lang/System" "arraycopy" 5 + 11) ≤ R.locals)
    (k : ∀ T' h', Hs p l e R s m args below meth c Z a0 EL cw own n0 bytes maxL ret nm T' h' C S sf → Keep h h' [b] → Arv Z h' b kc' ty' z' vr dd → Go p e below P (T'.setTop (mkF m pc' L st))) : Go p e below P (T.setTop (mkF m pc L (.int nn :: .int dp :: .ref b :: .int sp :: .ref a :: st))) := by
  subst hp; subst hvr
  obtain ⟨hM, vm0, k0, locs, X, h1, h2, h3, h4, h5, h6, h7, h8, h9, hO⟩ := id H
  obtain ⟨T', h', L', X', e', F', K', B', st'⟩ := RoadKit.cpA X H.exec h4 h5 w1 w2 w3 w4 h1 A B hty g1 g2 g3 g4 g5 hus hlen h6 hq (g := mkF m pc L (.int nn :: .int dp :: .ref b :: .int sp :: .ref a :: st)) rfl (by rw [hM.2.2.2.1]; exact hL) rfl (H.dec hd) hf (W := W) (by show 2 * 0 + _ ≤ _; omega) hl
  have sx : ∀ y ∈ [b], Safe Z EL vm0 h y := fun y hy => by rw [List.mem_singleton.mp hy]; exact hsf.safe h4 h8
  exact Go.st st' (k T' h' ⟨hM, vm0, k0, L', X', e', h2, Nat.le_trans h3 K'.1, h4, h5, F', h7.trans (CHr.keep K' sx h7.1), fun y hy => ⟨Nat.lt_of_lt_of_le (h8 y hy).1 K'.1, Safe.keep K' sx h7.1 (h8 y hy).2⟩, h9, hO.keep K' (fun y hy => by rw [List.mem_singleton.mp hy]; exact hq)⟩ K' B')
theorem nf_sup {y : MethodName} {K : String} (w : (Cond.superclass y.cls K).before a0 Z = true) : ∀ s' : State, Z.Warmed39 s'.vm → NotFace s' y := fun s' hZ => nf_super (args := #[]) (mvT (s := s') hZ w)
theorem G.castN (H : Hs p l e R s m args below meth c Z a0 EL cw own n0 bytes maxL ret nm T h C S sf) {index : Nat} {pc pc' : Nat} {L : Array Slot} {st : List Value} (hd : decode bytes pc = .ok (.checkcast index, 3)) (hp : pc + 3 = pc') (k : Go p e below P (T.setTop (mkF m pc' L (.null :: st)))) : Go p e below P (T.setTop (mkF m pc L (.null :: st))) := by
  subst hp
  obtain ⟨hM, vm0, k0, locs, X, -⟩ := id H
  exact Go.st (X.checkcastNull H.exec (g := mkF m pc L (.null :: st)) rfl rfl (H.dec hd)) k
theorem G.instN (H : Hs p l e R s m args below meth c Z a0 EL cw own n0 bytes maxL ret nm T h C S sf) {index : Nat} {pc pc' : Nat} {L : Array Slot} {st : List Value} (hd : decode bytes pc = .ok (.instanceof index, 3)) (hp : pc + 3 = pc') (k : Go p e below P (T.setTop (mkF m pc' L (.int 0 :: st)))) : Go p e below P (T.setTop (mkF m pc L (.null :: st))) := by
  subst hp
  obtain ⟨hM, vm0, k0, locs, X, -⟩ := id H
  exact Go.st (X.instanceofNull H.exec (g := mkF m pc L (.null :: st)) rfl rfl (H.dec hd)) k
/-! ## a static method named through a class below the one that declares it (its contract narrow) -/
theorem Met.back {y : MethodName} {rm : Room} {as' : Array Value} {sfI : List Addr} {Q : Option Value → Heap → List Addr → Prop} {vm0 : Vm} {len W : Nat} (M : Met Z a0 EL False n0 l y bytes maxL ret rm as' h sfI Q) (hEL : EW Z a0 EL) (hZ : Z.Warmed39 vm0) (wc : (Cond.code y bytes maxL ret).before a0 Z = true) (wz : (Cond.initialized y.cls).before a0 Z = true) (hf : rm.frames + 1 ≤ R.frames) (hl : W + (maxL + 11) + rm.locals ≤ R.locals) (H : CHv Z EL vm0 h) (hs : ∀ x ∈ sfI, x < h.size ∧ Safe Z EL vm0 h x) :
    Back l R p e below (s.setVm vm0) args y len W (fun A a => a = as' ∧ A.U.heap = h ∧ A.cells + rm.cells ≤ R.cells ∧ A.slots + rm.slots ≤ R.slots)
      (fun A _ v B => ∃ L so, Q v B.U.heap so ∧ Old Z n0 B.U.heap ∧ Fr n0 L ∧ B.locs = A.locs ++ L ∧ B.cells = A.cells + rm.cells ∧ B.slots = A.slots + rm.slots ∧ CHr Z EL vm0 h B.U.vm B.U.heap ∧ (∀ x ∈ so, x < B.U.heap.size ∧ Safe Z EL B.U.vm B.U.heap x)) :=
  Back.of_free (bytes := bytes) (maxL := maxL) (ret := ret)
    (E := fun _ first o t L k n => k = rm.cells ∧ n = rm.slots ∧ ∃ v so, o = .returned v ∧ Q v t.heap so ∧ Old Z n0 t.heap ∧ Fr n0 L ∧ CHr Z EL first.vm first.heap t.vm t.heap ∧ (∀ x ∈ so, x < t.heap.size ∧ Safe Z EL t.vm t.heap x))
    (M []) hf hl
    (fun m meth c A a Y hp => have hU : Z.Warmed39 A.U.vm := wtrans (s := s.setVm vm0) hZ Y.warmed
      ⟨by show (Cond.and _ .tt).before a A.U = true; rw [Cond.before_and, mv hU wc]; rfl, mv hU wc, mv hU wz, hp.2.2.1, hp.2.2.2⟩)
    (fun m meth c A a g mk Y hp => by
      have A1 := CHv.at Y hZ hEL H
      exact ⟨hp.1, wtrans (s := s.setVm vm0) hZ Y.warmed, hp.2.1, A1.1, fun x hx => ⟨(hs x hx).1, A1.safe (hs x hx).1 (hs x hx).2⟩⟩)
    (fun _ _ _ _ _ _ _ _ _ => trivial)
    (fun _ _ _ _ ⟨v, L, so, h1, h2, hO, h3, h4, h5, h6, h7⟩ => ⟨L, _, _, h7.resolve_left (fun q => q), rfl, rfl, v, so, h1, h2, hO, h3, h4, h5⟩)
    (fun m meth c A a g mk v t L k n Y hp _ _ ⟨e1, e2, v', so, e3, e4, eO, e5, e6, e7⟩ => by
      cases e3; subst e1 e2
      refine ⟨L, so, e4, eO, e5, rfl, rfl, rfl, (CHv.at Y hZ hEL H).trans ?_, e7⟩
      rw [← hp.2.1]; exact e6)
theorem G.callSU (H : Hs p l e R s m args below meth c Z a0 EL cw own n0 bytes maxL ret nm T h C S sf) {y : MethodName} {owner : String} {yb : ByteArray} {ym : Nat} {yr : Option FieldType} {rm : Room} {as' : Array Value} {sfI : List Addr} {Q : Option Value → Heap → List Addr → Prop} (M : Met Z a0 EL False n0 l ⟨owner, y.name, y.desc⟩ yb ym yr rm as' h sfI Q) {index : Nat} (w1 : (Cond.methodLink own index y).before a0 Z = true) (w5 : (Cond.sameMethod y.cls owner y.name y.desc).before a0 Z = true) (w2 : (Cond.static ⟨owner, y.name, y.desc⟩).before a0 Z = true) (wz : (Cond.initialized owner).before a0 Z = true) (wc : (Cond.code ⟨owner, y.name, y.desc⟩ yb ym yr).before a0 Z = true) (hy : owner ≠ "java/lang/invoke/MethodHandle" ∧ owner ≠ "java/lang/invoke/VarHandle")
    {argsL rest st : List Value} {W : Nat} {pc pc' : Nat} {L : Array Slot} (hL : L.size = maxL) (has : argsL.toArray = as') (hlen : ∀ sig, parseMethodDescriptor y.desc = some sig → argsL.length = sig.parameters.length) (hst : st = argsL.reverse ++ rest) (hW : (rest.map fun v => v.category).sum = W) (hd : decode bytes pc = .ok (.invokestatic index, 3)) (hp : pc + 3 = pc') (hf : rm.frames + 1 ≤ R.frames) (hl : W + (ym + 11) + rm.locals ≤ R.locals) (hc : C + rm.cells ≤ R.cells) (hsl : S + rm.slots ≤ R.slots) (hsf : ∀ x ∈ sfI, x ∈ sf)
    (k : ∀ T' h' v so, Hs p l e R s m args below meth c Z a0 EL cw own n0 bytes maxL ret nm T' h' (C + rm.cells) (S + rm.slots) (so ++ sf) → Q v h' so → Go p e below P (T'.setTop (mkF m pc' L (v.toList ++ rest)))) : Go p e below P (T.setTop (mkF m pc L st)) := by
  subst hp; subst has
  obtain ⟨hM, vm0, k0, locs, X, h1, h2, h3, h4, h5, h6, h7, h8, h9, hO⟩ := id H
  have wc' := mvT (s := s.setVm vm0) (args := args) h4 wc
  obtain ⟨mk, hnamed⟩ := Cond.code_named wc'
  obtain ⟨methM, cM, hmethM, -, -, -, -, -, -, hsig⟩ := Cond.code_spec hnamed wc'
  obtain ⟨v, vm₁, B, hw, X', ⟨L', so, q1, rO, r1, r2, r3, r4, r5, r6⟩, st'⟩ := X.staticBackUp H.exec h5 (mvT (s := s.setVm vm0) h4 w1) (mvT (s := s.setVm vm0) h4 w5) (mvT (s := s.setVm vm0) h4 w2) (mvT (s := s.setVm vm0) h4 wz) hnamed hmethM hsig hy (M.back (W := W) hM.2.1 h4 wc wz hf hl h7.1 (fun x hx => h8 x (hsf x hx))) (g := mkF m pc L st) rfl (by rw [hM.2.2.2.1]; exact hL) (Steps.refl _) hlen hst (by show 2 * 0 + _ ≤ _; omega) (H.dec hd) (fun _ _ => ⟨rfl, h1, hc, hsl⟩)
  have hg : h.size ≤ B.U.heap.size := r5.2.1
  exact Go.tr st' (k _ _ v so (H.behind (vm₁ := vm₁) h2 h3 h4 h5 h6 h7 h8 h9 (X'.retabled X'.warmed.wide) (X'.warmed.since _) hg r1 r2 r3 r4 r5 r6 (Or.inr X'.warmed) rO) q1)
/-! ## from the case's words to facts at the start -/
theorem own_evI {args : Array Value} {a : Term} {i : Int32} (hq : (Cond.eq a (Term.int i)).value args Z none Z [] = some true) : a.eval args Z none [] Z = some (.int i) := by
  obtain ⟨u, w, hu, hw, k1, k2⟩ := cmp_v (Or.inl hq)
  have e1 : (Term.int i).eval args Z none [] Z = some (.int i) := Term.int_eval i
  cases e1.symm.trans hw
  obtain ⟨z, rfl⟩ := k2
  have e2 : z = i := gotT (Cond.eq_ints hu e1) hq
  subst e2; exact hu
theorem own_evR {args : Array Value} {a b : Term} {y : Addr} (hb : b.eval args Z none [] Z = some (.ref y)) (hq : (Cond.eq a b).value args Z none Z [] = some true) : a.eval args Z none [] Z = some (.ref y) := by
  obtain ⟨u, w, hu, hw, k1, k2⟩ := cmp_v (Or.inl hq)
  cases hb.symm.trans hw
  have e2 : u = .ref y := gotT (eq_R hu hb k2.2 rfl) hq
  subst e2; exact hu
theorem own_len {args : Array Value} {t : Term} {ty : FieldType} {x : Addr} {n : Int32} {cl : Cell} (ev : t.eval args Z none [] Z = some (.ref x)) (A : Arr Z Z.heap x cl ty) (hl : (Cond.eq (Term.length t) (Term.int n)).value args Z none Z [] = some true) : cl.slots.size < 2 ^ 31 ∧ cl.slots.size.toInt32 = n := by
  have e := own_evI hl
  have ha : Z.arrayAt? x = some cl := Arr.fin (U := Z) (Vm.Alike.refl _) A
  by_cases hs : cl.slots.size < 2 ^ 31
  · have q := (len_f ev ha hs).symm.trans e
    exact ⟨hs, by injection q with q; injection q⟩
  · simp [Term.eval, ev, ha, hs] at e
theorem own_el {args : Array Value} {t : Term} {ty : FieldType} {x : Addr} {cl : Cell} {j : Int32} {v : Value} {i : Nat} (ev : t.eval args Z none [] Z = some (.ref x)) (A : Arr Z Z.heap x cl ty) (he : (Term.elem t (Term.int j)).eval args Z none [] Z = some v) (hi : j.toNatClampNeg = i) : cl.slots[i]? = some v := by
  subst hi; exact (elem_in he ev (Term.int_eval j) A.1).2
theorem own_mirlt {K : String} {x : Addr} (F : Mir Z K x) : x < Z.heap.size := by
  obtain ⟨c, k, -, -, -, cell, q, -⟩ := F; exact (Array.getElem?_eq_some_iff.mp q).1
end Kit
end Jvm.OwnKit
namespace Jvm.Pilot.@@N@@
open Jvm Jvm.ClassFile Sem Op Lib Jvm.Free Jvm.Stand Jvm.LawKit Jvm.RoadKit Bundle Jvm.OwnKit Jvm.Pilot.@@N@@.Jvm.D
def Env1 (Z : State) (a0 : Array Value) (n0 : Nat) (uu0 : Addr) (uu1 : Addr) (uu2 : Addr) (uu3 : Addr) (uu4 : ClassId) (uu5 : ClassId) (uu6 : ClassId) (uu7 : Addr) (uu8 : Addr) (uu9 : Addr) : Prop := (∀ d ∈ tables_1, d.before a0 Z = true) ∧ EW Z a0 [] ∧ Sta Z Z.heap "java/util/ArrayList" "DEFAULTCAPACITY_EMPTY_ELEMENTDATA" "[Ljava/lang/Object;" (.ref uu0) ∧ Exa Z Z.heap uu0 "[Ljava/lang/Object;" ∧ Sta Z Z.heap "java/util/ImmutableCollections" "EMPTY_LIST" "Ljava/util/ImmutableCollections$ListN;" (.ref uu1) ∧ Exa Z Z.heap uu1 "java/util/ImmutableCollections$ListN" ∧ Sta Z Z.heap "java/util/ArrayList" "EMPTY_ELEMENTDATA" "[Ljava/lang/Object;" (.ref uu2) ∧ Exa Z Z.heap uu2 "[Ljava/lang/Object;" ∧ Fld Z Z.heap uu1 "java/util/ImmutableCollections$ListN" "elements" "[Ljava/lang/Object;" (.ref uu3) ∧ Exa Z Z.heap uu3 "[Ljava/lang/Object;" ∧ Arv Z Z.heap uu0 uu4 (.object "java/lang/Object") (0 : Int32) [] .null ∧ Arv Z Z.heap uu2 uu5 (.object "java/lang/Object") (0 : Int32) [] .null ∧ Arv Z Z.heap uu3 uu6 (.object "java/lang/Object") (0 : Int32) [] .null ∧ Sta Z Z.heap "java/util/Collections$CopiesList" "$assertionsDisabled" "Z" (.int (1 : Int32)) ∧ Fld Z Z.heap uu1 "java/util/ImmutableCollections$ListN" "allowNulls" "Z" (.int (0 : Int32)) ∧ Mir Z "java/util/Collections$CopiesList" uu7 ∧ Mir Z "java/util/ArrayList" uu8 ∧ Mir Z "[Ljava/lang/Object;" uu9 ∧ True
theorem EWl (V : Env1 Z a0 n0 uu0 uu1 uu2 uu3 uu4 uu5 uu6 uu7 uu8 uu9) : EW Z a0 [] := V.2.1
theorem hv0 (V : Env1 Z a0 n0 uu0 uu1 uu2 uu3 uu4 uu5 uu6 uu7 uu8 uu9) : Sta Z Z.heap "java/util/ArrayList" "DEFAULTCAPACITY_EMPTY_ELEMENTDATA" "[Ljava/lang/Object;" (.ref uu0) := V.2.2.1
theorem hv1 (V : Env1 Z a0 n0 uu0 uu1 uu2 uu3 uu4 uu5 uu6 uu7 uu8 uu9) : Exa Z Z.heap uu0 "[Ljava/lang/Object;" := V.2.2.2.1
theorem hv2 (V : Env1 Z a0 n0 uu0 uu1 uu2 uu3 uu4 uu5 uu6 uu7 uu8 uu9) : Sta Z Z.heap "java/util/ImmutableCollections" "EMPTY_LIST" "Ljava/util/ImmutableCollections$ListN;" (.ref uu1) := V.2.2.2.2.1
theorem hv3 (V : Env1 Z a0 n0 uu0 uu1 uu2 uu3 uu4 uu5 uu6 uu7 uu8 uu9) : Exa Z Z.heap uu1 "java/util/ImmutableCollections$ListN" := V.2.2.2.2.2.1
theorem hv4 (V : Env1 Z a0 n0 uu0 uu1 uu2 uu3 uu4 uu5 uu6 uu7 uu8 uu9) : Sta Z Z.heap "java/util/ArrayList" "EMPTY_ELEMENTDATA" "[Ljava/lang/Object;" (.ref uu2) := V.2.2.2.2.2.2.1
theorem hv5 (V : Env1 Z a0 n0 uu0 uu1 uu2 uu3 uu4 uu5 uu6 uu7 uu8 uu9) : Exa Z Z.heap uu2 "[Ljava/lang/Object;" := V.2.2.2.2.2.2.2.1
theorem hv6 (V : Env1 Z a0 n0 uu0 uu1 uu2 uu3 uu4 uu5 uu6 uu7 uu8 uu9) : Fld Z Z.heap uu1 "java/util/ImmutableCollections$ListN" "elements" "[Ljava/lang/Object;" (.ref uu3) := V.2.2.2.2.2.2.2.2.1
theorem hv7 (V : Env1 Z a0 n0 uu0 uu1 uu2 uu3 uu4 uu5 uu6 uu7 uu8 uu9) : Exa Z Z.heap uu3 "[Ljava/lang/Object;" := V.2.2.2.2.2.2.2.2.2.1
theorem hv8 (V : Env1 Z a0 n0 uu0 uu1 uu2 uu3 uu4 uu5 uu6 uu7 uu8 uu9) : Arv Z Z.heap uu0 uu4 (.object "java/lang/Object") (0 : Int32) [] .null := V.2.2.2.2.2.2.2.2.2.2.1
theorem hv9 (V : Env1 Z a0 n0 uu0 uu1 uu2 uu3 uu4 uu5 uu6 uu7 uu8 uu9) : Arv Z Z.heap uu2 uu5 (.object "java/lang/Object") (0 : Int32) [] .null := V.2.2.2.2.2.2.2.2.2.2.2.1
theorem hv10 (V : Env1 Z a0 n0 uu0 uu1 uu2 uu3 uu4 uu5 uu6 uu7 uu8 uu9) : Arv Z Z.heap uu3 uu6 (.object "java/lang/Object") (0 : Int32) [] .null := V.2.2.2.2.2.2.2.2.2.2.2.2.1
theorem hv11 (V : Env1 Z a0 n0 uu0 uu1 uu2 uu3 uu4 uu5 uu6 uu7 uu8 uu9) : Sta Z Z.heap "java/util/Collections$CopiesList" "$assertionsDisabled" "Z" (.int (1 : Int32)) := V.2.2.2.2.2.2.2.2.2.2.2.2.2.1
theorem hv12 (V : Env1 Z a0 n0 uu0 uu1 uu2 uu3 uu4 uu5 uu6 uu7 uu8 uu9) : Fld Z Z.heap uu1 "java/util/ImmutableCollections$ListN" "allowNulls" "Z" (.int (0 : Int32)) := V.2.2.2.2.2.2.2.2.2.2.2.2.2.2.1
theorem hv13 (V : Env1 Z a0 n0 uu0 uu1 uu2 uu3 uu4 uu5 uu6 uu7 uu8 uu9) : Mir Z "java/util/Collections$CopiesList" uu7 := V.2.2.2.2.2.2.2.2.2.2.2.2.2.2.2.1
theorem hv14 (V : Env1 Z a0 n0 uu0 uu1 uu2 uu3 uu4 uu5 uu6 uu7 uu8 uu9) : Mir Z "java/util/ArrayList" uu8 := V.2.2.2.2.2.2.2.2.2.2.2.2.2.2.2.2.1
theorem hv15 (V : Env1 Z a0 n0 uu0 uu1 uu2 uu3 uu4 uu5 uu6 uu7 uu8 uu9) : Mir Z "[Ljava/lang/Object;" uu9 := V.2.2.2.2.2.2.2.2.2.2.2.2.2.2.2.2.2.1
theorem wd0 (V : Env1 Z a0 n0 uu0 uu1 uu2 uu3 uu4 uu5 uu6 uu7 uu8 uu9) : (Jvm.Cond.constant "com/example/passenger_flow_sim/passengerflowsim/simulation/VehicleLeavePinLaw" (7 : Nat) (1073741823 : Int32)).before a0 Z = true := V.1 _ (List.mem_of_getElem? (i := 0) rfl)
theorem wd1 (V : Env1 Z a0 n0 uu0 uu1 uu2 uu3 uu4 uu5 uu6 uu7 uu8 uu9) : (Jvm.Cond.classLink "com/example/passenger_flow_sim/passengerflowsim/simulation/VehicleLeavePinLaw" (8 : Nat) "com/example/passenger_flow_sim/passengerflowsim/timetable/Trip").before a0 Z = true := V.1 _ (List.mem_of_getElem? (i := 1) rfl)
theorem wd2 (V : Env1 Z a0 n0 uu0 uu1 uu2 uu3 uu4 uu5 uu6 uu7 uu8 uu9) : (Jvm.Cond.instantiable "com/example/passenger_flow_sim/passengerflowsim/timetable/Trip" (5 : Nat)).before a0 Z = true := V.1 _ (List.mem_of_getElem? (i := 2) rfl)
theorem wd3 (V : Env1 Z a0 n0 uu0 uu1 uu2 uu3 uu4 uu5 uu6 uu7 uu8 uu9) : (Jvm.Cond.initialized "com/example/passenger_flow_sim/passengerflowsim/timetable/Trip").before a0 Z = true := V.1 _ (List.mem_of_getElem? (i := 3) rfl)
theorem wd4 (V : Env1 Z a0 n0 uu0 uu1 uu2 uu3 uu4 uu5 uu6 uu7 uu8 uu9) : (Jvm.Cond.arrayClass Jvm.ClassFile.FieldType.int).before a0 Z = true := V.1 _ (List.mem_of_getElem? (i := 4) rfl)
theorem wd5 (V : Env1 Z a0 n0 uu0 uu1 uu2 uu3 uu4 uu5 uu6 uu7 uu8 uu9) : (Jvm.Cond.methodLink "com/example/passenger_flow_sim/passengerflowsim/simulation/VehicleLeavePinLaw" (10 : Nat) ({ cls := "com/example/passenger_flow_sim/passengerflowsim/timetable/Trip", name := "<init>", desc := "(Ljava/lang/String;Ljava/lang/String;[I[I[I)V" } : Jvm.MethodName)).before a0 Z = true := V.1 _ (List.mem_of_getElem? (i := 5) rfl)
theorem wd6 (V : Env1 Z a0 n0 uu0 uu1 uu2 uu3 uu4 uu5 uu6 uu7 uu8 uu9) : (Jvm.Cond.instanceMethod ({ cls := "com/example/passenger_flow_sim/passengerflowsim/timetable/Trip", name := "<init>", desc := "(Ljava/lang/String;Ljava/lang/String;[I[I[I)V" } : Jvm.MethodName)).before a0 Z = true := V.1 _ (List.mem_of_getElem? (i := 6) rfl)
theorem wd7 (V : Env1 Z a0 n0 uu0 uu1 uu2 uu3 uu4 uu5 uu6 uu7 uu8 uu9) : (Jvm.Cond.code ({ cls := "com/example/passenger_flow_sim/passengerflowsim/timetable/Trip", name := "<init>", desc := "(Ljava/lang/String;Ljava/lang/String;[I[I[I)V" } : Jvm.MethodName) prog_42_method_1_code (7 : Nat) (Option.none : Option Jvm.ClassFile.FieldType)).before a0 Z = true := V.1 _ (List.mem_of_getElem? (i := 7) rfl)
theorem wd8 (V : Env1 Z a0 n0 uu0 uu1 uu2 uu3 uu4 uu5 uu6 uu7 uu8 uu9) : (Jvm.Cond.methodLink "com/example/passenger_flow_sim/passengerflowsim/timetable/Trip" (1 : Nat) ({ cls := "java/lang/Object", name := "<init>", desc := "()V" } : Jvm.MethodName)).before a0 Z = true := V.1 _ (List.mem_of_getElem? (i := 8) rfl)
theorem wd9 (V : Env1 Z a0 n0 uu0 uu1 uu2 uu3 uu4 uu5 uu6 uu7 uu8 uu9) : (Jvm.Cond.instanceMethod ({ cls := "java/lang/Object", name := "<init>", desc := "()V" } : Jvm.MethodName)).before a0 Z = true := V.1 _ (List.mem_of_getElem? (i := 9) rfl)
theorem wd10 (V : Env1 Z a0 n0 uu0 uu1 uu2 uu3 uu4 uu5 uu6 uu7 uu8 uu9) : (Jvm.Cond.code ({ cls := "java/lang/Object", name := "<init>", desc := "()V" } : Jvm.MethodName) object_method_1_code (1 : Nat) (Option.none : Option Jvm.ClassFile.FieldType)).before a0 Z = true := V.1 _ (List.mem_of_getElem? (i := 10) rfl)
theorem wd11 (V : Env1 Z a0 n0 uu0 uu1 uu2 uu3 uu4 uu5 uu6 uu7 uu8 uu9) : (Jvm.Cond.fieldLink "com/example/passenger_flow_sim/passengerflowsim/timetable/Trip" (41 : Nat) "com/example/passenger_flow_sim/passengerflowsim/timetable/Trip" "id" "Ljava/lang/String;").before a0 Z = true := V.1 _ (List.mem_of_getElem? (i := 11) rfl)
theorem wd12 (V : Env1 Z a0 n0 uu0 uu1 uu2 uu3 uu4 uu5 uu6 uu7 uu8 uu9) : (Jvm.Cond.laysFinal "com/example/passenger_flow_sim/passengerflowsim/timetable/Trip" "com/example/passenger_flow_sim/passengerflowsim/timetable/Trip" "id" "Ljava/lang/String;").before a0 Z = true := V.1 _ (List.mem_of_getElem? (i := 12) rfl)
theorem wd13 (V : Env1 Z a0 n0 uu0 uu1 uu2 uu3 uu4 uu5 uu6 uu7 uu8 uu9) : (Jvm.Cond.fieldLink "com/example/passenger_flow_sim/passengerflowsim/timetable/Trip" (47 : Nat) "com/example/passenger_flow_sim/passengerflowsim/timetable/Trip" "routeId" "Ljava/lang/String;").before a0 Z = true := V.1 _ (List.mem_of_getElem? (i := 13) rfl)
theorem wd14 (V : Env1 Z a0 n0 uu0 uu1 uu2 uu3 uu4 uu5 uu6 uu7 uu8 uu9) : (Jvm.Cond.laysFinal "com/example/passenger_flow_sim/passengerflowsim/timetable/Trip" "com/example/passenger_flow_sim/passengerflowsim/timetable/Trip" "routeId" "Ljava/lang/String;").before a0 Z = true := V.1 _ (List.mem_of_getElem? (i := 14) rfl)
theorem wd15 (V : Env1 Z a0 n0 uu0 uu1 uu2 uu3 uu4 uu5 uu6 uu7 uu8 uu9) : (Jvm.Cond.methodLink "com/example/passenger_flow_sim/passengerflowsim/timetable/Trip" (50 : Nat) ({ cls := "[I", name := "clone", desc := "()Ljava/lang/Object;" } : Jvm.MethodName)).before a0 Z = true := V.1 _ (List.mem_of_getElem? (i := 15) rfl)
theorem wd16 (V : Env1 Z a0 n0 uu0 uu1 uu2 uu3 uu4 uu5 uu6 uu7 uu8 uu9) : (Jvm.Cond.sameMethod "[I" "java/lang/Object" "clone" "()Ljava/lang/Object;").before a0 Z = true := V.1 _ (List.mem_of_getElem? (i := 16) rfl)
theorem wd18 (V : Env1 Z a0 n0 uu0 uu1 uu2 uu3 uu4 uu5 uu6 uu7 uu8 uu9) : (Jvm.Cond.instanceMethod ({ cls := "java/lang/Object", name := "clone", desc := "()Ljava/lang/Object;" } : Jvm.MethodName)).before a0 Z = true := V.1 _ (List.mem_of_getElem? (i := 18) rfl)
theorem wd19 (V : Env1 Z a0 n0 uu0 uu1 uu2 uu3 uu4 uu5 uu6 uu7 uu8 uu9) : (Jvm.Cond.selects "[I" ({ cls := "[I", name := "clone", desc := "()Ljava/lang/Object;" } : Jvm.MethodName) ({ cls := "java/lang/Object", name := "clone", desc := "()Ljava/lang/Object;" } : Jvm.MethodName)).before a0 Z = true := V.1 _ (List.mem_of_getElem? (i := 19) rfl)
theorem wd20 (V : Env1 Z a0 n0 uu0 uu1 uu2 uu3 uu4 uu5 uu6 uu7 uu8 uu9) : (Jvm.Cond.native ({ cls := "java/lang/Object", name := "clone", desc := "()Ljava/lang/Object;" } : Jvm.MethodName)).before a0 Z = true := V.1 _ (List.mem_of_getElem? (i := 20) rfl)
theorem wd21 (V : Env1 Z a0 n0 uu0 uu1 uu2 uu3 uu4 uu5 uu6 uu7 uu8 uu9) : (Jvm.Cond.castable "[I" "java/lang/Cloneable").before a0 Z = true := V.1 _ (List.mem_of_getElem? (i := 21) rfl)
theorem wd22 (V : Env1 Z a0 n0 uu0 uu1 uu2 uu3 uu4 uu5 uu6 uu7 uu8 uu9) : (Jvm.Cond.classLink "com/example/passenger_flow_sim/passengerflowsim/timetable/Trip" (51 : Nat) "[I").before a0 Z = true := V.1 _ (List.mem_of_getElem? (i := 22) rfl)
theorem wd24 (V : Env1 Z a0 n0 uu0 uu1 uu2 uu3 uu4 uu5 uu6 uu7 uu8 uu9) : (Jvm.Cond.fieldLink "com/example/passenger_flow_sim/passengerflowsim/timetable/Trip" (56 : Nat) "com/example/passenger_flow_sim/passengerflowsim/timetable/Trip" "stops" "[I").before a0 Z = true := V.1 _ (List.mem_of_getElem? (i := 24) rfl)
theorem wd25 (V : Env1 Z a0 n0 uu0 uu1 uu2 uu3 uu4 uu5 uu6 uu7 uu8 uu9) : (Jvm.Cond.laysFinal "com/example/passenger_flow_sim/passengerflowsim/timetable/Trip" "com/example/passenger_flow_sim/passengerflowsim/timetable/Trip" "stops" "[I").before a0 Z = true := V.1 _ (List.mem_of_getElem? (i := 25) rfl)
theorem wd26 (V : Env1 Z a0 n0 uu0 uu1 uu2 uu3 uu4 uu5 uu6 uu7 uu8 uu9) : (Jvm.Cond.fieldLink "com/example/passenger_flow_sim/passengerflowsim/timetable/Trip" (59 : Nat) "com/example/passenger_flow_sim/passengerflowsim/timetable/Trip" "arrivals" "[I").before a0 Z = true := V.1 _ (List.mem_of_getElem? (i := 26) rfl)
theorem wd27 (V : Env1 Z a0 n0 uu0 uu1 uu2 uu3 uu4 uu5 uu6 uu7 uu8 uu9) : (Jvm.Cond.laysFinal "com/example/passenger_flow_sim/passengerflowsim/timetable/Trip" "com/example/passenger_flow_sim/passengerflowsim/timetable/Trip" "arrivals" "[I").before a0 Z = true := V.1 _ (List.mem_of_getElem? (i := 27) rfl)
theorem wd28 (V : Env1 Z a0 n0 uu0 uu1 uu2 uu3 uu4 uu5 uu6 uu7 uu8 uu9) : (Jvm.Cond.fieldLink "com/example/passenger_flow_sim/passengerflowsim/timetable/Trip" (62 : Nat) "com/example/passenger_flow_sim/passengerflowsim/timetable/Trip" "departures" "[I").before a0 Z = true := V.1 _ (List.mem_of_getElem? (i := 28) rfl)
theorem wd29 (V : Env1 Z a0 n0 uu0 uu1 uu2 uu3 uu4 uu5 uu6 uu7 uu8 uu9) : (Jvm.Cond.laysFinal "com/example/passenger_flow_sim/passengerflowsim/timetable/Trip" "com/example/passenger_flow_sim/passengerflowsim/timetable/Trip" "departures" "[I").before a0 Z = true := V.1 _ (List.mem_of_getElem? (i := 29) rfl)
theorem wd30 (V : Env1 Z a0 n0 uu0 uu1 uu2 uu3 uu4 uu5 uu6 uu7 uu8 uu9) : (Jvm.Cond.classLink "com/example/passenger_flow_sim/passengerflowsim/simulation/VehicleLeavePinLaw" (13 : Nat) "com/example/passenger_flow_sim/passengerflowsim/simulation/Vehicle").before a0 Z = true := V.1 _ (List.mem_of_getElem? (i := 30) rfl)
theorem wd31 (V : Env1 Z a0 n0 uu0 uu1 uu2 uu3 uu4 uu5 uu6 uu7 uu8 uu9) : (Jvm.Cond.instantiable "com/example/passenger_flow_sim/passengerflowsim/simulation/Vehicle" (7 : Nat)).before a0 Z = true := V.1 _ (List.mem_of_getElem? (i := 31) rfl)
theorem wd32 (V : Env1 Z a0 n0 uu0 uu1 uu2 uu3 uu4 uu5 uu6 uu7 uu8 uu9) : (Jvm.Cond.initialized "com/example/passenger_flow_sim/passengerflowsim/simulation/Vehicle").before a0 Z = true := V.1 _ (List.mem_of_getElem? (i := 32) rfl)
theorem wd33 (V : Env1 Z a0 n0 uu0 uu1 uu2 uu3 uu4 uu5 uu6 uu7 uu8 uu9) : (Jvm.Cond.methodLink "com/example/passenger_flow_sim/passengerflowsim/simulation/VehicleLeavePinLaw" (15 : Nat) ({ cls := "com/example/passenger_flow_sim/passengerflowsim/simulation/Vehicle", name := "<init>", desc := "(Lcom/example/passenger_flow_sim/passengerflowsim/timetable/Trip;I)V" } : Jvm.MethodName)).before a0 Z = true := V.1 _ (List.mem_of_getElem? (i := 33) rfl)
theorem wd34 (V : Env1 Z a0 n0 uu0 uu1 uu2 uu3 uu4 uu5 uu6 uu7 uu8 uu9) : (Jvm.Cond.instanceMethod ({ cls := "com/example/passenger_flow_sim/passengerflowsim/simulation/Vehicle", name := "<init>", desc := "(Lcom/example/passenger_flow_sim/passengerflowsim/timetable/Trip;I)V" } : Jvm.MethodName)).before a0 Z = true := V.1 _ (List.mem_of_getElem? (i := 34) rfl)
theorem wd35 (V : Env1 Z a0 n0 uu0 uu1 uu2 uu3 uu4 uu5 uu6 uu7 uu8 uu9) : (Jvm.Cond.code ({ cls := "com/example/passenger_flow_sim/passengerflowsim/simulation/Vehicle", name := "<init>", desc := "(Lcom/example/passenger_flow_sim/passengerflowsim/timetable/Trip;I)V" } : Jvm.MethodName) prog_32_method_1_code (3 : Nat) (Option.none : Option Jvm.ClassFile.FieldType)).before a0 Z = true := V.1 _ (List.mem_of_getElem? (i := 35) rfl)
theorem wd36 (V : Env1 Z a0 n0 uu0 uu1 uu2 uu3 uu4 uu5 uu6 uu7 uu8 uu9) : (Jvm.Cond.methodLink "com/example/passenger_flow_sim/passengerflowsim/simulation/Vehicle" (1 : Nat) ({ cls := "java/lang/Object", name := "<init>", desc := "()V" } : Jvm.MethodName)).before a0 Z = true := V.1 _ (List.mem_of_getElem? (i := 36) rfl)
theorem wd37 (V : Env1 Z a0 n0 uu0 uu1 uu2 uu3 uu4 uu5 uu6 uu7 uu8 uu9) : (Jvm.Cond.fieldLink "com/example/passenger_flow_sim/passengerflowsim/simulation/Vehicle" (7 : Nat) "com/example/passenger_flow_sim/passengerflowsim/simulation/Vehicle" "trip" "Lcom/example/passenger_flow_sim/passengerflowsim/timetable/Trip;").before a0 Z = true := V.1 _ (List.mem_of_getElem? (i := 37) rfl)
theorem wd38 (V : Env1 Z a0 n0 uu0 uu1 uu2 uu3 uu4 uu5 uu6 uu7 uu8 uu9) : (Jvm.Cond.laysFinal "com/example/passenger_flow_sim/passengerflowsim/simulation/Vehicle" "com/example/passenger_flow_sim/passengerflowsim/simulation/Vehicle" "trip" "Lcom/example/passenger_flow_sim/passengerflowsim/timetable/Trip;").before a0 Z = true := V.1 _ (List.mem_of_getElem? (i := 38) rfl)
theorem wd39 (V : Env1 Z a0 n0 uu0 uu1 uu2 uu3 uu4 uu5 uu6 uu7 uu8 uu9) : (Jvm.Cond.fieldLink "com/example/passenger_flow_sim/passengerflowsim/simulation/Vehicle" (13 : Nat) "com/example/passenger_flow_sim/passengerflowsim/simulation/Vehicle" "order" "I").before a0 Z = true := V.1 _ (List.mem_of_getElem? (i := 39) rfl)
theorem wd40 (V : Env1 Z a0 n0 uu0 uu1 uu2 uu3 uu4 uu5 uu6 uu7 uu8 uu9) : (Jvm.Cond.laysFinal "com/example/passenger_flow_sim/passengerflowsim/simulation/Vehicle" "com/example/passenger_flow_sim/passengerflowsim/simulation/Vehicle" "order" "I").before a0 Z = true := V.1 _ (List.mem_of_getElem? (i := 40) rfl)
theorem wd41 (V : Env1 Z a0 n0 uu0 uu1 uu2 uu3 uu4 uu5 uu6 uu7 uu8 uu9) : (Jvm.Cond.methodLink "com/example/passenger_flow_sim/passengerflowsim/simulation/Vehicle" (17 : Nat) ({ cls := "com/example/passenger_flow_sim/passengerflowsim/timetable/Trip", name := "length", desc := "()I" } : Jvm.MethodName)).before a0 Z = true := V.1 _ (List.mem_of_getElem? (i := 41) rfl)
theorem wd42 (V : Env1 Z a0 n0 uu0 uu1 uu2 uu3 uu4 uu5 uu6 uu7 uu8 uu9) : (Jvm.Cond.declares ({ cls := "com/example/passenger_flow_sim/passengerflowsim/timetable/Trip", name := "length", desc := "()I" } : Jvm.MethodName)).before a0 Z = true := V.1 _ (List.mem_of_getElem? (i := 42) rfl)
theorem wd43 (V : Env1 Z a0 n0 uu0 uu1 uu2 uu3 uu4 uu5 uu6 uu7 uu8 uu9) : (Jvm.Cond.instanceMethod ({ cls := "com/example/passenger_flow_sim/passengerflowsim/timetable/Trip", name := "length", desc := "()I" } : Jvm.MethodName)).before a0 Z = true := V.1 _ (List.mem_of_getElem? (i := 43) rfl)
theorem wd44 (V : Env1 Z a0 n0 uu0 uu1 uu2 uu3 uu4 uu5 uu6 uu7 uu8 uu9) : (Jvm.Cond.selects "com/example/passenger_flow_sim/passengerflowsim/timetable/Trip" ({ cls := "com/example/passenger_flow_sim/passengerflowsim/timetable/Trip", name := "length", desc := "()I" } : Jvm.MethodName) ({ cls := "com/example/passenger_flow_sim/passengerflowsim/timetable/Trip", name := "length", desc := "()I" } : Jvm.MethodName)).before a0 Z = true := V.1 _ (List.mem_of_getElem? (i := 44) rfl)
theorem wd45 (V : Env1 Z a0 n0 uu0 uu1 uu2 uu3 uu4 uu5 uu6 uu7 uu8 uu9) : (Jvm.Cond.code ({ cls := "com/example/passenger_flow_sim/passengerflowsim/timetable/Trip", name := "length", desc := "()I" } : Jvm.MethodName) prog_42_method_4_code (1 : Nat) (Option.some Jvm.ClassFile.FieldType.int)).before a0 Z = true := V.1 _ (List.mem_of_getElem? (i := 45) rfl)
theorem wd46 (V : Env1 Z a0 n0 uu0 uu1 uu2 uu3 uu4 uu5 uu6 uu7 uu8 uu9) : (Jvm.Cond.fieldLink "com/example/passenger_flow_sim/passengerflowsim/simulation/Vehicle" (23 : Nat) "com/example/passenger_flow_sim/passengerflowsim/simulation/Vehicle" "loads" "[I").before a0 Z = true := V.1 _ (List.mem_of_getElem? (i := 46) rfl)
theorem wd47 (V : Env1 Z a0 n0 uu0 uu1 uu2 uu3 uu4 uu5 uu6 uu7 uu8 uu9) : (Jvm.Cond.laysFinal "com/example/passenger_flow_sim/passengerflowsim/simulation/Vehicle" "com/example/passenger_flow_sim/passengerflowsim/simulation/Vehicle" "loads" "[I").before a0 Z = true := V.1 _ (List.mem_of_getElem? (i := 47) rfl)
theorem wd48 (V : Env1 Z a0 n0 uu0 uu1 uu2 uu3 uu4 uu5 uu6 uu7 uu8 uu9) : (Jvm.Cond.classLink "com/example/passenger_flow_sim/passengerflowsim/simulation/Vehicle" (27 : Nat) "java/util/ArrayList").before a0 Z = true := V.1 _ (List.mem_of_getElem? (i := 48) rfl)
theorem wd49 (V : Env1 Z a0 n0 uu0 uu1 uu2 uu3 uu4 uu5 uu6 uu7 uu8 uu9) : (Jvm.Cond.instantiable "java/util/ArrayList" (3 : Nat)).before a0 Z = true := V.1 _ (List.mem_of_getElem? (i := 49) rfl)
theorem wd50 (V : Env1 Z a0 n0 uu0 uu1 uu2 uu3 uu4 uu5 uu6 uu7 uu8 uu9) : (Jvm.Cond.initialized "java/util/ArrayList").before a0 Z = true := V.1 _ (List.mem_of_getElem? (i := 50) rfl)
theorem wd51 (V : Env1 Z a0 n0 uu0 uu1 uu2 uu3 uu4 uu5 uu6 uu7 uu8 uu9) : (Jvm.Cond.methodLink "com/example/passenger_flow_sim/passengerflowsim/simulation/Vehicle" (29 : Nat) ({ cls := "java/util/Collections", name := "nCopies", desc := "(ILjava/lang/Object;)Ljava/util/List;" } : Jvm.MethodName)).before a0 Z = true := V.1 _ (List.mem_of_getElem? (i := 51) rfl)
theorem wd52 (V : Env1 Z a0 n0 uu0 uu1 uu2 uu3 uu4 uu5 uu6 uu7 uu8 uu9) : (Jvm.Cond.static ({ cls := "java/util/Collections", name := "nCopies", desc := "(ILjava/lang/Object;)Ljava/util/List;" } : Jvm.MethodName)).before a0 Z = true := V.1 _ (List.mem_of_getElem? (i := 52) rfl)
theorem wd53 (V : Env1 Z a0 n0 uu0 uu1 uu2 uu3 uu4 uu5 uu6 uu7 uu8 uu9) : (Jvm.Cond.initialized "java/util/Collections").before a0 Z = true := V.1 _ (List.mem_of_getElem? (i := 53) rfl)
theorem wd54 (V : Env1 Z a0 n0 uu0 uu1 uu2 uu3 uu4 uu5 uu6 uu7 uu8 uu9) : (Jvm.Cond.code ({ cls := "java/util/Collections", name := "nCopies", desc := "(ILjava/lang/Object;)Ljava/util/List;" } : Jvm.MethodName) jdk_79_method_76_code (2 : Nat) (Option.some (Jvm.ClassFile.FieldType.object "java/util/List"))).before a0 Z = true := V.1 _ (List.mem_of_getElem? (i := 54) rfl)
theorem wd55 (V : Env1 Z a0 n0 uu0 uu1 uu2 uu3 uu4 uu5 uu6 uu7 uu8 uu9) : (Jvm.Cond.classLink "java/util/Collections" (417 : Nat) "java/util/Collections$CopiesList").before a0 Z = true := V.1 _ (List.mem_of_getElem? (i := 55) rfl)
theorem wd56 (V : Env1 Z a0 n0 uu0 uu1 uu2 uu3 uu4 uu5 uu6 uu7 uu8 uu9) : (Jvm.Cond.instantiable "java/util/Collections$CopiesList" (3 : Nat)).before a0 Z = true := V.1 _ (List.mem_of_getElem? (i := 56) rfl)
theorem wd57 (V : Env1 Z a0 n0 uu0 uu1 uu2 uu3 uu4 uu5 uu6 uu7 uu8 uu9) : (Jvm.Cond.initialized "java/util/Collections$CopiesList").before a0 Z = true := V.1 _ (List.mem_of_getElem? (i := 57) rfl)
theorem wd58 (V : Env1 Z a0 n0 uu0 uu1 uu2 uu3 uu4 uu5 uu6 uu7 uu8 uu9) : (Jvm.Cond.methodLink "java/util/Collections" (419 : Nat) ({ cls := "java/util/Collections$CopiesList", name := "<init>", desc := "(ILjava/lang/Object;)V" } : Jvm.MethodName)).before a0 Z = true := V.1 _ (List.mem_of_getElem? (i := 58) rfl)
theorem wd59 (V : Env1 Z a0 n0 uu0 uu1 uu2 uu3 uu4 uu5 uu6 uu7 uu8 uu9) : (Jvm.Cond.instanceMethod ({ cls := "java/util/Collections$CopiesList", name := "<init>", desc := "(ILjava/lang/Object;)V" } : Jvm.MethodName)).before a0 Z = true := V.1 _ (List.mem_of_getElem? (i := 59) rfl)
theorem wd61 (V : Env1 Z a0 n0 uu0 uu1 uu2 uu3 uu4 uu5 uu6 uu7 uu8 uu9) : (Jvm.Cond.code ({ cls := "java/util/Collections$CopiesList", name := "<init>", desc := "(ILjava/lang/Object;)V" } : Jvm.MethodName) jdk_2479_method_1_code (3 : Nat) (Option.none : Option Jvm.ClassFile.FieldType)).before a0 Z = true := V.1 _ (List.mem_of_getElem? (i := 61) rfl)
theorem wd62 (V : Env1 Z a0 n0 uu0 uu1 uu2 uu3 uu4 uu5 uu6 uu7 uu8 uu9) : (Jvm.Cond.methodLink "java/util/Collections$CopiesList" (1 : Nat) ({ cls := "java/util/AbstractList", name := "<init>", desc := "()V" } : Jvm.MethodName)).before a0 Z = true := V.1 _ (List.mem_of_getElem? (i := 62) rfl)
theorem wd63 (V : Env1 Z a0 n0 uu0 uu1 uu2 uu3 uu4 uu5 uu6 uu7 uu8 uu9) : (Jvm.Cond.instanceMethod ({ cls := "java/util/AbstractList", name := "<init>", desc := "()V" } : Jvm.MethodName)).before a0 Z = true := V.1 _ (List.mem_of_getElem? (i := 63) rfl)
theorem wd66 (V : Env1 Z a0 n0 uu0 uu1 uu2 uu3 uu4 uu5 uu6 uu7 uu8 uu9) : (Jvm.Cond.initialized "java/util/AbstractList").before a0 Z = true := V.1 _ (List.mem_of_getElem? (i := 66) rfl)
theorem wd67 (V : Env1 Z a0 n0 uu0 uu1 uu2 uu3 uu4 uu5 uu6 uu7 uu8 uu9) : (Jvm.Cond.code ({ cls := "java/util/AbstractList", name := "<init>", desc := "()V" } : Jvm.MethodName) jdk_39_method_1_code (1 : Nat) (Option.none : Option Jvm.ClassFile.FieldType)).before a0 Z = true := V.1 _ (List.mem_of_getElem? (i := 67) rfl)
theorem wd68 (V : Env1 Z a0 n0 uu0 uu1 uu2 uu3 uu4 uu5 uu6 uu7 uu8 uu9) : (Jvm.Cond.methodLink "java/util/AbstractList" (1 : Nat) ({ cls := "java/util/AbstractCollection", name := "<init>", desc := "()V" } : Jvm.MethodName)).before a0 Z = true := V.1 _ (List.mem_of_getElem? (i := 68) rfl)
theorem wd69 (V : Env1 Z a0 n0 uu0 uu1 uu2 uu3 uu4 uu5 uu6 uu7 uu8 uu9) : (Jvm.Cond.instanceMethod ({ cls := "java/util/AbstractCollection", name := "<init>", desc := "()V" } : Jvm.MethodName)).before a0 Z = true := V.1 _ (List.mem_of_getElem? (i := 69) rfl)
theorem wd72 (V : Env1 Z a0 n0 uu0 uu1 uu2 uu3 uu4 uu5 uu6 uu7 uu8 uu9) : (Jvm.Cond.initialized "java/util/AbstractCollection").before a0 Z = true := V.1 _ (List.mem_of_getElem? (i := 72) rfl)
theorem wd73 (V : Env1 Z a0 n0 uu0 uu1 uu2 uu3 uu4 uu5 uu6 uu7 uu8 uu9) : (Jvm.Cond.code ({ cls := "java/util/AbstractCollection", name := "<init>", desc := "()V" } : Jvm.MethodName) jdk_22_method_1_code (1 : Nat) (Option.none : Option Jvm.ClassFile.FieldType)).before a0 Z = true := V.1 _ (List.mem_of_getElem? (i := 73) rfl)
theorem wd74 (V : Env1 Z a0 n0 uu0 uu1 uu2 uu3 uu4 uu5 uu6 uu7 uu8 uu9) : (Jvm.Cond.methodLink "java/util/AbstractCollection" (1 : Nat) ({ cls := "java/lang/Object", name := "<init>", desc := "()V" } : Jvm.MethodName)).before a0 Z = true := V.1 _ (List.mem_of_getElem? (i := 74) rfl)
theorem wd75 (V : Env1 Z a0 n0 uu0 uu1 uu2 uu3 uu4 uu5 uu6 uu7 uu8 uu9) : (Jvm.Cond.fieldLink "java/util/AbstractList" (7 : Nat) "java/util/AbstractList" "modCount" "I").before a0 Z = true := V.1 _ (List.mem_of_getElem? (i := 75) rfl)
theorem wd76 (V : Env1 Z a0 n0 uu0 uu1 uu2 uu3 uu4 uu5 uu6 uu7 uu8 uu9) : (Jvm.Cond.lays "java/util/Collections$CopiesList" "java/util/AbstractList" "modCount" "I").before a0 Z = true := V.1 _ (List.mem_of_getElem? (i := 76) rfl)
theorem wd77 (V : Env1 Z a0 n0 uu0 uu1 uu2 uu3 uu4 uu5 uu6 uu7 uu8 uu9) : (Jvm.Cond.fieldLink "java/util/Collections$CopiesList" (7 : Nat) "java/util/Collections$CopiesList" "$assertionsDisabled" "Z").before a0 Z = true := V.1 _ (List.mem_of_getElem? (i := 77) rfl)
theorem wd78 (V : Env1 Z a0 n0 uu0 uu1 uu2 uu3 uu4 uu5 uu6 uu7 uu8 uu9) : (Jvm.Cond.fieldLink "java/util/Collections$CopiesList" (16 : Nat) "java/util/Collections$CopiesList" "n" "I").before a0 Z = true := V.1 _ (List.mem_of_getElem? (i := 78) rfl)
theorem wd79 (V : Env1 Z a0 n0 uu0 uu1 uu2 uu3 uu4 uu5 uu6 uu7 uu8 uu9) : (Jvm.Cond.laysFinal "java/util/Collections$CopiesList" "java/util/Collections$CopiesList" "n" "I").before a0 Z = true := V.1 _ (List.mem_of_getElem? (i := 79) rfl)
theorem wd80 (V : Env1 Z a0 n0 uu0 uu1 uu2 uu3 uu4 uu5 uu6 uu7 uu8 uu9) : (Jvm.Cond.fieldLink "java/util/Collections$CopiesList" (20 : Nat) "java/util/Collections$CopiesList" "element" "Ljava/lang/Object;").before a0 Z = true := V.1 _ (List.mem_of_getElem? (i := 80) rfl)
theorem wd81 (V : Env1 Z a0 n0 uu0 uu1 uu2 uu3 uu4 uu5 uu6 uu7 uu8 uu9) : (Jvm.Cond.laysFinal "java/util/Collections$CopiesList" "java/util/Collections$CopiesList" "element" "Ljava/lang/Object;").before a0 Z = true := V.1 _ (List.mem_of_getElem? (i := 81) rfl)
theorem wd82 (V : Env1 Z a0 n0 uu0 uu1 uu2 uu3 uu4 uu5 uu6 uu7 uu8 uu9) : (Jvm.Cond.methodLink "com/example/passenger_flow_sim/passengerflowsim/simulation/Vehicle" (35 : Nat) ({ cls := "java/util/ArrayList", name := "<init>", desc := "(Ljava/util/Collection;)V" } : Jvm.MethodName)).before a0 Z = true := V.1 _ (List.mem_of_getElem? (i := 82) rfl)
theorem wd83 (V : Env1 Z a0 n0 uu0 uu1 uu2 uu3 uu4 uu5 uu6 uu7 uu8 uu9) : (Jvm.Cond.instanceMethod ({ cls := "java/util/ArrayList", name := "<init>", desc := "(Ljava/util/Collection;)V" } : Jvm.MethodName)).before a0 Z = true := V.1 _ (List.mem_of_getElem? (i := 83) rfl)
theorem wd84 (V : Env1 Z a0 n0 uu0 uu1 uu2 uu3 uu4 uu5 uu6 uu7 uu8 uu9) : (Jvm.Cond.code ({ cls := "java/util/ArrayList", name := "<init>", desc := "(Ljava/util/Collection;)V" } : Jvm.MethodName) jdk_38_method_3_code (3 : Nat) (Option.none : Option Jvm.ClassFile.FieldType)).before a0 Z = true := V.1 _ (List.mem_of_getElem? (i := 84) rfl)
theorem wd85 (V : Env1 Z a0 n0 uu0 uu1 uu2 uu3 uu4 uu5 uu6 uu7 uu8 uu9) : (Jvm.Cond.methodLink "java/util/ArrayList" (1 : Nat) ({ cls := "java/util/AbstractList", name := "<init>", desc := "()V" } : Jvm.MethodName)).before a0 Z = true := V.1 _ (List.mem_of_getElem? (i := 85) rfl)
theorem wd88 (V : Env1 Z a0 n0 uu0 uu1 uu2 uu3 uu4 uu5 uu6 uu7 uu8 uu9) : (Jvm.Cond.lays "java/util/ArrayList" "java/util/AbstractList" "modCount" "I").before a0 Z = true := V.1 _ (List.mem_of_getElem? (i := 88) rfl)
theorem wd89 (V : Env1 Z a0 n0 uu0 uu1 uu2 uu3 uu4 uu5 uu6 uu7 uu8 uu9) : (Jvm.Cond.methodLink "java/util/ArrayList" (42 : Nat) ({ cls := "java/util/Collection", name := "toArray", desc := "()[Ljava/lang/Object;" } : Jvm.MethodName)).before a0 Z = true := V.1 _ (List.mem_of_getElem? (i := 89) rfl)
theorem wd90 (V : Env1 Z a0 n0 uu0 uu1 uu2 uu3 uu4 uu5 uu6 uu7 uu8 uu9) : (Jvm.Cond.declares ({ cls := "java/util/Collection", name := "toArray", desc := "()[Ljava/lang/Object;" } : Jvm.MethodName)).before a0 Z = true := V.1 _ (List.mem_of_getElem? (i := 90) rfl)
theorem wd91 (V : Env1 Z a0 n0 uu0 uu1 uu2 uu3 uu4 uu5 uu6 uu7 uu8 uu9) : (Jvm.Cond.interfaceMethod "java/util/Collection" "java/util/Collection" "toArray" "()[Ljava/lang/Object;").before a0 Z = true := V.1 _ (List.mem_of_getElem? (i := 91) rfl)
theorem wd92 (V : Env1 Z a0 n0 uu0 uu1 uu2 uu3 uu4 uu5 uu6 uu7 uu8 uu9) : (Jvm.Cond.selects "java/util/Collections$CopiesList" ({ cls := "java/util/Collection", name := "toArray", desc := "()[Ljava/lang/Object;" } : Jvm.MethodName) ({ cls := "java/util/Collections$CopiesList", name := "toArray", desc := "()[Ljava/lang/Object;" } : Jvm.MethodName)).before a0 Z = true := V.1 _ (List.mem_of_getElem? (i := 92) rfl)
theorem wd93 (V : Env1 Z a0 n0 uu0 uu1 uu2 uu3 uu4 uu5 uu6 uu7 uu8 uu9) : (Jvm.Cond.instanceMethod ({ cls := "java/util/Collections$CopiesList", name := "toArray", desc := "()[Ljava/lang/Object;" } : Jvm.MethodName)).before a0 Z = true := V.1 _ (List.mem_of_getElem? (i := 93) rfl)
theorem wd94 (V : Env1 Z a0 n0 uu0 uu1 uu2 uu3 uu4 uu5 uu6 uu7 uu8 uu9) : (Jvm.Cond.publicMethod ({ cls := "java/util/Collections$CopiesList", name := "toArray", desc := "()[Ljava/lang/Object;" } : Jvm.MethodName)).before a0 Z = true := V.1 _ (List.mem_of_getElem? (i := 94) rfl)
theorem wd95 (V : Env1 Z a0 n0 uu0 uu1 uu2 uu3 uu4 uu5 uu6 uu7 uu8 uu9) : (Jvm.Cond.unhidden "java/util/Collections$CopiesList" "toArray" "()[Ljava/lang/Object;").before a0 Z = true := V.1 _ (List.mem_of_getElem? (i := 95) rfl)
theorem wd96 (V : Env1 Z a0 n0 uu0 uu1 uu2 uu3 uu4 uu5 uu6 uu7 uu8 uu9) : (Jvm.Cond.castable "java/util/Collections$CopiesList" "java/util/Collection").before a0 Z = true := V.1 _ (List.mem_of_getElem? (i := 96) rfl)
theorem wd97 (V : Env1 Z a0 n0 uu0 uu1 uu2 uu3 uu4 uu5 uu6 uu7 uu8 uu9) : (Jvm.Cond.code ({ cls := "java/util/Collections$CopiesList", name := "toArray", desc := "()[Ljava/lang/Object;" } : Jvm.MethodName) jdk_2479_method_8_code (2 : Nat) (Option.some (Jvm.ClassFile.FieldType.array (Jvm.ClassFile.FieldType.object "java/lang/Object")))).before a0 Z = true := V.1 _ (List.mem_of_getElem? (i := 97) rfl)
theorem wd98 (V : Env1 Z a0 n0 uu0 uu1 uu2 uu3 uu4 uu5 uu6 uu7 uu8 uu9) : (Jvm.Cond.classLink "java/util/Collections$CopiesList" (50 : Nat) "java/lang/Object").before a0 Z = true := V.1 _ (List.mem_of_getElem? (i := 98) rfl)
theorem wd99 (V : Env1 Z a0 n0 uu0 uu1 uu2 uu3 uu4 uu5 uu6 uu7 uu8 uu9) : (Jvm.Cond.arrayOver (Jvm.ClassFile.FieldType.object "java/lang/Object")).before a0 Z = true := V.1 _ (List.mem_of_getElem? (i := 99) rfl)
theorem wd100 (V : Env1 Z a0 n0 uu0 uu1 uu2 uu3 uu4 uu5 uu6 uu7 uu8 uu9) : (Jvm.Cond.fieldLink "java/util/ArrayList" (48 : Nat) "java/util/ArrayList" "size" "I").before a0 Z = true := V.1 _ (List.mem_of_getElem? (i := 100) rfl)
theorem wd101 (V : Env1 Z a0 n0 uu0 uu1 uu2 uu3 uu4 uu5 uu6 uu7 uu8 uu9) : (Jvm.Cond.lays "java/util/ArrayList" "java/util/ArrayList" "size" "I").before a0 Z = true := V.1 _ (List.mem_of_getElem? (i := 101) rfl)
theorem wd102 (V : Env1 Z a0 n0 uu0 uu1 uu2 uu3 uu4 uu5 uu6 uu7 uu8 uu9) : (Jvm.Cond.methodLink "java/util/ArrayList" (52 : Nat) ({ cls := "java/util/Collection", name := "getClass", desc := "()Ljava/lang/Class;" } : Jvm.MethodName)).before a0 Z = true := V.1 _ (List.mem_of_getElem? (i := 102) rfl)
theorem wd103 (V : Env1 Z a0 n0 uu0 uu1 uu2 uu3 uu4 uu5 uu6 uu7 uu8 uu9) : (Jvm.Cond.declares ({ cls := "java/lang/Object", name := "getClass", desc := "()Ljava/lang/Class;" } : Jvm.MethodName)).before a0 Z = true := V.1 _ (List.mem_of_getElem? (i := 103) rfl)
theorem wd104 (V : Env1 Z a0 n0 uu0 uu1 uu2 uu3 uu4 uu5 uu6 uu7 uu8 uu9) : (Jvm.Cond.interfaceMethod "java/util/Collection" "java/lang/Object" "getClass" "()Ljava/lang/Class;").before a0 Z = true := V.1 _ (List.mem_of_getElem? (i := 104) rfl)
theorem wd105 (V : Env1 Z a0 n0 uu0 uu1 uu2 uu3 uu4 uu5 uu6 uu7 uu8 uu9) : (Jvm.Cond.selects "java/util/Collections$CopiesList" ({ cls := "java/util/Collection", name := "getClass", desc := "()Ljava/lang/Class;" } : Jvm.MethodName) ({ cls := "java/lang/Object", name := "getClass", desc := "()Ljava/lang/Class;" } : Jvm.MethodName)).before a0 Z = true := V.1 _ (List.mem_of_getElem? (i := 105) rfl)
theorem wd106 (V : Env1 Z a0 n0 uu0 uu1 uu2 uu3 uu4 uu5 uu6 uu7 uu8 uu9) : (Jvm.Cond.instanceMethod ({ cls := "java/lang/Object", name := "getClass", desc := "()Ljava/lang/Class;" } : Jvm.MethodName)).before a0 Z = true := V.1 _ (List.mem_of_getElem? (i := 106) rfl)
theorem wd107 (V : Env1 Z a0 n0 uu0 uu1 uu2 uu3 uu4 uu5 uu6 uu7 uu8 uu9) : (Jvm.Cond.publicMethod ({ cls := "java/lang/Object", name := "getClass", desc := "()Ljava/lang/Class;" } : Jvm.MethodName)).before a0 Z = true := V.1 _ (List.mem_of_getElem? (i := 107) rfl)
theorem wd108 (V : Env1 Z a0 n0 uu0 uu1 uu2 uu3 uu4 uu5 uu6 uu7 uu8 uu9) : (Jvm.Cond.unhidden "java/util/Collections$CopiesList" "getClass" "()Ljava/lang/Class;").before a0 Z = true := V.1 _ (List.mem_of_getElem? (i := 108) rfl)
theorem wd109 (V : Env1 Z a0 n0 uu0 uu1 uu2 uu3 uu4 uu5 uu6 uu7 uu8 uu9) : (Jvm.Cond.native ({ cls := "java/lang/Object", name := "getClass", desc := "()Ljava/lang/Class;" } : Jvm.MethodName)).before a0 Z = true := V.1 _ (List.mem_of_getElem? (i := 109) rfl)
theorem wd110 (V : Env1 Z a0 n0 uu0 uu1 uu2 uu3 uu4 uu5 uu6 uu7 uu8 uu9) : (Jvm.Cond.classLink "java/util/ArrayList" (10 : Nat) "java/util/ArrayList").before a0 Z = true := V.1 _ (List.mem_of_getElem? (i := 110) rfl)
theorem wd112 (V : Env1 Z a0 n0 uu0 uu1 uu2 uu3 uu4 uu5 uu6 uu7 uu8 uu9) : (Jvm.Cond.classLink "java/util/ArrayList" (56 : Nat) "[Ljava/lang/Object;").before a0 Z = true := V.1 _ (List.mem_of_getElem? (i := 112) rfl)
theorem wd114 (V : Env1 Z a0 n0 uu0 uu1 uu2 uu3 uu4 uu5 uu6 uu7 uu8 uu9) : (Jvm.Cond.methodLink "java/util/ArrayList" (57 : Nat) ({ cls := "java/util/Arrays", name := "copyOf", desc := "([Ljava/lang/Object;ILjava/lang/Class;)[Ljava/lang/Object;" } : Jvm.MethodName)).before a0 Z = true := V.1 _ (List.mem_of_getElem? (i := 114) rfl)
theorem wd115 (V : Env1 Z a0 n0 uu0 uu1 uu2 uu3 uu4 uu5 uu6 uu7 uu8 uu9) : (Jvm.Cond.static ({ cls := "java/util/Arrays", name := "copyOf", desc := "([Ljava/lang/Object;ILjava/lang/Class;)[Ljava/lang/Object;" } : Jvm.MethodName)).before a0 Z = true := V.1 _ (List.mem_of_getElem? (i := 115) rfl)
theorem wd116 (V : Env1 Z a0 n0 uu0 uu1 uu2 uu3 uu4 uu5 uu6 uu7 uu8 uu9) : (Jvm.Cond.initialized "java/util/Arrays").before a0 Z = true := V.1 _ (List.mem_of_getElem? (i := 116) rfl)
theorem wd117 (V : Env1 Z a0 n0 uu0 uu1 uu2 uu3 uu4 uu5 uu6 uu7 uu8 uu9) : (Jvm.Cond.code ({ cls := "java/util/Arrays", name := "copyOf", desc := "([Ljava/lang/Object;ILjava/lang/Class;)[Ljava/lang/Object;" } : Jvm.MethodName) jdk_65_method_120_code (4 : Nat) (Option.some (Jvm.ClassFile.FieldType.array (Jvm.ClassFile.FieldType.object "java/lang/Object")))).before a0 Z = true := V.1 _ (List.mem_of_getElem? (i := 117) rfl)
theorem wd118 (V : Env1 Z a0 n0 uu0 uu1 uu2 uu3 uu4 uu5 uu6 uu7 uu8 uu9) : (Jvm.Cond.classLink "java/util/Arrays" (110 : Nat) "[Ljava/lang/Object;").before a0 Z = true := V.1 _ (List.mem_of_getElem? (i := 118) rfl)
theorem wd119 (V : Env1 Z a0 n0 uu0 uu1 uu2 uu3 uu4 uu5 uu6 uu7 uu8 uu9) : (Jvm.Cond.classLink "java/util/Arrays" (2 : Nat) "java/lang/Object").before a0 Z = true := V.1 _ (List.mem_of_getElem? (i := 119) rfl)
theorem wd120 (V : Env1 Z a0 n0 uu0 uu1 uu2 uu3 uu4 uu5 uu6 uu7 uu8 uu9) : (Jvm.Cond.methodLink "java/util/Arrays" (304 : Nat) ({ cls := "java/lang/Math", name := "min", desc := "(II)I" } : Jvm.MethodName)).before a0 Z = true := V.1 _ (List.mem_of_getElem? (i := 120) rfl)
theorem wd121 (V : Env1 Z a0 n0 uu0 uu1 uu2 uu3 uu4 uu5 uu6 uu7 uu8 uu9) : (Jvm.Cond.static ({ cls := "java/lang/Math", name := "min", desc := "(II)I" } : Jvm.MethodName)).before a0 Z = true := V.1 _ (List.mem_of_getElem? (i := 121) rfl)
theorem wd122 (V : Env1 Z a0 n0 uu0 uu1 uu2 uu3 uu4 uu5 uu6 uu7 uu8 uu9) : (Jvm.Cond.initialized "java/lang/Math").before a0 Z = true := V.1 _ (List.mem_of_getElem? (i := 122) rfl)
theorem wd123 (V : Env1 Z a0 n0 uu0 uu1 uu2 uu3 uu4 uu5 uu6 uu7 uu8 uu9) : (Jvm.Cond.code ({ cls := "java/lang/Math", name := "min", desc := "(II)I" } : Jvm.MethodName) jdk_29_method_69_code (2 : Nat) (Option.some Jvm.ClassFile.FieldType.int)).before a0 Z = true := V.1 _ (List.mem_of_getElem? (i := 123) rfl)
theorem wd124 (V : Env1 Z a0 n0 uu0 uu1 uu2 uu3 uu4 uu5 uu6 uu7 uu8 uu9) : (Jvm.Cond.methodLink "java/util/Arrays" (150 : Nat) ({ cls := "java/lang/System", name := "arraycopy", desc := "(Ljava/lang/Object;ILjava/lang/Object;II)V" } : Jvm.MethodName)).before a0 Z = true := V.1 _ (List.mem_of_getElem? (i := 124) rfl)
theorem wd125 (V : Env1 Z a0 n0 uu0 uu1 uu2 uu3 uu4 uu5 uu6 uu7 uu8 uu9) : (Jvm.Cond.static ({ cls := "java/lang/System", name := "arraycopy", desc := "(Ljava/lang/Object;ILjava/lang/Object;II)V" } : Jvm.MethodName)).before a0 Z = true := V.1 _ (List.mem_of_getElem? (i := 125) rfl)
theorem wd126 (V : Env1 Z a0 n0 uu0 uu1 uu2 uu3 uu4 uu5 uu6 uu7 uu8 uu9) : (Jvm.Cond.initialized "java/lang/System").before a0 Z = true := V.1 _ (List.mem_of_getElem? (i := 126) rfl)
theorem wd127 (V : Env1 Z a0 n0 uu0 uu1 uu2 uu3 uu4 uu5 uu6 uu7 uu8 uu9) : (Jvm.Cond.native ({ cls := "java/lang/System", name := "arraycopy", desc := "(Ljava/lang/Object;ILjava/lang/Object;II)V" } : Jvm.MethodName)).before a0 Z = true := V.1 _ (List.mem_of_getElem? (i := 127) rfl)
theorem wd128 (V : Env1 Z a0 n0 uu0 uu1 uu2 uu3 uu4 uu5 uu6 uu7 uu8 uu9) : (Jvm.Cond.fieldLink "java/util/ArrayList" (9 : Nat) "java/util/ArrayList" "elementData" "[Ljava/lang/Object;").before a0 Z = true := V.1 _ (List.mem_of_getElem? (i := 128) rfl)
theorem wd129 (V : Env1 Z a0 n0 uu0 uu1 uu2 uu3 uu4 uu5 uu6 uu7 uu8 uu9) : (Jvm.Cond.lays "java/util/ArrayList" "java/util/ArrayList" "elementData" "[Ljava/lang/Object;").before a0 Z = true := V.1 _ (List.mem_of_getElem? (i := 129) rfl)
theorem wd130 (V : Env1 Z a0 n0 uu0 uu1 uu2 uu3 uu4 uu5 uu6 uu7 uu8 uu9) : (Jvm.Cond.fieldLink "com/example/passenger_flow_sim/passengerflowsim/simulation/Vehicle" (38 : Nat) "com/example/passenger_flow_sim/passengerflowsim/simulation/Vehicle" "waiting" "Ljava/util/List;").before a0 Z = true := V.1 _ (List.mem_of_getElem? (i := 130) rfl)
theorem wd131 (V : Env1 Z a0 n0 uu0 uu1 uu2 uu3 uu4 uu5 uu6 uu7 uu8 uu9) : (Jvm.Cond.laysFinal "com/example/passenger_flow_sim/passengerflowsim/simulation/Vehicle" "com/example/passenger_flow_sim/passengerflowsim/simulation/Vehicle" "waiting" "Ljava/util/List;").before a0 Z = true := V.1 _ (List.mem_of_getElem? (i := 131) rfl)
theorem wd132 (V : Env1 Z a0 n0 uu0 uu1 uu2 uu3 uu4 uu5 uu6 uu7 uu8 uu9) : (Jvm.Cond.fieldLink "com/example/passenger_flow_sim/passengerflowsim/simulation/Vehicle" (42 : Nat) "com/example/passenger_flow_sim/passengerflowsim/simulation/Vehicle" "alighting" "Ljava/util/List;").before a0 Z = true := V.1 _ (List.mem_of_getElem? (i := 132) rfl)
theorem wd133 (V : Env1 Z a0 n0 uu0 uu1 uu2 uu3 uu4 uu5 uu6 uu7 uu8 uu9) : (Jvm.Cond.laysFinal "com/example/passenger_flow_sim/passengerflowsim/simulation/Vehicle" "com/example/passenger_flow_sim/passengerflowsim/simulation/Vehicle" "alighting" "Ljava/util/List;").before a0 Z = true := V.1 _ (List.mem_of_getElem? (i := 133) rfl)
theorem wd134 (V : Env1 Z a0 n0 uu0 uu1 uu2 uu3 uu4 uu5 uu6 uu7 uu8 uu9) : (Jvm.Cond.methodLink "com/example/passenger_flow_sim/passengerflowsim/simulation/VehicleLeavePinLaw" (18 : Nat) ({ cls := "com/example/passenger_flow_sim/passengerflowsim/simulation/Vehicle", name := "arrive", desc := "()Ljava/util/List;" } : Jvm.MethodName)).before a0 Z = true := V.1 _ (List.mem_of_getElem? (i := 134) rfl)
theorem wd135 (V : Env1 Z a0 n0 uu0 uu1 uu2 uu3 uu4 uu5 uu6 uu7 uu8 uu9) : (Jvm.Cond.declares ({ cls := "com/example/passenger_flow_sim/passengerflowsim/simulation/Vehicle", name := "arrive", desc := "()Ljava/util/List;" } : Jvm.MethodName)).before a0 Z = true := V.1 _ (List.mem_of_getElem? (i := 135) rfl)
theorem wd136 (V : Env1 Z a0 n0 uu0 uu1 uu2 uu3 uu4 uu5 uu6 uu7 uu8 uu9) : (Jvm.Cond.instanceMethod ({ cls := "com/example/passenger_flow_sim/passengerflowsim/simulation/Vehicle", name := "arrive", desc := "()Ljava/util/List;" } : Jvm.MethodName)).before a0 Z = true := V.1 _ (List.mem_of_getElem? (i := 136) rfl)
theorem wd137 (V : Env1 Z a0 n0 uu0 uu1 uu2 uu3 uu4 uu5 uu6 uu7 uu8 uu9) : (Jvm.Cond.selects "com/example/passenger_flow_sim/passengerflowsim/simulation/Vehicle" ({ cls := "com/example/passenger_flow_sim/passengerflowsim/simulation/Vehicle", name := "arrive", desc := "()Ljava/util/List;" } : Jvm.MethodName) ({ cls := "com/example/passenger_flow_sim/passengerflowsim/simulation/Vehicle", name := "arrive", desc := "()Ljava/util/List;" } : Jvm.MethodName)).before a0 Z = true := V.1 _ (List.mem_of_getElem? (i := 137) rfl)
theorem wd138 (V : Env1 Z a0 n0 uu0 uu1 uu2 uu3 uu4 uu5 uu6 uu7 uu8 uu9) : (Jvm.Cond.code ({ cls := "com/example/passenger_flow_sim/passengerflowsim/simulation/Vehicle", name := "arrive", desc := "()Ljava/util/List;" } : Jvm.MethodName) prog_32_method_10_code (2 : Nat) (Option.some (Jvm.ClassFile.FieldType.object "java/util/List"))).before a0 Z = true := V.1 _ (List.mem_of_getElem? (i := 138) rfl)
theorem wd139 (V : Env1 Z a0 n0 uu0 uu1 uu2 uu3 uu4 uu5 uu6 uu7 uu8 uu9) : (Jvm.Cond.fieldLink "com/example/passenger_flow_sim/passengerflowsim/simulation/Vehicle" (48 : Nat) "com/example/passenger_flow_sim/passengerflowsim/simulation/Vehicle" "step" "I").before a0 Z = true := V.1 _ (List.mem_of_getElem? (i := 139) rfl)
theorem wd140 (V : Env1 Z a0 n0 uu0 uu1 uu2 uu3 uu4 uu5 uu6 uu7 uu8 uu9) : (Jvm.Cond.lays "com/example/passenger_flow_sim/passengerflowsim/simulation/Vehicle" "com/example/passenger_flow_sim/passengerflowsim/simulation/Vehicle" "step" "I").before a0 Z = true := V.1 _ (List.mem_of_getElem? (i := 140) rfl)
theorem wd141 (V : Env1 Z a0 n0 uu0 uu1 uu2 uu3 uu4 uu5 uu6 uu7 uu8 uu9) : (Jvm.Cond.methodLink "com/example/passenger_flow_sim/passengerflowsim/simulation/Vehicle" (66 : Nat) ({ cls := "com/example/passenger_flow_sim/passengerflowsim/simulation/Vehicle", name := "take", desc := "(Ljava/util/List;I)Ljava/util/List;" } : Jvm.MethodName)).before a0 Z = true := V.1 _ (List.mem_of_getElem? (i := 141) rfl)
theorem wd142 (V : Env1 Z a0 n0 uu0 uu1 uu2 uu3 uu4 uu5 uu6 uu7 uu8 uu9) : (Jvm.Cond.static ({ cls := "com/example/passenger_flow_sim/passengerflowsim/simulation/Vehicle", name := "take", desc := "(Ljava/util/List;I)Ljava/util/List;" } : Jvm.MethodName)).before a0 Z = true := V.1 _ (List.mem_of_getElem? (i := 142) rfl)
theorem wd143 (V : Env1 Z a0 n0 uu0 uu1 uu2 uu3 uu4 uu5 uu6 uu7 uu8 uu9) : (Jvm.Cond.code ({ cls := "com/example/passenger_flow_sim/passengerflowsim/simulation/Vehicle", name := "take", desc := "(Ljava/util/List;I)Ljava/util/List;" } : Jvm.MethodName) prog_32_method_16_code (3 : Nat) (Option.some (Jvm.ClassFile.FieldType.object "java/util/List"))).before a0 Z = true := V.1 _ (List.mem_of_getElem? (i := 143) rfl)
theorem wd144 (V : Env1 Z a0 n0 uu0 uu1 uu2 uu3 uu4 uu5 uu6 uu7 uu8 uu9) : (Jvm.Cond.methodLink "com/example/passenger_flow_sim/passengerflowsim/simulation/Vehicle" (85 : Nat) ({ cls := "java/util/List", name := "get", desc := "(I)Ljava/lang/Object;" } : Jvm.MethodName)).before a0 Z = true := V.1 _ (List.mem_of_getElem? (i := 144) rfl)
theorem wd145 (V : Env1 Z a0 n0 uu0 uu1 uu2 uu3 uu4 uu5 uu6 uu7 uu8 uu9) : (Jvm.Cond.declares ({ cls := "java/util/List", name := "get", desc := "(I)Ljava/lang/Object;" } : Jvm.MethodName)).before a0 Z = true := V.1 _ (List.mem_of_getElem? (i := 145) rfl)
theorem wd146 (V : Env1 Z a0 n0 uu0 uu1 uu2 uu3 uu4 uu5 uu6 uu7 uu8 uu9) : (Jvm.Cond.interfaceMethod "java/util/List" "java/util/List" "get" "(I)Ljava/lang/Object;").before a0 Z = true := V.1 _ (List.mem_of_getElem? (i := 146) rfl)
theorem wd147 (V : Env1 Z a0 n0 uu0 uu1 uu2 uu3 uu4 uu5 uu6 uu7 uu8 uu9) : (Jvm.Cond.selects "java/util/ArrayList" ({ cls := "java/util/List", name := "get", desc := "(I)Ljava/lang/Object;" } : Jvm.MethodName) ({ cls := "java/util/ArrayList", name := "get", desc := "(I)Ljava/lang/Object;" } : Jvm.MethodName)).before a0 Z = true := V.1 _ (List.mem_of_getElem? (i := 147) rfl)
theorem wd148 (V : Env1 Z a0 n0 uu0 uu1 uu2 uu3 uu4 uu5 uu6 uu7 uu8 uu9) : (Jvm.Cond.instanceMethod ({ cls := "java/util/ArrayList", name := "get", desc := "(I)Ljava/lang/Object;" } : Jvm.MethodName)).before a0 Z = true := V.1 _ (List.mem_of_getElem? (i := 148) rfl)
theorem wd149 (V : Env1 Z a0 n0 uu0 uu1 uu2 uu3 uu4 uu5 uu6 uu7 uu8 uu9) : (Jvm.Cond.publicMethod ({ cls := "java/util/ArrayList", name := "get", desc := "(I)Ljava/lang/Object;" } : Jvm.MethodName)).before a0 Z = true := V.1 _ (List.mem_of_getElem? (i := 149) rfl)
theorem wd150 (V : Env1 Z a0 n0 uu0 uu1 uu2 uu3 uu4 uu5 uu6 uu7 uu8 uu9) : (Jvm.Cond.unhidden "java/util/ArrayList" "get" "(I)Ljava/lang/Object;").before a0 Z = true := V.1 _ (List.mem_of_getElem? (i := 150) rfl)
theorem wd151 (V : Env1 Z a0 n0 uu0 uu1 uu2 uu3 uu4 uu5 uu6 uu7 uu8 uu9) : (Jvm.Cond.castable "java/util/ArrayList" "java/util/List").before a0 Z = true := V.1 _ (List.mem_of_getElem? (i := 151) rfl)
theorem wd152 (V : Env1 Z a0 n0 uu0 uu1 uu2 uu3 uu4 uu5 uu6 uu7 uu8 uu9) : (Jvm.Cond.code ({ cls := "java/util/ArrayList", name := "get", desc := "(I)Ljava/lang/Object;" } : Jvm.MethodName) jdk_38_method_20_code (2 : Nat) (Option.some (Jvm.ClassFile.FieldType.object "java/lang/Object"))).before a0 Z = true := V.1 _ (List.mem_of_getElem? (i := 152) rfl)
theorem wd153 (V : Env1 Z a0 n0 uu0 uu1 uu2 uu3 uu4 uu5 uu6 uu7 uu8 uu9) : (Jvm.Cond.methodLink "java/util/ArrayList" (118 : Nat) ({ cls := "java/util/Objects", name := "checkIndex", desc := "(II)I" } : Jvm.MethodName)).before a0 Z = true := V.1 _ (List.mem_of_getElem? (i := 153) rfl)
theorem wd154 (V : Env1 Z a0 n0 uu0 uu1 uu2 uu3 uu4 uu5 uu6 uu7 uu8 uu9) : (Jvm.Cond.static ({ cls := "java/util/Objects", name := "checkIndex", desc := "(II)I" } : Jvm.MethodName)).before a0 Z = true := V.1 _ (List.mem_of_getElem? (i := 154) rfl)
theorem wd155 (V : Env1 Z a0 n0 uu0 uu1 uu2 uu3 uu4 uu5 uu6 uu7 uu8 uu9) : (Jvm.Cond.initialized "java/util/Objects").before a0 Z = true := V.1 _ (List.mem_of_getElem? (i := 155) rfl)
theorem wd156 (V : Env1 Z a0 n0 uu0 uu1 uu2 uu3 uu4 uu5 uu6 uu7 uu8 uu9) : (Jvm.Cond.code ({ cls := "java/util/Objects", name := "checkIndex", desc := "(II)I" } : Jvm.MethodName) jdk_31_method_17_code (2 : Nat) (Option.some Jvm.ClassFile.FieldType.int)).before a0 Z = true := V.1 _ (List.mem_of_getElem? (i := 156) rfl)
theorem wd157 (V : Env1 Z a0 n0 uu0 uu1 uu2 uu3 uu4 uu5 uu6 uu7 uu8 uu9) : (Jvm.Cond.methodLink "java/util/Objects" (105 : Nat) ({ cls := "jdk/internal/util/Preconditions", name := "checkIndex", desc := "(IILjava/util/function/BiFunction;)I" } : Jvm.MethodName)).before a0 Z = true := V.1 _ (List.mem_of_getElem? (i := 157) rfl)
theorem wd158 (V : Env1 Z a0 n0 uu0 uu1 uu2 uu3 uu4 uu5 uu6 uu7 uu8 uu9) : (Jvm.Cond.static ({ cls := "jdk/internal/util/Preconditions", name := "checkIndex", desc := "(IILjava/util/function/BiFunction;)I" } : Jvm.MethodName)).before a0 Z = true := V.1 _ (List.mem_of_getElem? (i := 158) rfl)
theorem wd159 (V : Env1 Z a0 n0 uu0 uu1 uu2 uu3 uu4 uu5 uu6 uu7 uu8 uu9) : (Jvm.Cond.initialized "jdk/internal/util/Preconditions").before a0 Z = true := V.1 _ (List.mem_of_getElem? (i := 159) rfl)
theorem wd160 (V : Env1 Z a0 n0 uu0 uu1 uu2 uu3 uu4 uu5 uu6 uu7 uu8 uu9) : (Jvm.Cond.code ({ cls := "jdk/internal/util/Preconditions", name := "checkIndex", desc := "(IILjava/util/function/BiFunction;)I" } : Jvm.MethodName) jdk_41_method_11_code (3 : Nat) (Option.some Jvm.ClassFile.FieldType.int)).before a0 Z = true := V.1 _ (List.mem_of_getElem? (i := 160) rfl)
theorem wd161 (V : Env1 Z a0 n0 uu0 uu1 uu2 uu3 uu4 uu5 uu6 uu7 uu8 uu9) : (Jvm.Cond.methodLink "java/util/ArrayList" (123 : Nat) ({ cls := "java/util/ArrayList", name := "elementData", desc := "(I)Ljava/lang/Object;" } : Jvm.MethodName)).before a0 Z = true := V.1 _ (List.mem_of_getElem? (i := 161) rfl)
theorem wd162 (V : Env1 Z a0 n0 uu0 uu1 uu2 uu3 uu4 uu5 uu6 uu7 uu8 uu9) : (Jvm.Cond.declares ({ cls := "java/util/ArrayList", name := "elementData", desc := "(I)Ljava/lang/Object;" } : Jvm.MethodName)).before a0 Z = true := V.1 _ (List.mem_of_getElem? (i := 162) rfl)
theorem wd163 (V : Env1 Z a0 n0 uu0 uu1 uu2 uu3 uu4 uu5 uu6 uu7 uu8 uu9) : (Jvm.Cond.instanceMethod ({ cls := "java/util/ArrayList", name := "elementData", desc := "(I)Ljava/lang/Object;" } : Jvm.MethodName)).before a0 Z = true := V.1 _ (List.mem_of_getElem? (i := 163) rfl)
theorem wd164 (V : Env1 Z a0 n0 uu0 uu1 uu2 uu3 uu4 uu5 uu6 uu7 uu8 uu9) : (Jvm.Cond.selects "java/util/ArrayList" ({ cls := "java/util/ArrayList", name := "elementData", desc := "(I)Ljava/lang/Object;" } : Jvm.MethodName) ({ cls := "java/util/ArrayList", name := "elementData", desc := "(I)Ljava/lang/Object;" } : Jvm.MethodName)).before a0 Z = true := V.1 _ (List.mem_of_getElem? (i := 164) rfl)
theorem wd165 (V : Env1 Z a0 n0 uu0 uu1 uu2 uu3 uu4 uu5 uu6 uu7 uu8 uu9) : (Jvm.Cond.code ({ cls := "java/util/ArrayList", name := "elementData", desc := "(I)Ljava/lang/Object;" } : Jvm.MethodName) jdk_38_method_18_code (2 : Nat) (Option.some (Jvm.ClassFile.FieldType.object "java/lang/Object"))).before a0 Z = true := V.1 _ (List.mem_of_getElem? (i := 165) rfl)
theorem wd166 (V : Env1 Z a0 n0 uu0 uu1 uu2 uu3 uu4 uu5 uu6 uu7 uu8 uu9) : (Jvm.Cond.methodLink "com/example/passenger_flow_sim/passengerflowsim/simulation/Vehicle" (90 : Nat) ({ cls := "java/util/List", name := "set", desc := "(ILjava/lang/Object;)Ljava/lang/Object;" } : Jvm.MethodName)).before a0 Z = true := V.1 _ (List.mem_of_getElem? (i := 166) rfl)
theorem wd167 (V : Env1 Z a0 n0 uu0 uu1 uu2 uu3 uu4 uu5 uu6 uu7 uu8 uu9) : (Jvm.Cond.declares ({ cls := "java/util/List", name := "set", desc := "(ILjava/lang/Object;)Ljava/lang/Object;" } : Jvm.MethodName)).before a0 Z = true := V.1 _ (List.mem_of_getElem? (i := 167) rfl)
theorem wd168 (V : Env1 Z a0 n0 uu0 uu1 uu2 uu3 uu4 uu5 uu6 uu7 uu8 uu9) : (Jvm.Cond.interfaceMethod "java/util/List" "java/util/List" "set" "(ILjava/lang/Object;)Ljava/lang/Object;").before a0 Z = true := V.1 _ (List.mem_of_getElem? (i := 168) rfl)
theorem wd169 (V : Env1 Z a0 n0 uu0 uu1 uu2 uu3 uu4 uu5 uu6 uu7 uu8 uu9) : (Jvm.Cond.selects "java/util/ArrayList" ({ cls := "java/util/List", name := "set", desc := "(ILjava/lang/Object;)Ljava/lang/Object;" } : Jvm.MethodName) ({ cls := "java/util/ArrayList", name := "set", desc := "(ILjava/lang/Object;)Ljava/lang/Object;" } : Jvm.MethodName)).before a0 Z = true := V.1 _ (List.mem_of_getElem? (i := 169) rfl)
theorem wd170 (V : Env1 Z a0 n0 uu0 uu1 uu2 uu3 uu4 uu5 uu6 uu7 uu8 uu9) : (Jvm.Cond.instanceMethod ({ cls := "java/util/ArrayList", name := "set", desc := "(ILjava/lang/Object;)Ljava/lang/Object;" } : Jvm.MethodName)).before a0 Z = true := V.1 _ (List.mem_of_getElem? (i := 170) rfl)
theorem wd171 (V : Env1 Z a0 n0 uu0 uu1 uu2 uu3 uu4 uu5 uu6 uu7 uu8 uu9) : (Jvm.Cond.publicMethod ({ cls := "java/util/ArrayList", name := "set", desc := "(ILjava/lang/Object;)Ljava/lang/Object;" } : Jvm.MethodName)).before a0 Z = true := V.1 _ (List.mem_of_getElem? (i := 171) rfl)
theorem wd172 (V : Env1 Z a0 n0 uu0 uu1 uu2 uu3 uu4 uu5 uu6 uu7 uu8 uu9) : (Jvm.Cond.unhidden "java/util/ArrayList" "set" "(ILjava/lang/Object;)Ljava/lang/Object;").before a0 Z = true := V.1 _ (List.mem_of_getElem? (i := 172) rfl)
theorem wd173 (V : Env1 Z a0 n0 uu0 uu1 uu2 uu3 uu4 uu5 uu6 uu7 uu8 uu9) : (Jvm.Cond.code ({ cls := "java/util/ArrayList", name := "set", desc := "(ILjava/lang/Object;)Ljava/lang/Object;" } : Jvm.MethodName) jdk_38_method_23_code (4 : Nat) (Option.some (Jvm.ClassFile.FieldType.object "java/lang/Object"))).before a0 Z = true := V.1 _ (List.mem_of_getElem? (i := 173) rfl)
theorem wd174 (V : Env1 Z a0 n0 uu0 uu1 uu2 uu3 uu4 uu5 uu6 uu7 uu8 uu9) : (Jvm.Cond.methodLink "com/example/passenger_flow_sim/passengerflowsim/simulation/Vehicle" (97 : Nat) ({ cls := "java/util/List", name := "of", desc := "()Ljava/util/List;" } : Jvm.MethodName)).before a0 Z = true := V.1 _ (List.mem_of_getElem? (i := 174) rfl)
theorem wd175 (V : Env1 Z a0 n0 uu0 uu1 uu2 uu3 uu4 uu5 uu6 uu7 uu8 uu9) : (Jvm.Cond.static ({ cls := "java/util/List", name := "of", desc := "()Ljava/util/List;" } : Jvm.MethodName)).before a0 Z = true := V.1 _ (List.mem_of_getElem? (i := 175) rfl)
theorem wd176 (V : Env1 Z a0 n0 uu0 uu1 uu2 uu3 uu4 uu5 uu6 uu7 uu8 uu9) : (Jvm.Cond.initialized "java/util/List").before a0 Z = true := V.1 _ (List.mem_of_getElem? (i := 176) rfl)
theorem wd177 (V : Env1 Z a0 n0 uu0 uu1 uu2 uu3 uu4 uu5 uu6 uu7 uu8 uu9) : (Jvm.Cond.code ({ cls := "java/util/List", name := "of", desc := "()Ljava/util/List;" } : Jvm.MethodName) jdk_40_method_36_code (0 : Nat) (Option.some (Jvm.ClassFile.FieldType.object "java/util/List"))).before a0 Z = true := V.1 _ (List.mem_of_getElem? (i := 177) rfl)
theorem wd178 (V : Env1 Z a0 n0 uu0 uu1 uu2 uu3 uu4 uu5 uu6 uu7 uu8 uu9) : (Jvm.Cond.fieldLink "java/util/List" (90 : Nat) "java/util/ImmutableCollections" "EMPTY_LIST" "Ljava/util/ImmutableCollections$ListN;").before a0 Z = true := V.1 _ (List.mem_of_getElem? (i := 178) rfl)
theorem wd180 (V : Env1 Z a0 n0 uu0 uu1 uu2 uu3 uu4 uu5 uu6 uu7 uu8 uu9) : (Jvm.Cond.fieldLink "com/example/passenger_flow_sim/passengerflowsim/simulation/Vehicle" (45 : Nat) "com/example/passenger_flow_sim/passengerflowsim/simulation/Vehicle" "load" "I").before a0 Z = true := V.1 _ (List.mem_of_getElem? (i := 180) rfl)
theorem wd181 (V : Env1 Z a0 n0 uu0 uu1 uu2 uu3 uu4 uu5 uu6 uu7 uu8 uu9) : (Jvm.Cond.lays "com/example/passenger_flow_sim/passengerflowsim/simulation/Vehicle" "com/example/passenger_flow_sim/passengerflowsim/simulation/Vehicle" "load" "I").before a0 Z = true := V.1 _ (List.mem_of_getElem? (i := 181) rfl)
theorem wd182 (V : Env1 Z a0 n0 uu0 uu1 uu2 uu3 uu4 uu5 uu6 uu7 uu8 uu9) : (Jvm.Cond.methodLink "com/example/passenger_flow_sim/passengerflowsim/simulation/Vehicle" (70 : Nat) ({ cls := "java/util/List", name := "size", desc := "()I" } : Jvm.MethodName)).before a0 Z = true := V.1 _ (List.mem_of_getElem? (i := 182) rfl)
theorem wd183 (V : Env1 Z a0 n0 uu0 uu1 uu2 uu3 uu4 uu5 uu6 uu7 uu8 uu9) : (Jvm.Cond.declares ({ cls := "java/util/List", name := "size", desc := "()I" } : Jvm.MethodName)).before a0 Z = true := V.1 _ (List.mem_of_getElem? (i := 183) rfl)
theorem wd184 (V : Env1 Z a0 n0 uu0 uu1 uu2 uu3 uu4 uu5 uu6 uu7 uu8 uu9) : (Jvm.Cond.interfaceMethod "java/util/List" "java/util/List" "size" "()I").before a0 Z = true := V.1 _ (List.mem_of_getElem? (i := 184) rfl)
theorem wd185 (V : Env1 Z a0 n0 uu0 uu1 uu2 uu3 uu4 uu5 uu6 uu7 uu8 uu9) : (Jvm.Cond.selects "java/util/ImmutableCollections$ListN" ({ cls := "java/util/List", name := "size", desc := "()I" } : Jvm.MethodName) ({ cls := "java/util/ImmutableCollections$ListN", name := "size", desc := "()I" } : Jvm.MethodName)).before a0 Z = true := V.1 _ (List.mem_of_getElem? (i := 185) rfl)
theorem wd186 (V : Env1 Z a0 n0 uu0 uu1 uu2 uu3 uu4 uu5 uu6 uu7 uu8 uu9) : (Jvm.Cond.instanceMethod ({ cls := "java/util/ImmutableCollections$ListN", name := "size", desc := "()I" } : Jvm.MethodName)).before a0 Z = true := V.1 _ (List.mem_of_getElem? (i := 186) rfl)
theorem wd187 (V : Env1 Z a0 n0 uu0 uu1 uu2 uu3 uu4 uu5 uu6 uu7 uu8 uu9) : (Jvm.Cond.publicMethod ({ cls := "java/util/ImmutableCollections$ListN", name := "size", desc := "()I" } : Jvm.MethodName)).before a0 Z = true := V.1 _ (List.mem_of_getElem? (i := 187) rfl)
theorem wd188 (V : Env1 Z a0 n0 uu0 uu1 uu2 uu3 uu4 uu5 uu6 uu7 uu8 uu9) : (Jvm.Cond.unhidden "java/util/ImmutableCollections$ListN" "size" "()I").before a0 Z = true := V.1 _ (List.mem_of_getElem? (i := 188) rfl)
theorem wd189 (V : Env1 Z a0 n0 uu0 uu1 uu2 uu3 uu4 uu5 uu6 uu7 uu8 uu9) : (Jvm.Cond.castable "java/util/ImmutableCollections$ListN" "java/util/List").before a0 Z = true := V.1 _ (List.mem_of_getElem? (i := 189) rfl)
theorem wd190 (V : Env1 Z a0 n0 uu0 uu1 uu2 uu3 uu4 uu5 uu6 uu7 uu8 uu9) : (Jvm.Cond.initialized "java/util/ImmutableCollections$ListN").before a0 Z = true := V.1 _ (List.mem_of_getElem? (i := 190) rfl)
theorem wd191 (V : Env1 Z a0 n0 uu0 uu1 uu2 uu3 uu4 uu5 uu6 uu7 uu8 uu9) : (Jvm.Cond.code ({ cls := "java/util/ImmutableCollections$ListN", name := "size", desc := "()I" } : Jvm.MethodName) jdk_45_method_3_code (1 : Nat) (Option.some Jvm.ClassFile.FieldType.int)).before a0 Z = true := V.1 _ (List.mem_of_getElem? (i := 191) rfl)
theorem wd192 (V : Env1 Z a0 n0 uu0 uu1 uu2 uu3 uu4 uu5 uu6 uu7 uu8 uu9) : (Jvm.Cond.fieldLink "java/util/ImmutableCollections$ListN" (7 : Nat) "java/util/ImmutableCollections$ListN" "elements" "[Ljava/lang/Object;").before a0 Z = true := V.1 _ (List.mem_of_getElem? (i := 192) rfl)
theorem wd194 (V : Env1 Z a0 n0 uu0 uu1 uu2 uu3 uu4 uu5 uu6 uu7 uu8 uu9) : (Jvm.Cond.methodLink "com/example/passenger_flow_sim/passengerflowsim/simulation/VehicleLeavePinLaw" (25 : Nat) ({ cls := "com/example/passenger_flow_sim/passengerflowsim/simulation/VehicleLeavePinLaw", name := "boardSome", desc := "(Lcom/example/passenger_flow_sim/passengerflowsim/simulation/Vehicle;I)V" } : Jvm.MethodName)).before a0 Z = true := V.1 _ (List.mem_of_getElem? (i := 194) rfl)
theorem wd195 (V : Env1 Z a0 n0 uu0 uu1 uu2 uu3 uu4 uu5 uu6 uu7 uu8 uu9) : (Jvm.Cond.static ({ cls := "com/example/passenger_flow_sim/passengerflowsim/simulation/VehicleLeavePinLaw", name := "boardSome", desc := "(Lcom/example/passenger_flow_sim/passengerflowsim/simulation/Vehicle;I)V" } : Jvm.MethodName)).before a0 Z = true := V.1 _ (List.mem_of_getElem? (i := 195) rfl)
theorem wd196 (V : Env1 Z a0 n0 uu0 uu1 uu2 uu3 uu4 uu5 uu6 uu7 uu8 uu9) : (Jvm.Cond.initialized "com/example/passenger_flow_sim/passengerflowsim/simulation/VehicleLeavePinLaw").before a0 Z = true := V.1 _ (List.mem_of_getElem? (i := 196) rfl)
theorem wd197 (V : Env1 Z a0 n0 uu0 uu1 uu2 uu3 uu4 uu5 uu6 uu7 uu8 uu9) : (Jvm.Cond.code ({ cls := "com/example/passenger_flow_sim/passengerflowsim/simulation/VehicleLeavePinLaw", name := "boardSome", desc := "(Lcom/example/passenger_flow_sim/passengerflowsim/simulation/Vehicle;I)V" } : Jvm.MethodName) method_3_code (2 : Nat) (Option.none : Option Jvm.ClassFile.FieldType)).before a0 Z = true := V.1 _ (List.mem_of_getElem? (i := 197) rfl)
theorem wd198 (V : Env1 Z a0 n0 uu0 uu1 uu2 uu3 uu4 uu5 uu6 uu7 uu8 uu9) : (Jvm.Cond.methodLink "com/example/passenger_flow_sim/passengerflowsim/simulation/VehicleLeavePinLaw" (22 : Nat) ({ cls := "com/example/passenger_flow_sim/passengerflowsim/simulation/Vehicle", name := "leave", desc := "()V" } : Jvm.MethodName)).before a0 Z = true := V.1 _ (List.mem_of_getElem? (i := 198) rfl)
theorem wd199 (V : Env1 Z a0 n0 uu0 uu1 uu2 uu3 uu4 uu5 uu6 uu7 uu8 uu9) : (Jvm.Cond.declares ({ cls := "com/example/passenger_flow_sim/passengerflowsim/simulation/Vehicle", name := "leave", desc := "()V" } : Jvm.MethodName)).before a0 Z = true := V.1 _ (List.mem_of_getElem? (i := 199) rfl)
theorem wd200 (V : Env1 Z a0 n0 uu0 uu1 uu2 uu3 uu4 uu5 uu6 uu7 uu8 uu9) : (Jvm.Cond.instanceMethod ({ cls := "com/example/passenger_flow_sim/passengerflowsim/simulation/Vehicle", name := "leave", desc := "()V" } : Jvm.MethodName)).before a0 Z = true := V.1 _ (List.mem_of_getElem? (i := 200) rfl)
theorem wd201 (V : Env1 Z a0 n0 uu0 uu1 uu2 uu3 uu4 uu5 uu6 uu7 uu8 uu9) : (Jvm.Cond.selects "com/example/passenger_flow_sim/passengerflowsim/simulation/Vehicle" ({ cls := "com/example/passenger_flow_sim/passengerflowsim/simulation/Vehicle", name := "leave", desc := "()V" } : Jvm.MethodName) ({ cls := "com/example/passenger_flow_sim/passengerflowsim/simulation/Vehicle", name := "leave", desc := "()V" } : Jvm.MethodName)).before a0 Z = true := V.1 _ (List.mem_of_getElem? (i := 201) rfl)
theorem wd202 (V : Env1 Z a0 n0 uu0 uu1 uu2 uu3 uu4 uu5 uu6 uu7 uu8 uu9) : (Jvm.Cond.code ({ cls := "com/example/passenger_flow_sim/passengerflowsim/simulation/Vehicle", name := "leave", desc := "()V" } : Jvm.MethodName) prog_32_method_13_code (2 : Nat) (Option.none : Option Jvm.ClassFile.FieldType)).before a0 Z = true := V.1 _ (List.mem_of_getElem? (i := 202) rfl)
theorem wd203 (V : Env1 Z a0 n0 uu0 uu1 uu2 uu3 uu4 uu5 uu6 uu7 uu8 uu9) : (Jvm.Cond.methodLink "com/example/passenger_flow_sim/passengerflowsim/simulation/VehicleLeavePinLaw" (31 : Nat) ({ cls := "com/example/passenger_flow_sim/passengerflowsim/simulation/Vehicle", name := "loads", desc := "()Lcom/example/passenger_flow_sim/passengerflowsim/simulation/TripLoads;" } : Jvm.MethodName)).before a0 Z = true := V.1 _ (List.mem_of_getElem? (i := 203) rfl)
theorem wd204 (V : Env1 Z a0 n0 uu0 uu1 uu2 uu3 uu4 uu5 uu6 uu7 uu8 uu9) : (Jvm.Cond.declares ({ cls := "com/example/passenger_flow_sim/passengerflowsim/simulation/Vehicle", name := "loads", desc := "()Lcom/example/passenger_flow_sim/passengerflowsim/simulation/TripLoads;" } : Jvm.MethodName)).before a0 Z = true := V.1 _ (List.mem_of_getElem? (i := 204) rfl)
theorem wd205 (V : Env1 Z a0 n0 uu0 uu1 uu2 uu3 uu4 uu5 uu6 uu7 uu8 uu9) : (Jvm.Cond.instanceMethod ({ cls := "com/example/passenger_flow_sim/passengerflowsim/simulation/Vehicle", name := "loads", desc := "()Lcom/example/passenger_flow_sim/passengerflowsim/simulation/TripLoads;" } : Jvm.MethodName)).before a0 Z = true := V.1 _ (List.mem_of_getElem? (i := 205) rfl)
theorem wd206 (V : Env1 Z a0 n0 uu0 uu1 uu2 uu3 uu4 uu5 uu6 uu7 uu8 uu9) : (Jvm.Cond.selects "com/example/passenger_flow_sim/passengerflowsim/simulation/Vehicle" ({ cls := "com/example/passenger_flow_sim/passengerflowsim/simulation/Vehicle", name := "loads", desc := "()Lcom/example/passenger_flow_sim/passengerflowsim/simulation/TripLoads;" } : Jvm.MethodName) ({ cls := "com/example/passenger_flow_sim/passengerflowsim/simulation/Vehicle", name := "loads", desc := "()Lcom/example/passenger_flow_sim/passengerflowsim/simulation/TripLoads;" } : Jvm.MethodName)).before a0 Z = true := V.1 _ (List.mem_of_getElem? (i := 206) rfl)
theorem wd207 (V : Env1 Z a0 n0 uu0 uu1 uu2 uu3 uu4 uu5 uu6 uu7 uu8 uu9) : (Jvm.Cond.code ({ cls := "com/example/passenger_flow_sim/passengerflowsim/simulation/Vehicle", name := "loads", desc := "()Lcom/example/passenger_flow_sim/passengerflowsim/simulation/TripLoads;" } : Jvm.MethodName) prog_32_method_14_code (1 : Nat) (Option.some (Jvm.ClassFile.FieldType.object "com/example/passenger_flow_sim/passengerflowsim/simulation/TripLoads"))).before a0 Z = true := V.1 _ (List.mem_of_getElem? (i := 207) rfl)
theorem wd208 (V : Env1 Z a0 n0 uu0 uu1 uu2 uu3 uu4 uu5 uu6 uu7 uu8 uu9) : (Jvm.Cond.classLink "com/example/passenger_flow_sim/passengerflowsim/simulation/Vehicle" (75 : Nat) "com/example/passenger_flow_sim/passengerflowsim/simulation/TripLoads").before a0 Z = true := V.1 _ (List.mem_of_getElem? (i := 208) rfl)
theorem wd209 (V : Env1 Z a0 n0 uu0 uu1 uu2 uu3 uu4 uu5 uu6 uu7 uu8 uu9) : (Jvm.Cond.instantiable "com/example/passenger_flow_sim/passengerflowsim/simulation/TripLoads" (2 : Nat)).before a0 Z = true := V.1 _ (List.mem_of_getElem? (i := 209) rfl)
theorem wd210 (V : Env1 Z a0 n0 uu0 uu1 uu2 uu3 uu4 uu5 uu6 uu7 uu8 uu9) : (Jvm.Cond.initialized "com/example/passenger_flow_sim/passengerflowsim/simulation/TripLoads").before a0 Z = true := V.1 _ (List.mem_of_getElem? (i := 210) rfl)
theorem wd211 (V : Env1 Z a0 n0 uu0 uu1 uu2 uu3 uu4 uu5 uu6 uu7 uu8 uu9) : (Jvm.Cond.methodLink "com/example/passenger_flow_sim/passengerflowsim/simulation/Vehicle" (77 : Nat) ({ cls := "[I", name := "clone", desc := "()Ljava/lang/Object;" } : Jvm.MethodName)).before a0 Z = true := V.1 _ (List.mem_of_getElem? (i := 211) rfl)
theorem wd212 (V : Env1 Z a0 n0 uu0 uu1 uu2 uu3 uu4 uu5 uu6 uu7 uu8 uu9) : (Jvm.Cond.classLink "com/example/passenger_flow_sim/passengerflowsim/simulation/Vehicle" (78 : Nat) "[I").before a0 Z = true := V.1 _ (List.mem_of_getElem? (i := 212) rfl)
theorem wd213 (V : Env1 Z a0 n0 uu0 uu1 uu2 uu3 uu4 uu5 uu6 uu7 uu8 uu9) : (Jvm.Cond.methodLink "com/example/passenger_flow_sim/passengerflowsim/simulation/Vehicle" (82 : Nat) ({ cls := "com/example/passenger_flow_sim/passengerflowsim/simulation/TripLoads", name := "<init>", desc := "(Lcom/example/passenger_flow_sim/passengerflowsim/timetable/Trip;[I)V" } : Jvm.MethodName)).before a0 Z = true := V.1 _ (List.mem_of_getElem? (i := 213) rfl)
theorem wd214 (V : Env1 Z a0 n0 uu0 uu1 uu2 uu3 uu4 uu5 uu6 uu7 uu8 uu9) : (Jvm.Cond.instanceMethod ({ cls := "com/example/passenger_flow_sim/passengerflowsim/simulation/TripLoads", name := "<init>", desc := "(Lcom/example/passenger_flow_sim/passengerflowsim/timetable/Trip;[I)V" } : Jvm.MethodName)).before a0 Z = true := V.1 _ (List.mem_of_getElem? (i := 214) rfl)
theorem wd215 (V : Env1 Z a0 n0 uu0 uu1 uu2 uu3 uu4 uu5 uu6 uu7 uu8 uu9) : (Jvm.Cond.code ({ cls := "com/example/passenger_flow_sim/passengerflowsim/simulation/TripLoads", name := "<init>", desc := "(Lcom/example/passenger_flow_sim/passengerflowsim/timetable/Trip;[I)V" } : Jvm.MethodName) prog_31_method_1_code (3 : Nat) (Option.none : Option Jvm.ClassFile.FieldType)).before a0 Z = true := V.1 _ (List.mem_of_getElem? (i := 215) rfl)
theorem wd216 (V : Env1 Z a0 n0 uu0 uu1 uu2 uu3 uu4 uu5 uu6 uu7 uu8 uu9) : (Jvm.Cond.methodLink "com/example/passenger_flow_sim/passengerflowsim/simulation/TripLoads" (1 : Nat) ({ cls := "java/lang/Object", name := "<init>", desc := "()V" } : Jvm.MethodName)).before a0 Z = true := V.1 _ (List.mem_of_getElem? (i := 216) rfl)
theorem wd217 (V : Env1 Z a0 n0 uu0 uu1 uu2 uu3 uu4 uu5 uu6 uu7 uu8 uu9) : (Jvm.Cond.fieldLink "com/example/passenger_flow_sim/passengerflowsim/simulation/TripLoads" (7 : Nat) "com/example/passenger_flow_sim/passengerflowsim/simulation/TripLoads" "trip" "Lcom/example/passenger_flow_sim/passengerflowsim/timetable/Trip;").before a0 Z = true := V.1 _ (List.mem_of_getElem? (i := 217) rfl)
theorem wd218 (V : Env1 Z a0 n0 uu0 uu1 uu2 uu3 uu4 uu5 uu6 uu7 uu8 uu9) : (Jvm.Cond.laysFinal "com/example/passenger_flow_sim/passengerflowsim/simulation/TripLoads" "com/example/passenger_flow_sim/passengerflowsim/simulation/TripLoads" "trip" "Lcom/example/passenger_flow_sim/passengerflowsim/timetable/Trip;").before a0 Z = true := V.1 _ (List.mem_of_getElem? (i := 218) rfl)
theorem wd219 (V : Env1 Z a0 n0 uu0 uu1 uu2 uu3 uu4 uu5 uu6 uu7 uu8 uu9) : (Jvm.Cond.fieldLink "com/example/passenger_flow_sim/passengerflowsim/simulation/TripLoads" (13 : Nat) "com/example/passenger_flow_sim/passengerflowsim/simulation/TripLoads" "loads" "[I").before a0 Z = true := V.1 _ (List.mem_of_getElem? (i := 219) rfl)
theorem wd220 (V : Env1 Z a0 n0 uu0 uu1 uu2 uu3 uu4 uu5 uu6 uu7 uu8 uu9) : (Jvm.Cond.laysFinal "com/example/passenger_flow_sim/passengerflowsim/simulation/TripLoads" "com/example/passenger_flow_sim/passengerflowsim/simulation/TripLoads" "loads" "[I").before a0 Z = true := V.1 _ (List.mem_of_getElem? (i := 220) rfl)
theorem wd221 (V : Env1 Z a0 n0 uu0 uu1 uu2 uu3 uu4 uu5 uu6 uu7 uu8 uu9) : (Jvm.Cond.methodLink "com/example/passenger_flow_sim/passengerflowsim/simulation/VehicleLeavePinLaw" (35 : Nat) ({ cls := "com/example/passenger_flow_sim/passengerflowsim/simulation/TripLoads", name := "linkCount", desc := "()I" } : Jvm.MethodName)).before a0 Z = true := V.1 _ (List.mem_of_getElem? (i := 221) rfl)
theorem wd222 (V : Env1 Z a0 n0 uu0 uu1 uu2 uu3 uu4 uu5 uu6 uu7 uu8 uu9) : (Jvm.Cond.declares ({ cls := "com/example/passenger_flow_sim/passengerflowsim/simulation/TripLoads", name := "linkCount", desc := "()I" } : Jvm.MethodName)).before a0 Z = true := V.1 _ (List.mem_of_getElem? (i := 222) rfl)
theorem wd223 (V : Env1 Z a0 n0 uu0 uu1 uu2 uu3 uu4 uu5 uu6 uu7 uu8 uu9) : (Jvm.Cond.instanceMethod ({ cls := "com/example/passenger_flow_sim/passengerflowsim/simulation/TripLoads", name := "linkCount", desc := "()I" } : Jvm.MethodName)).before a0 Z = true := V.1 _ (List.mem_of_getElem? (i := 223) rfl)
theorem wd224 (V : Env1 Z a0 n0 uu0 uu1 uu2 uu3 uu4 uu5 uu6 uu7 uu8 uu9) : (Jvm.Cond.selects "com/example/passenger_flow_sim/passengerflowsim/simulation/TripLoads" ({ cls := "com/example/passenger_flow_sim/passengerflowsim/simulation/TripLoads", name := "linkCount", desc := "()I" } : Jvm.MethodName) ({ cls := "com/example/passenger_flow_sim/passengerflowsim/simulation/TripLoads", name := "linkCount", desc := "()I" } : Jvm.MethodName)).before a0 Z = true := V.1 _ (List.mem_of_getElem? (i := 224) rfl)
theorem wd225 (V : Env1 Z a0 n0 uu0 uu1 uu2 uu3 uu4 uu5 uu6 uu7 uu8 uu9) : (Jvm.Cond.code ({ cls := "com/example/passenger_flow_sim/passengerflowsim/simulation/TripLoads", name := "linkCount", desc := "()I" } : Jvm.MethodName) prog_31_method_3_code (1 : Nat) (Option.some Jvm.ClassFile.FieldType.int)).before a0 Z = true := V.1 _ (List.mem_of_getElem? (i := 225) rfl)
theorem wd226 (V : Env1 Z a0 n0 uu0 uu1 uu2 uu3 uu4 uu5 uu6 uu7 uu8 uu9) : (Jvm.Cond.methodLink "com/example/passenger_flow_sim/passengerflowsim/simulation/VehicleLeavePinLaw" (41 : Nat) ({ cls := "com/example/passenger_flow_sim/passengerflowsim/simulation/Vehicle", name := "load", desc := "()I" } : Jvm.MethodName)).before a0 Z = true := V.1 _ (List.mem_of_getElem? (i := 226) rfl)
theorem wd227 (V : Env1 Z a0 n0 uu0 uu1 uu2 uu3 uu4 uu5 uu6 uu7 uu8 uu9) : (Jvm.Cond.declares ({ cls := "com/example/passenger_flow_sim/passengerflowsim/simulation/Vehicle", name := "load", desc := "()I" } : Jvm.MethodName)).before a0 Z = true := V.1 _ (List.mem_of_getElem? (i := 227) rfl)
theorem wd228 (V : Env1 Z a0 n0 uu0 uu1 uu2 uu3 uu4 uu5 uu6 uu7 uu8 uu9) : (Jvm.Cond.instanceMethod ({ cls := "com/example/passenger_flow_sim/passengerflowsim/simulation/Vehicle", name := "load", desc := "()I" } : Jvm.MethodName)).before a0 Z = true := V.1 _ (List.mem_of_getElem? (i := 228) rfl)
theorem wd229 (V : Env1 Z a0 n0 uu0 uu1 uu2 uu3 uu4 uu5 uu6 uu7 uu8 uu9) : (Jvm.Cond.selects "com/example/passenger_flow_sim/passengerflowsim/simulation/Vehicle" ({ cls := "com/example/passenger_flow_sim/passengerflowsim/simulation/Vehicle", name := "load", desc := "()I" } : Jvm.MethodName) ({ cls := "com/example/passenger_flow_sim/passengerflowsim/simulation/Vehicle", name := "load", desc := "()I" } : Jvm.MethodName)).before a0 Z = true := V.1 _ (List.mem_of_getElem? (i := 229) rfl)
theorem wd230 (V : Env1 Z a0 n0 uu0 uu1 uu2 uu3 uu4 uu5 uu6 uu7 uu8 uu9) : (Jvm.Cond.code ({ cls := "com/example/passenger_flow_sim/passengerflowsim/simulation/Vehicle", name := "load", desc := "()I" } : Jvm.MethodName) prog_32_method_4_code (1 : Nat) (Option.some Jvm.ClassFile.FieldType.int)).before a0 Z = true := V.1 _ (List.mem_of_getElem? (i := 230) rfl)
theorem wd231 (V : Env1 Z a0 n0 uu0 uu1 uu2 uu3 uu4 uu5 uu6 uu7 uu8 uu9) : (Jvm.Cond.methodLink "com/example/passenger_flow_sim/passengerflowsim/simulation/VehicleLeavePinLaw" (44 : Nat) ({ cls := "com/example/passenger_flow_sim/passengerflowsim/simulation/Vehicle", name := "isDone", desc := "()Z" } : Jvm.MethodName)).before a0 Z = true := V.1 _ (List.mem_of_getElem? (i := 231) rfl)
theorem wd232 (V : Env1 Z a0 n0 uu0 uu1 uu2 uu3 uu4 uu5 uu6 uu7 uu8 uu9) : (Jvm.Cond.declares ({ cls := "com/example/passenger_flow_sim/passengerflowsim/simulation/Vehicle", name := "isDone", desc := "()Z" } : Jvm.MethodName)).before a0 Z = true := V.1 _ (List.mem_of_getElem? (i := 232) rfl)
theorem wd233 (V : Env1 Z a0 n0 uu0 uu1 uu2 uu3 uu4 uu5 uu6 uu7 uu8 uu9) : (Jvm.Cond.instanceMethod ({ cls := "com/example/passenger_flow_sim/passengerflowsim/simulation/Vehicle", name := "isDone", desc := "()Z" } : Jvm.MethodName)).before a0 Z = true := V.1 _ (List.mem_of_getElem? (i := 233) rfl)
theorem wd234 (V : Env1 Z a0 n0 uu0 uu1 uu2 uu3 uu4 uu5 uu6 uu7 uu8 uu9) : (Jvm.Cond.selects "com/example/passenger_flow_sim/passengerflowsim/simulation/Vehicle" ({ cls := "com/example/passenger_flow_sim/passengerflowsim/simulation/Vehicle", name := "isDone", desc := "()Z" } : Jvm.MethodName) ({ cls := "com/example/passenger_flow_sim/passengerflowsim/simulation/Vehicle", name := "isDone", desc := "()Z" } : Jvm.MethodName)).before a0 Z = true := V.1 _ (List.mem_of_getElem? (i := 234) rfl)
theorem wd235 (V : Env1 Z a0 n0 uu0 uu1 uu2 uu3 uu4 uu5 uu6 uu7 uu8 uu9) : (Jvm.Cond.code ({ cls := "com/example/passenger_flow_sim/passengerflowsim/simulation/Vehicle", name := "isDone", desc := "()Z" } : Jvm.MethodName) prog_32_method_5_code (1 : Nat) (Option.some Jvm.ClassFile.FieldType.boolean)).before a0 Z = true := V.1 _ (List.mem_of_getElem? (i := 235) rfl)
theorem wd236 (V : Env1 Z a0 n0 uu0 uu1 uu2 uu3 uu4 uu5 uu6 uu7 uu8 uu9) : (Jvm.Cond.methodLink "com/example/passenger_flow_sim/passengerflowsim/simulation/VehicleLeavePinLaw" (55 : Nat) ({ cls := "com/example/passenger_flow_sim/passengerflowsim/simulation/Vehicle", name := "isDeparting", desc := "()Z" } : Jvm.MethodName)).before a0 Z = true := V.1 _ (List.mem_of_getElem? (i := 236) rfl)
theorem wd237 (V : Env1 Z a0 n0 uu0 uu1 uu2 uu3 uu4 uu5 uu6 uu7 uu8 uu9) : (Jvm.Cond.declares ({ cls := "com/example/passenger_flow_sim/passengerflowsim/simulation/Vehicle", name := "isDeparting", desc := "()Z" } : Jvm.MethodName)).before a0 Z = true := V.1 _ (List.mem_of_getElem? (i := 237) rfl)
theorem wd238 (V : Env1 Z a0 n0 uu0 uu1 uu2 uu3 uu4 uu5 uu6 uu7 uu8 uu9) : (Jvm.Cond.instanceMethod ({ cls := "com/example/passenger_flow_sim/passengerflowsim/simulation/Vehicle", name := "isDeparting", desc := "()Z" } : Jvm.MethodName)).before a0 Z = true := V.1 _ (List.mem_of_getElem? (i := 238) rfl)
theorem wd239 (V : Env1 Z a0 n0 uu0 uu1 uu2 uu3 uu4 uu5 uu6 uu7 uu8 uu9) : (Jvm.Cond.selects "com/example/passenger_flow_sim/passengerflowsim/simulation/Vehicle" ({ cls := "com/example/passenger_flow_sim/passengerflowsim/simulation/Vehicle", name := "isDeparting", desc := "()Z" } : Jvm.MethodName) ({ cls := "com/example/passenger_flow_sim/passengerflowsim/simulation/Vehicle", name := "isDeparting", desc := "()Z" } : Jvm.MethodName)).before a0 Z = true := V.1 _ (List.mem_of_getElem? (i := 239) rfl)
theorem wd240 (V : Env1 Z a0 n0 uu0 uu1 uu2 uu3 uu4 uu5 uu6 uu7 uu8 uu9) : (Jvm.Cond.code ({ cls := "com/example/passenger_flow_sim/passengerflowsim/simulation/Vehicle", name := "isDeparting", desc := "()Z" } : Jvm.MethodName) prog_32_method_6_code (1 : Nat) (Option.some Jvm.ClassFile.FieldType.boolean)).before a0 Z = true := V.1 _ (List.mem_of_getElem? (i := 240) rfl)
theorem wd241 (V : Env1 Z a0 n0 uu0 uu1 uu2 uu3 uu4 uu5 uu6 uu7 uu8 uu9) : (Jvm.Cond.methodLink "com/example/passenger_flow_sim/passengerflowsim/simulation/VehicleLeavePinLaw" (48 : Nat) ({ cls := "com/example/passenger_flow_sim/passengerflowsim/simulation/Vehicle", name := "hasLeft", desc := "(I)Z" } : Jvm.MethodName)).before a0 Z = true := V.1 _ (List.mem_of_getElem? (i := 241) rfl)
theorem wd242 (V : Env1 Z a0 n0 uu0 uu1 uu2 uu3 uu4 uu5 uu6 uu7 uu8 uu9) : (Jvm.Cond.declares ({ cls := "com/example/passenger_flow_sim/passengerflowsim/simulation/Vehicle", name := "hasLeft", desc := "(I)Z" } : Jvm.MethodName)).before a0 Z = true := V.1 _ (List.mem_of_getElem? (i := 242) rfl)
theorem wd243 (V : Env1 Z a0 n0 uu0 uu1 uu2 uu3 uu4 uu5 uu6 uu7 uu8 uu9) : (Jvm.Cond.instanceMethod ({ cls := "com/example/passenger_flow_sim/passengerflowsim/simulation/Vehicle", name := "hasLeft", desc := "(I)Z" } : Jvm.MethodName)).before a0 Z = true := V.1 _ (List.mem_of_getElem? (i := 243) rfl)
theorem wd244 (V : Env1 Z a0 n0 uu0 uu1 uu2 uu3 uu4 uu5 uu6 uu7 uu8 uu9) : (Jvm.Cond.selects "com/example/passenger_flow_sim/passengerflowsim/simulation/Vehicle" ({ cls := "com/example/passenger_flow_sim/passengerflowsim/simulation/Vehicle", name := "hasLeft", desc := "(I)Z" } : Jvm.MethodName) ({ cls := "com/example/passenger_flow_sim/passengerflowsim/simulation/Vehicle", name := "hasLeft", desc := "(I)Z" } : Jvm.MethodName)).before a0 Z = true := V.1 _ (List.mem_of_getElem? (i := 244) rfl)
theorem wd245 (V : Env1 Z a0 n0 uu0 uu1 uu2 uu3 uu4 uu5 uu6 uu7 uu8 uu9) : (Jvm.Cond.code ({ cls := "com/example/passenger_flow_sim/passengerflowsim/simulation/Vehicle", name := "hasLeft", desc := "(I)Z" } : Jvm.MethodName) prog_32_method_8_code (2 : Nat) (Option.some Jvm.ClassFile.FieldType.boolean)).before a0 Z = true := V.1 _ (List.mem_of_getElem? (i := 245) rfl)
theorem wd246 (V : Env1 Z a0 n0 uu0 uu1 uu2 uu3 uu4 uu5 uu6 uu7 uu8 uu9) : (Jvm.Cond.methodLink "com/example/passenger_flow_sim/passengerflowsim/simulation/VehicleLeavePinLaw" (58 : Nat) ({ cls := "com/example/passenger_flow_sim/passengerflowsim/simulation/Vehicle", name := "nextTime", desc := "()I" } : Jvm.MethodName)).before a0 Z = true := V.1 _ (List.mem_of_getElem? (i := 246) rfl)
theorem wd247 (V : Env1 Z a0 n0 uu0 uu1 uu2 uu3 uu4 uu5 uu6 uu7 uu8 uu9) : (Jvm.Cond.declares ({ cls := "com/example/passenger_flow_sim/passengerflowsim/simulation/Vehicle", name := "nextTime", desc := "()I" } : Jvm.MethodName)).before a0 Z = true := V.1 _ (List.mem_of_getElem? (i := 247) rfl)
theorem wd248 (V : Env1 Z a0 n0 uu0 uu1 uu2 uu3 uu4 uu5 uu6 uu7 uu8 uu9) : (Jvm.Cond.instanceMethod ({ cls := "com/example/passenger_flow_sim/passengerflowsim/simulation/Vehicle", name := "nextTime", desc := "()I" } : Jvm.MethodName)).before a0 Z = true := V.1 _ (List.mem_of_getElem? (i := 248) rfl)
theorem wd249 (V : Env1 Z a0 n0 uu0 uu1 uu2 uu3 uu4 uu5 uu6 uu7 uu8 uu9) : (Jvm.Cond.selects "com/example/passenger_flow_sim/passengerflowsim/simulation/Vehicle" ({ cls := "com/example/passenger_flow_sim/passengerflowsim/simulation/Vehicle", name := "nextTime", desc := "()I" } : Jvm.MethodName) ({ cls := "com/example/passenger_flow_sim/passengerflowsim/simulation/Vehicle", name := "nextTime", desc := "()I" } : Jvm.MethodName)).before a0 Z = true := V.1 _ (List.mem_of_getElem? (i := 249) rfl)
theorem wd250 (V : Env1 Z a0 n0 uu0 uu1 uu2 uu3 uu4 uu5 uu6 uu7 uu8 uu9) : (Jvm.Cond.code ({ cls := "com/example/passenger_flow_sim/passengerflowsim/simulation/Vehicle", name := "nextTime", desc := "()I" } : Jvm.MethodName) prog_32_method_7_code (2 : Nat) (Option.some Jvm.ClassFile.FieldType.int)).before a0 Z = true := V.1 _ (List.mem_of_getElem? (i := 250) rfl)
theorem wd251 (V : Env1 Z a0 n0 uu0 uu1 uu2 uu3 uu4 uu5 uu6 uu7 uu8 uu9) : (Jvm.Cond.methodLink "com/example/passenger_flow_sim/passengerflowsim/simulation/Vehicle" (51 : Nat) ({ cls := "com/example/passenger_flow_sim/passengerflowsim/simulation/Vehicle", name := "isDeparting", desc := "()Z" } : Jvm.MethodName)).before a0 Z = true := V.1 _ (List.mem_of_getElem? (i := 251) rfl)
theorem wd252 (V : Env1 Z a0 n0 uu0 uu1 uu2 uu3 uu4 uu5 uu6 uu7 uu8 uu9) : (Jvm.Cond.methodLink "com/example/passenger_flow_sim/passengerflowsim/simulation/Vehicle" (59 : Nat) ({ cls := "com/example/passenger_flow_sim/passengerflowsim/timetable/Trip", name := "arrival", desc := "(I)I" } : Jvm.MethodName)).before a0 Z = true := V.1 _ (List.mem_of_getElem? (i := 252) rfl)
theorem wd253 (V : Env1 Z a0 n0 uu0 uu1 uu2 uu3 uu4 uu5 uu6 uu7 uu8 uu9) : (Jvm.Cond.declares ({ cls := "com/example/passenger_flow_sim/passengerflowsim/timetable/Trip", name := "arrival", desc := "(I)I" } : Jvm.MethodName)).before a0 Z = true := V.1 _ (List.mem_of_getElem? (i := 253) rfl)
theorem wd254 (V : Env1 Z a0 n0 uu0 uu1 uu2 uu3 uu4 uu5 uu6 uu7 uu8 uu9) : (Jvm.Cond.instanceMethod ({ cls := "com/example/passenger_flow_sim/passengerflowsim/timetable/Trip", name := "arrival", desc := "(I)I" } : Jvm.MethodName)).before a0 Z = true := V.1 _ (List.mem_of_getElem? (i := 254) rfl)
theorem wd255 (V : Env1 Z a0 n0 uu0 uu1 uu2 uu3 uu4 uu5 uu6 uu7 uu8 uu9) : (Jvm.Cond.selects "com/example/passenger_flow_sim/passengerflowsim/timetable/Trip" ({ cls := "com/example/passenger_flow_sim/passengerflowsim/timetable/Trip", name := "arrival", desc := "(I)I" } : Jvm.MethodName) ({ cls := "com/example/passenger_flow_sim/passengerflowsim/timetable/Trip", name := "arrival", desc := "(I)I" } : Jvm.MethodName)).before a0 Z = true := V.1 _ (List.mem_of_getElem? (i := 255) rfl)
theorem wd256 (V : Env1 Z a0 n0 uu0 uu1 uu2 uu3 uu4 uu5 uu6 uu7 uu8 uu9) : (Jvm.Cond.code ({ cls := "com/example/passenger_flow_sim/passengerflowsim/timetable/Trip", name := "arrival", desc := "(I)I" } : Jvm.MethodName) prog_42_method_6_code (2 : Nat) (Option.some Jvm.ClassFile.FieldType.int)).before a0 Z = true := V.1 _ (List.mem_of_getElem? (i := 256) rfl)
theorem wd257 (V : Env1 Z a0 n0 uu0 uu1 uu2 uu3 uu4 uu5 uu6 uu7 uu8 uu9) : (Jvm.Cond.methodLink "com/example/passenger_flow_sim/passengerflowsim/simulation/VehicleLeavePinLaw" (52 : Nat) ({ cls := "com/example/passenger_flow_sim/passengerflowsim/simulation/TripLoads", name := "load", desc := "(I)I" } : Jvm.MethodName)).before a0 Z = true := V.1 _ (List.mem_of_getElem? (i := 257) rfl)
theorem wd258 (V : Env1 Z a0 n0 uu0 uu1 uu2 uu3 uu4 uu5 uu6 uu7 uu8 uu9) : (Jvm.Cond.declares ({ cls := "com/example/passenger_flow_sim/passengerflowsim/simulation/TripLoads", name := "load", desc := "(I)I" } : Jvm.MethodName)).before a0 Z = true := V.1 _ (List.mem_of_getElem? (i := 258) rfl)
theorem wd259 (V : Env1 Z a0 n0 uu0 uu1 uu2 uu3 uu4 uu5 uu6 uu7 uu8 uu9) : (Jvm.Cond.instanceMethod ({ cls := "com/example/passenger_flow_sim/passengerflowsim/simulation/TripLoads", name := "load", desc := "(I)I" } : Jvm.MethodName)).before a0 Z = true := V.1 _ (List.mem_of_getElem? (i := 259) rfl)
theorem wd260 (V : Env1 Z a0 n0 uu0 uu1 uu2 uu3 uu4 uu5 uu6 uu7 uu8 uu9) : (Jvm.Cond.selects "com/example/passenger_flow_sim/passengerflowsim/simulation/TripLoads" ({ cls := "com/example/passenger_flow_sim/passengerflowsim/simulation/TripLoads", name := "load", desc := "(I)I" } : Jvm.MethodName) ({ cls := "com/example/passenger_flow_sim/passengerflowsim/simulation/TripLoads", name := "load", desc := "(I)I" } : Jvm.MethodName)).before a0 Z = true := V.1 _ (List.mem_of_getElem? (i := 260) rfl)
theorem wd261 (V : Env1 Z a0 n0 uu0 uu1 uu2 uu3 uu4 uu5 uu6 uu7 uu8 uu9) : (Jvm.Cond.code ({ cls := "com/example/passenger_flow_sim/passengerflowsim/simulation/TripLoads", name := "load", desc := "(I)I" } : Jvm.MethodName) prog_31_method_4_code (2 : Nat) (Option.some Jvm.ClassFile.FieldType.int)).before a0 Z = true := V.1 _ (List.mem_of_getElem? (i := 261) rfl)
theorem wd262 (V : Env1 Z a0 n0 uu0 uu1 uu2 uu3 uu4 uu5 uu6 uu7 uu8 uu9) : (Jvm.Cond.methodLink "com/example/passenger_flow_sim/passengerflowsim/simulation/VehicleLeavePinLaw" (61 : Nat) ({ cls := "com/example/passenger_flow_sim/passengerflowsim/simulation/Vehicle", name := "board", desc := "(Lcom/example/passenger_flow_sim/passengerflowsim/simulation/Traveller;I)V" } : Jvm.MethodName)).before a0 Z = true := V.1 _ (List.mem_of_getElem? (i := 262) rfl)
theorem wd263 (V : Env1 Z a0 n0 uu0 uu1 uu2 uu3 uu4 uu5 uu6 uu7 uu8 uu9) : (Jvm.Cond.declares ({ cls := "com/example/passenger_flow_sim/passengerflowsim/simulation/Vehicle", name := "board", desc := "(Lcom/example/passenger_flow_sim/passengerflowsim/simulation/Traveller;I)V" } : Jvm.MethodName)).before a0 Z = true := V.1 _ (List.mem_of_getElem? (i := 263) rfl)
theorem wd264 (V : Env1 Z a0 n0 uu0 uu1 uu2 uu3 uu4 uu5 uu6 uu7 uu8 uu9) : (Jvm.Cond.instanceMethod ({ cls := "com/example/passenger_flow_sim/passengerflowsim/simulation/Vehicle", name := "board", desc := "(Lcom/example/passenger_flow_sim/passengerflowsim/simulation/Traveller;I)V" } : Jvm.MethodName)).before a0 Z = true := V.1 _ (List.mem_of_getElem? (i := 264) rfl)
theorem wd265 (V : Env1 Z a0 n0 uu0 uu1 uu2 uu3 uu4 uu5 uu6 uu7 uu8 uu9) : (Jvm.Cond.selects "com/example/passenger_flow_sim/passengerflowsim/simulation/Vehicle" ({ cls := "com/example/passenger_flow_sim/passengerflowsim/simulation/Vehicle", name := "board", desc := "(Lcom/example/passenger_flow_sim/passengerflowsim/simulation/Traveller;I)V" } : Jvm.MethodName) ({ cls := "com/example/passenger_flow_sim/passengerflowsim/simulation/Vehicle", name := "board", desc := "(Lcom/example/passenger_flow_sim/passengerflowsim/simulation/Traveller;I)V" } : Jvm.MethodName)).before a0 Z = true := V.1 _ (List.mem_of_getElem? (i := 265) rfl)
theorem wd266 (V : Env1 Z a0 n0 uu0 uu1 uu2 uu3 uu4 uu5 uu6 uu7 uu8 uu9) : (Jvm.Cond.code ({ cls := "com/example/passenger_flow_sim/passengerflowsim/simulation/Vehicle", name := "board", desc := "(Lcom/example/passenger_flow_sim/passengerflowsim/simulation/Traveller;I)V" } : Jvm.MethodName) prog_32_method_12_code (3 : Nat) (Option.none : Option Jvm.ClassFile.FieldType)).before a0 Z = true := V.1 _ (List.mem_of_getElem? (i := 266) rfl)
theorem wd267 (V : Env1 Z a0 n0 uu0 uu1 uu2 uu3 uu4 uu5 uu6 uu7 uu8 uu9) : (Jvm.Cond.methodLink "com/example/passenger_flow_sim/passengerflowsim/simulation/Vehicle" (62 : Nat) ({ cls := "com/example/passenger_flow_sim/passengerflowsim/simulation/Vehicle", name := "add", desc := "(Ljava/util/List;ILcom/example/passenger_flow_sim/passengerflowsim/simulation/Traveller;)V" } : Jvm.MethodName)).before a0 Z = true := V.1 _ (List.mem_of_getElem? (i := 267) rfl)
theorem wd268 (V : Env1 Z a0 n0 uu0 uu1 uu2 uu3 uu4 uu5 uu6 uu7 uu8 uu9) : (Jvm.Cond.static ({ cls := "com/example/passenger_flow_sim/passengerflowsim/simulation/Vehicle", name := "add", desc := "(Ljava/util/List;ILcom/example/passenger_flow_sim/passengerflowsim/simulation/Traveller;)V" } : Jvm.MethodName)).before a0 Z = true := V.1 _ (List.mem_of_getElem? (i := 268) rfl)
theorem wd269 (V : Env1 Z a0 n0 uu0 uu1 uu2 uu3 uu4 uu5 uu6 uu7 uu8 uu9) : (Jvm.Cond.code ({ cls := "com/example/passenger_flow_sim/passengerflowsim/simulation/Vehicle", name := "add", desc := "(Ljava/util/List;ILcom/example/passenger_flow_sim/passengerflowsim/simulation/Traveller;)V" } : Jvm.MethodName) prog_32_method_15_code (3 : Nat) (Option.none : Option Jvm.ClassFile.FieldType)).before a0 Z = true := V.1 _ (List.mem_of_getElem? (i := 269) rfl)
theorem wd270 (V : Env1 Z a0 n0 uu0 uu1 uu2 uu3 uu4 uu5 uu6 uu7 uu8 uu9) : (Jvm.Cond.methodLink "com/example/passenger_flow_sim/passengerflowsim/simulation/Vehicle" (89 : Nat) ({ cls := "java/util/ArrayList", name := "<init>", desc := "()V" } : Jvm.MethodName)).before a0 Z = true := V.1 _ (List.mem_of_getElem? (i := 270) rfl)
theorem wd271 (V : Env1 Z a0 n0 uu0 uu1 uu2 uu3 uu4 uu5 uu6 uu7 uu8 uu9) : (Jvm.Cond.instanceMethod ({ cls := "java/util/ArrayList", name := "<init>", desc := "()V" } : Jvm.MethodName)).before a0 Z = true := V.1 _ (List.mem_of_getElem? (i := 271) rfl)
theorem wd272 (V : Env1 Z a0 n0 uu0 uu1 uu2 uu3 uu4 uu5 uu6 uu7 uu8 uu9) : (Jvm.Cond.code ({ cls := "java/util/ArrayList", name := "<init>", desc := "()V" } : Jvm.MethodName) jdk_38_method_2_code (1 : Nat) (Option.none : Option Jvm.ClassFile.FieldType)).before a0 Z = true := V.1 _ (List.mem_of_getElem? (i := 272) rfl)
theorem wd273 (V : Env1 Z a0 n0 uu0 uu1 uu2 uu3 uu4 uu5 uu6 uu7 uu8 uu9) : (Jvm.Cond.fieldLink "java/util/ArrayList" (39 : Nat) "java/util/ArrayList" "DEFAULTCAPACITY_EMPTY_ELEMENTDATA" "[Ljava/lang/Object;").before a0 Z = true := V.1 _ (List.mem_of_getElem? (i := 273) rfl)
theorem wd274 (V : Env1 Z a0 n0 uu0 uu1 uu2 uu3 uu4 uu5 uu6 uu7 uu8 uu9) : (Jvm.Cond.castable "java/util/ArrayList" "java/lang/Object").before a0 Z = true := V.1 _ (List.mem_of_getElem? (i := 274) rfl)
theorem wd275 (V : Env1 Z a0 n0 uu0 uu1 uu2 uu3 uu4 uu5 uu6 uu7 uu8 uu9) : (Jvm.Cond.classLink "com/example/passenger_flow_sim/passengerflowsim/simulation/Vehicle" (71 : Nat) "java/util/List").before a0 Z = true := V.1 _ (List.mem_of_getElem? (i := 275) rfl)
theorem wd276 (V : Env1 Z a0 n0 uu0 uu1 uu2 uu3 uu4 uu5 uu6 uu7 uu8 uu9) : (Jvm.Cond.methodLink "com/example/passenger_flow_sim/passengerflowsim/simulation/Vehicle" (94 : Nat) ({ cls := "java/util/List", name := "add", desc := "(Ljava/lang/Object;)Z" } : Jvm.MethodName)).before a0 Z = true := V.1 _ (List.mem_of_getElem? (i := 276) rfl)
theorem wd277 (V : Env1 Z a0 n0 uu0 uu1 uu2 uu3 uu4 uu5 uu6 uu7 uu8 uu9) : (Jvm.Cond.declares ({ cls := "java/util/List", name := "add", desc := "(Ljava/lang/Object;)Z" } : Jvm.MethodName)).before a0 Z = true := V.1 _ (List.mem_of_getElem? (i := 277) rfl)
theorem wd278 (V : Env1 Z a0 n0 uu0 uu1 uu2 uu3 uu4 uu5 uu6 uu7 uu8 uu9) : (Jvm.Cond.interfaceMethod "java/util/List" "java/util/List" "add" "(Ljava/lang/Object;)Z").before a0 Z = true := V.1 _ (List.mem_of_getElem? (i := 278) rfl)
theorem wd279 (V : Env1 Z a0 n0 uu0 uu1 uu2 uu3 uu4 uu5 uu6 uu7 uu8 uu9) : (Jvm.Cond.selects "java/util/ArrayList" ({ cls := "java/util/List", name := "add", desc := "(Ljava/lang/Object;)Z" } : Jvm.MethodName) ({ cls := "java/util/ArrayList", name := "add", desc := "(Ljava/lang/Object;)Z" } : Jvm.MethodName)).before a0 Z = true := V.1 _ (List.mem_of_getElem? (i := 279) rfl)
theorem wd280 (V : Env1 Z a0 n0 uu0 uu1 uu2 uu3 uu4 uu5 uu6 uu7 uu8 uu9) : (Jvm.Cond.instanceMethod ({ cls := "java/util/ArrayList", name := "add", desc := "(Ljava/lang/Object;)Z" } : Jvm.MethodName)).before a0 Z = true := V.1 _ (List.mem_of_getElem? (i := 280) rfl)
theorem wd281 (V : Env1 Z a0 n0 uu0 uu1 uu2 uu3 uu4 uu5 uu6 uu7 uu8 uu9) : (Jvm.Cond.publicMethod ({ cls := "java/util/ArrayList", name := "add", desc := "(Ljava/lang/Object;)Z" } : Jvm.MethodName)).before a0 Z = true := V.1 _ (List.mem_of_getElem? (i := 281) rfl)
theorem wd282 (V : Env1 Z a0 n0 uu0 uu1 uu2 uu3 uu4 uu5 uu6 uu7 uu8 uu9) : (Jvm.Cond.unhidden "java/util/ArrayList" "add" "(Ljava/lang/Object;)Z").before a0 Z = true := V.1 _ (List.mem_of_getElem? (i := 282) rfl)
theorem wd283 (V : Env1 Z a0 n0 uu0 uu1 uu2 uu3 uu4 uu5 uu6 uu7 uu8 uu9) : (Jvm.Cond.code ({ cls := "java/util/ArrayList", name := "add", desc := "(Ljava/lang/Object;)Z" } : Jvm.MethodName) jdk_38_method_25_code (2 : Nat) (Option.some Jvm.ClassFile.FieldType.boolean)).before a0 Z = true := V.1 _ (List.mem_of_getElem? (i := 283) rfl)
theorem wd284 (V : Env1 Z a0 n0 uu0 uu1 uu2 uu3 uu4 uu5 uu6 uu7 uu8 uu9) : (Jvm.Cond.fieldLink "java/util/ArrayList" (63 : Nat) "java/util/ArrayList" "modCount" "I").before a0 Z = true := V.1 _ (List.mem_of_getElem? (i := 284) rfl)
theorem wd285 (V : Env1 Z a0 n0 uu0 uu1 uu2 uu3 uu4 uu5 uu6 uu7 uu8 uu9) : (Jvm.Cond.sameField "java/util/ArrayList" "java/util/AbstractList" "modCount" "I").before a0 Z = true := V.1 _ (List.mem_of_getElem? (i := 285) rfl)
theorem wd286 (V : Env1 Z a0 n0 uu0 uu1 uu2 uu3 uu4 uu5 uu6 uu7 uu8 uu9) : (Jvm.Cond.methodLink "java/util/ArrayList" (131 : Nat) ({ cls := "java/util/ArrayList", name := "add", desc := "(Ljava/lang/Object;[Ljava/lang/Object;I)V" } : Jvm.MethodName)).before a0 Z = true := V.1 _ (List.mem_of_getElem? (i := 286) rfl)
theorem wd287 (V : Env1 Z a0 n0 uu0 uu1 uu2 uu3 uu4 uu5 uu6 uu7 uu8 uu9) : (Jvm.Cond.instanceMethod ({ cls := "java/util/ArrayList", name := "add", desc := "(Ljava/lang/Object;[Ljava/lang/Object;I)V" } : Jvm.MethodName)).before a0 Z = true := V.1 _ (List.mem_of_getElem? (i := 287) rfl)
theorem wd288 (V : Env1 Z a0 n0 uu0 uu1 uu2 uu3 uu4 uu5 uu6 uu7 uu8 uu9) : (Jvm.Cond.privateMethod ({ cls := "java/util/ArrayList", name := "add", desc := "(Ljava/lang/Object;[Ljava/lang/Object;I)V" } : Jvm.MethodName)).before a0 Z = true := V.1 _ (List.mem_of_getElem? (i := 288) rfl)
theorem wd289 (V : Env1 Z a0 n0 uu0 uu1 uu2 uu3 uu4 uu5 uu6 uu7 uu8 uu9) : (Jvm.Cond.selects "java/util/ArrayList" ({ cls := "java/util/ArrayList", name := "add", desc := "(Ljava/lang/Object;[Ljava/lang/Object;I)V" } : Jvm.MethodName) ({ cls := "java/util/ArrayList", name := "add", desc := "(Ljava/lang/Object;[Ljava/lang/Object;I)V" } : Jvm.MethodName)).before a0 Z = true := V.1 _ (List.mem_of_getElem? (i := 289) rfl)
theorem wd290 (V : Env1 Z a0 n0 uu0 uu1 uu2 uu3 uu4 uu5 uu6 uu7 uu8 uu9) : (Jvm.Cond.code ({ cls := "java/util/ArrayList", name := "add", desc := "(Ljava/lang/Object;[Ljava/lang/Object;I)V" } : Jvm.MethodName) jdk_38_method_24_code (4 : Nat) (Option.none : Option Jvm.ClassFile.FieldType)).before a0 Z = true := V.1 _ (List.mem_of_getElem? (i := 290) rfl)
theorem wd291 (V : Env1 Z a0 n0 uu0 uu1 uu2 uu3 uu4 uu5 uu6 uu7 uu8 uu9) : (Jvm.Cond.methodLink "java/util/ArrayList" (129 : Nat) ({ cls := "java/util/ArrayList", name := "grow", desc := "()[Ljava/lang/Object;" } : Jvm.MethodName)).before a0 Z = true := V.1 _ (List.mem_of_getElem? (i := 291) rfl)
theorem wd292 (V : Env1 Z a0 n0 uu0 uu1 uu2 uu3 uu4 uu5 uu6 uu7 uu8 uu9) : (Jvm.Cond.instanceMethod ({ cls := "java/util/ArrayList", name := "grow", desc := "()[Ljava/lang/Object;" } : Jvm.MethodName)).before a0 Z = true := V.1 _ (List.mem_of_getElem? (i := 292) rfl)
theorem wd293 (V : Env1 Z a0 n0 uu0 uu1 uu2 uu3 uu4 uu5 uu6 uu7 uu8 uu9) : (Jvm.Cond.privateMethod ({ cls := "java/util/ArrayList", name := "grow", desc := "()[Ljava/lang/Object;" } : Jvm.MethodName)).before a0 Z = true := V.1 _ (List.mem_of_getElem? (i := 293) rfl)
theorem wd294 (V : Env1 Z a0 n0 uu0 uu1 uu2 uu3 uu4 uu5 uu6 uu7 uu8 uu9) : (Jvm.Cond.selects "java/util/ArrayList" ({ cls := "java/util/ArrayList", name := "grow", desc := "()[Ljava/lang/Object;" } : Jvm.MethodName) ({ cls := "java/util/ArrayList", name := "grow", desc := "()[Ljava/lang/Object;" } : Jvm.MethodName)).before a0 Z = true := V.1 _ (List.mem_of_getElem? (i := 294) rfl)
theorem wd295 (V : Env1 Z a0 n0 uu0 uu1 uu2 uu3 uu4 uu5 uu6 uu7 uu8 uu9) : (Jvm.Cond.code ({ cls := "java/util/ArrayList", name := "grow", desc := "()[Ljava/lang/Object;" } : Jvm.MethodName) jdk_38_method_7_code (1 : Nat) (Option.some (Jvm.ClassFile.FieldType.array (Jvm.ClassFile.FieldType.object "java/lang/Object")))).before a0 Z = true := V.1 _ (List.mem_of_getElem? (i := 295) rfl)
theorem wd296 (V : Env1 Z a0 n0 uu0 uu1 uu2 uu3 uu4 uu5 uu6 uu7 uu8 uu9) : (Jvm.Cond.methodLink "java/util/ArrayList" (69 : Nat) ({ cls := "java/util/ArrayList", name := "grow", desc := "(I)[Ljava/lang/Object;" } : Jvm.MethodName)).before a0 Z = true := V.1 _ (List.mem_of_getElem? (i := 296) rfl)
theorem wd297 (V : Env1 Z a0 n0 uu0 uu1 uu2 uu3 uu4 uu5 uu6 uu7 uu8 uu9) : (Jvm.Cond.instanceMethod ({ cls := "java/util/ArrayList", name := "grow", desc := "(I)[Ljava/lang/Object;" } : Jvm.MethodName)).before a0 Z = true := V.1 _ (List.mem_of_getElem? (i := 297) rfl)
theorem wd298 (V : Env1 Z a0 n0 uu0 uu1 uu2 uu3 uu4 uu5 uu6 uu7 uu8 uu9) : (Jvm.Cond.privateMethod ({ cls := "java/util/ArrayList", name := "grow", desc := "(I)[Ljava/lang/Object;" } : Jvm.MethodName)).before a0 Z = true := V.1 _ (List.mem_of_getElem? (i := 298) rfl)
theorem wd299 (V : Env1 Z a0 n0 uu0 uu1 uu2 uu3 uu4 uu5 uu6 uu7 uu8 uu9) : (Jvm.Cond.selects "java/util/ArrayList" ({ cls := "java/util/ArrayList", name := "grow", desc := "(I)[Ljava/lang/Object;" } : Jvm.MethodName) ({ cls := "java/util/ArrayList", name := "grow", desc := "(I)[Ljava/lang/Object;" } : Jvm.MethodName)).before a0 Z = true := V.1 _ (List.mem_of_getElem? (i := 299) rfl)
theorem wd300 (V : Env1 Z a0 n0 uu0 uu1 uu2 uu3 uu4 uu5 uu6 uu7 uu8 uu9) : (Jvm.Cond.code ({ cls := "java/util/ArrayList", name := "grow", desc := "(I)[Ljava/lang/Object;" } : Jvm.MethodName) jdk_38_method_6_code (4 : Nat) (Option.some (Jvm.ClassFile.FieldType.array (Jvm.ClassFile.FieldType.object "java/lang/Object")))).before a0 Z = true := V.1 _ (List.mem_of_getElem? (i := 300) rfl)
theorem wd301 (V : Env1 Z a0 n0 uu0 uu1 uu2 uu3 uu4 uu5 uu6 uu7 uu8 uu9) : (Jvm.Cond.methodLink "java/util/ArrayList" (79 : Nat) ({ cls := "java/lang/Math", name := "max", desc := "(II)I" } : Jvm.MethodName)).before a0 Z = true := V.1 _ (List.mem_of_getElem? (i := 301) rfl)
theorem wd302 (V : Env1 Z a0 n0 uu0 uu1 uu2 uu3 uu4 uu5 uu6 uu7 uu8 uu9) : (Jvm.Cond.static ({ cls := "java/lang/Math", name := "max", desc := "(II)I" } : Jvm.MethodName)).before a0 Z = true := V.1 _ (List.mem_of_getElem? (i := 302) rfl)
theorem wd303 (V : Env1 Z a0 n0 uu0 uu1 uu2 uu3 uu4 uu5 uu6 uu7 uu8 uu9) : (Jvm.Cond.code ({ cls := "java/lang/Math", name := "max", desc := "(II)I" } : Jvm.MethodName) jdk_29_method_65_code (2 : Nat) (Option.some Jvm.ClassFile.FieldType.int)).before a0 Z = true := V.1 _ (List.mem_of_getElem? (i := 303) rfl)
theorem wd304 (V : Env1 Z a0 n0 uu0 uu1 uu2 uu3 uu4 uu5 uu6 uu7 uu8 uu9) : (Jvm.Cond.classLink "java/util/ArrayList" (7 : Nat) "java/lang/Object").before a0 Z = true := V.1 _ (List.mem_of_getElem? (i := 304) rfl)
theorem pd_0 : parseMethodDescriptor "(Ljava/lang/String;Ljava/lang/String;[I[I[I)V" = some ⟨[(.object "java/lang/String"), (.object "java/lang/String"), (.array .int), (.array .int), (.array .int)], none⟩ := by decide +kernel
theorem pd_1 : parseMethodDescriptor "()I" = some ⟨[], (some .int)⟩ := by decide +kernel
theorem pd_2 : parseMethodDescriptor "()V" = some ⟨[], none⟩ := by decide +kernel
theorem pd_3 : parseMethodDescriptor "(ILjava/lang/Object;)V" = some ⟨[.int, (.object "java/lang/Object")], none⟩ := by decide +kernel
theorem pd_4 : parseMethodDescriptor "(ILjava/lang/Object;)Ljava/util/List;" = some ⟨[.int, (.object "java/lang/Object")], (some (.object "java/util/List"))⟩ := by decide +kernel
theorem pd_5 : parseMethodDescriptor "()[Ljava/lang/Object;" = some ⟨[], (some (.array (.object "java/lang/Object")))⟩ := by decide +kernel
theorem pd_6 : parseMethodDescriptor "(II)I" = some ⟨[.int, .int], (some .int)⟩ := by decide +kernel
theorem pd_7 : parseMethodDescriptor "([Ljava/lang/Object;ILjava/lang/Class;)[Ljava/lang/Object;" = some ⟨[(.array (.object "java/lang/Object")), .int, (.object "java/lang/Class")], (some (.array (.object "java/lang/Object")))⟩ := by decide +kernel
theorem pd_8 : parseMethodDescriptor "(Ljava/util/Collection;)V" = some ⟨[(.object "java/util/Collection")], none⟩ := by decide +kernel
theorem pd_9 : parseMethodDescriptor "(Lcom/example/passenger_flow_sim/passengerflowsim/timetable/Trip;I)V" = some ⟨[(.object "com/example/passenger_flow_sim/passengerflowsim/timetable/Trip"), .int], none⟩ := by decide +kernel
theorem pd_10 : parseMethodDescriptor "(IILjava/util/function/BiFunction;)I" = some ⟨[.int, .int, (.object "java/util/function/BiFunction")], (some .int)⟩ := by decide +kernel
theorem pd_11 : parseMethodDescriptor "(I)Ljava/lang/Object;" = some ⟨[.int], (some (.object "java/lang/Object"))⟩ := by decide +kernel
theorem pd_12 : parseMethodDescriptor "(ILjava/lang/Object;)Ljava/lang/Object;" = some ⟨[.int, (.object "java/lang/Object")], (some (.object "java/lang/Object"))⟩ := by decide +kernel
theorem pd_13 : parseMethodDescriptor "()Ljava/util/List;" = some ⟨[], (some (.object "java/util/List"))⟩ := by decide +kernel
theorem pd_14 : parseMethodDescriptor "(Ljava/util/List;I)Ljava/util/List;" = some ⟨[(.object "java/util/List"), .int], (some (.object "java/util/List"))⟩ := by decide +kernel
theorem pd_15 : parseMethodDescriptor "(Lcom/example/passenger_flow_sim/passengerflowsim/simulation/Vehicle;I)V" = some ⟨[(.object "com/example/passenger_flow_sim/passengerflowsim/simulation/Vehicle"), .int], none⟩ := by decide +kernel
theorem pd_16 : parseMethodDescriptor "(Lcom/example/passenger_flow_sim/passengerflowsim/timetable/Trip;[I)V" = some ⟨[(.object "com/example/passenger_flow_sim/passengerflowsim/timetable/Trip"), (.array .int)], none⟩ := by decide +kernel
theorem pd_17 : parseMethodDescriptor "()Lcom/example/passenger_flow_sim/passengerflowsim/simulation/TripLoads;" = some ⟨[], (some (.object "com/example/passenger_flow_sim/passengerflowsim/simulation/TripLoads"))⟩ := by decide +kernel
theorem pd_18 : parseMethodDescriptor "()Z" = some ⟨[], (some .boolean)⟩ := by decide +kernel
theorem pd_19 : parseMethodDescriptor "(I)Z" = some ⟨[.int], (some .boolean)⟩ := by decide +kernel
theorem pd_20 : parseMethodDescriptor "(I)I" = some ⟨[.int], (some .int)⟩ := by decide +kernel
theorem pd_21 : parseMethodDescriptor "(I)[Ljava/lang/Object;" = some ⟨[.int], (some (.array (.object "java/lang/Object")))⟩ := by decide +kernel
theorem pd_22 : parseMethodDescriptor "(Ljava/lang/Object;[Ljava/lang/Object;I)V" = some ⟨[(.object "java/lang/Object"), (.array (.object "java/lang/Object")), .int], none⟩ := by decide +kernel
theorem pd_23 : parseMethodDescriptor "(Ljava/lang/Object;)Z" = some ⟨[(.object "java/lang/Object")], (some .boolean)⟩ := by decide +kernel
theorem pd_24 : parseMethodDescriptor "(Ljava/util/List;ILcom/example/passenger_flow_sim/passengerflowsim/simulation/Traveller;)V" = some ⟨[(.object "java/util/List"), .int, (.object "com/example/passenger_flow_sim/passengerflowsim/simulation/Traveller")], none⟩ := by decide +kernel
theorem pd_25 : parseMethodDescriptor "(Lcom/example/passenger_flow_sim/passengerflowsim/simulation/Traveller;I)V" = some ⟨[(.object "com/example/passenger_flow_sim/passengerflowsim/simulation/Traveller"), .int], none⟩ := by decide +kernel
theorem D37_0 : decode prog_42_method_1_code 0 = .ok (.aload_n 0, 1) := by decide +kernel
theorem D37_1 : decode prog_42_method_1_code 1 = .ok (.invokespecial 1, 3) := by decide +kernel
theorem D37_4 : decode prog_42_method_1_code 4 = .ok (.aload_n 3, 1) := by decide +kernel
theorem D37_5 : decode prog_42_method_1_code 5 = .ok (.arraylength, 1) := by decide +kernel
theorem D37_6 : decode prog_42_method_1_code 6 = .ok (.ifCond .eq 19, 3) := by decide +kernel
theorem D37_9 : decode prog_42_method_1_code 9 = .ok (.aload 4, 2) := by decide +kernel
theorem D37_11 : decode prog_42_method_1_code 11 = .ok (.arraylength, 1) := by decide +kernel
theorem D37_12 : decode prog_42_method_1_code 12 = .ok (.aload_n 3, 1) := by decide +kernel
theorem D37_13 : decode prog_42_method_1_code 13 = .ok (.arraylength, 1) := by decide +kernel
theorem D37_14 : decode prog_42_method_1_code 14 = .ok (.if_icmp .ne 11, 3) := by decide +kernel
theorem D37_17 : decode prog_42_method_1_code 17 = .ok (.aload 5, 2) := by decide +kernel
theorem D37_19 : decode prog_42_method_1_code 19 = .ok (.arraylength, 1) := by decide +kernel
theorem D37_20 : decode prog_42_method_1_code 20 = .ok (.aload_n 3, 1) := by decide +kernel
theorem D37_21 : decode prog_42_method_1_code 21 = .ok (.arraylength, 1) := by decide +kernel
theorem D37_22 : decode prog_42_method_1_code 22 = .ok (.if_icmp .eq 13, 3) := by decide +kernel
theorem D37_35 : decode prog_42_method_1_code 35 = .ok (.iconst 0, 1) := by decide +kernel
theorem D37_36 : decode prog_42_method_1_code 36 = .ok (.istore 6, 2) := by decide +kernel
theorem D37_38 : decode prog_42_method_1_code 38 = .ok (.iload 6, 2) := by decide +kernel
theorem D37_40 : decode prog_42_method_1_code 40 = .ok (.aload_n 3, 1) := by decide +kernel
theorem D37_41 : decode prog_42_method_1_code 41 = .ok (.arraylength, 1) := by decide +kernel
theorem D37_42 : decode prog_42_method_1_code 42 = .ok (.if_icmp .ge 156, 3) := by decide +kernel
theorem D37_45 : decode prog_42_method_1_code 45 = .ok (.aload 5, 2) := by decide +kernel
theorem D37_47 : decode prog_42_method_1_code 47 = .ok (.iload 6, 2) := by decide +kernel
theorem D37_49 : decode prog_42_method_1_code 49 = .ok (.iaload, 1) := by decide +kernel
theorem D37_50 : decode prog_42_method_1_code 50 = .ok (.aload 4, 2) := by decide +kernel
theorem D37_52 : decode prog_42_method_1_code 52 = .ok (.iload 6, 2) := by decide +kernel
theorem D37_54 : decode prog_42_method_1_code 54 = .ok (.iaload, 1) := by decide +kernel
theorem D37_55 : decode prog_42_method_1_code 55 = .ok (.if_icmp .ge 55, 3) := by decide +kernel
theorem D37_110 : decode prog_42_method_1_code 110 = .ok (.iload 6, 2) := by decide +kernel
theorem D37_112 : decode prog_42_method_1_code 112 = .ok (.ifCond .le 80, 3) := by decide +kernel
theorem D37_192 : decode prog_42_method_1_code 192 = .ok (.iinc 6 1, 3) := by decide +kernel
theorem D37_195 : decode prog_42_method_1_code 195 = .ok (.goto (-157), 3) := by decide +kernel
theorem D37_115 : decode prog_42_method_1_code 115 = .ok (.aload 4, 2) := by decide +kernel
theorem D37_117 : decode prog_42_method_1_code 117 = .ok (.iload 6, 2) := by decide +kernel
theorem D37_119 : decode prog_42_method_1_code 119 = .ok (.iaload, 1) := by decide +kernel
theorem D37_120 : decode prog_42_method_1_code 120 = .ok (.aload 5, 2) := by decide +kernel
theorem D37_122 : decode prog_42_method_1_code 122 = .ok (.iload 6, 2) := by decide +kernel
theorem D37_124 : decode prog_42_method_1_code 124 = .ok (.iconst 1, 1) := by decide +kernel
theorem D37_125 : decode prog_42_method_1_code 125 = .ok (.isub, 1) := by decide +kernel
theorem D37_126 : decode prog_42_method_1_code 126 = .ok (.iaload, 1) := by decide +kernel
theorem D37_127 : decode prog_42_method_1_code 127 = .ok (.if_icmp .ge 65, 3) := by decide +kernel
theorem D37_198 : decode prog_42_method_1_code 198 = .ok (.aload_n 0, 1) := by decide +kernel
theorem D37_199 : decode prog_42_method_1_code 199 = .ok (.aload_n 1, 1) := by decide +kernel
theorem D37_200 : decode prog_42_method_1_code 200 = .ok (.putfield 41, 3) := by decide +kernel
theorem D37_203 : decode prog_42_method_1_code 203 = .ok (.aload_n 0, 1) := by decide +kernel
theorem D37_204 : decode prog_42_method_1_code 204 = .ok (.aload_n 2, 1) := by decide +kernel
theorem D37_205 : decode prog_42_method_1_code 205 = .ok (.putfield 47, 3) := by decide +kernel
theorem D37_208 : decode prog_42_method_1_code 208 = .ok (.aload_n 0, 1) := by decide +kernel
theorem D37_209 : decode prog_42_method_1_code 209 = .ok (.aload_n 3, 1) := by decide +kernel
theorem D37_210 : decode prog_42_method_1_code 210 = .ok (.invokevirtual 50, 3) := by decide +kernel
theorem D37_213 : decode prog_42_method_1_code 213 = .ok (.checkcast 51, 3) := by decide +kernel
theorem D37_216 : decode prog_42_method_1_code 216 = .ok (.putfield 56, 3) := by decide +kernel
theorem D37_219 : decode prog_42_method_1_code 219 = .ok (.aload_n 0, 1) := by decide +kernel
theorem D37_220 : decode prog_42_method_1_code 220 = .ok (.aload 4, 2) := by decide +kernel
theorem D37_222 : decode prog_42_method_1_code 222 = .ok (.invokevirtual 50, 3) := by decide +kernel
theorem D37_225 : decode prog_42_method_1_code 225 = .ok (.checkcast 51, 3) := by decide +kernel
theorem D37_228 : decode prog_42_method_1_code 228 = .ok (.putfield 59, 3) := by decide +kernel
theorem D37_231 : decode prog_42_method_1_code 231 = .ok (.aload_n 0, 1) := by decide +kernel
theorem D37_232 : decode prog_42_method_1_code 232 = .ok (.aload 5, 2) := by decide +kernel
theorem D37_234 : decode prog_42_method_1_code 234 = .ok (.invokevirtual 50, 3) := by decide +kernel
theorem D37_237 : decode prog_42_method_1_code 237 = .ok (.checkcast 51, 3) := by decide +kernel
theorem D37_240 : decode prog_42_method_1_code 240 = .ok (.putfield 62, 3) := by decide +kernel
theorem D37_243 : decode prog_42_method_1_code 243 = .ok (.return_, 1) := by decide +kernel
theorem D31_0 : decode prog_32_method_1_code 0 = .ok (.aload_n 0, 1) := by decide +kernel
theorem D31_1 : decode prog_32_method_1_code 1 = .ok (.invokespecial 1, 3) := by decide +kernel
theorem D31_4 : decode prog_32_method_1_code 4 = .ok (.aload_n 0, 1) := by decide +kernel
theorem D31_5 : decode prog_32_method_1_code 5 = .ok (.aload_n 1, 1) := by decide +kernel
theorem D31_6 : decode prog_32_method_1_code 6 = .ok (.putfield 7, 3) := by decide +kernel
theorem D31_9 : decode prog_32_method_1_code 9 = .ok (.aload_n 0, 1) := by decide +kernel
theorem D31_10 : decode prog_32_method_1_code 10 = .ok (.iload_n 2, 1) := by decide +kernel
theorem D31_11 : decode prog_32_method_1_code 11 = .ok (.putfield 13, 3) := by decide +kernel
theorem D31_14 : decode prog_32_method_1_code 14 = .ok (.aload_n 0, 1) := by decide +kernel
theorem D31_15 : decode prog_32_method_1_code 15 = .ok (.aload_n 1, 1) := by decide +kernel
theorem D31_16 : decode prog_32_method_1_code 16 = .ok (.invokevirtual 17, 3) := by decide +kernel
theorem D38_0 : decode prog_42_method_4_code 0 = .ok (.aload_n 0, 1) := by decide +kernel
theorem D38_1 : decode prog_42_method_4_code 1 = .ok (.getfield 56, 3) := by decide +kernel
theorem D38_4 : decode prog_42_method_4_code 4 = .ok (.arraylength, 1) := by decide +kernel
theorem D38_5 : decode prog_42_method_4_code 5 = .ok (.ireturn, 1) := by decide +kernel
theorem D31_19 : decode prog_32_method_1_code 19 = .ok (.iconst 1, 1) := by decide +kernel
theorem D31_20 : decode prog_32_method_1_code 20 = .ok (.isub, 1) := by decide +kernel
theorem D31_21 : decode prog_32_method_1_code 21 = .ok (.newarray .int, 2) := by decide +kernel
theorem D31_23 : decode prog_32_method_1_code 23 = .ok (.putfield 23, 3) := by decide +kernel
theorem D31_26 : decode prog_32_method_1_code 26 = .ok (.aload_n 0, 1) := by decide +kernel
theorem D31_27 : decode prog_32_method_1_code 27 = .ok (.new 27, 3) := by decide +kernel
theorem D31_30 : decode prog_32_method_1_code 30 = .ok (.dup, 1) := by decide +kernel
theorem D31_31 : decode prog_32_method_1_code 31 = .ok (.aload_n 1, 1) := by decide +kernel
theorem D31_32 : decode prog_32_method_1_code 32 = .ok (.invokevirtual 17, 3) := by decide +kernel
theorem D31_35 : decode prog_32_method_1_code 35 = .ok (.aconst_null, 1) := by decide +kernel
theorem D31_36 : decode prog_32_method_1_code 36 = .ok (.invokestatic 29, 3) := by decide +kernel
theorem D20_0 : decode jdk_79_method_76_code 0 = .ok (.iload_n 0, 1) := by decide +kernel
theorem D20_1 : decode jdk_79_method_76_code 1 = .ok (.ifCond .ge 31, 3) := by decide +kernel
theorem D20_32 : decode jdk_79_method_76_code 32 = .ok (.new 417, 3) := by decide +kernel
theorem D20_35 : decode jdk_79_method_76_code 35 = .ok (.dup, 1) := by decide +kernel
theorem D20_36 : decode jdk_79_method_76_code 36 = .ok (.iload_n 0, 1) := by decide +kernel
theorem D20_37 : decode jdk_79_method_76_code 37 = .ok (.aload_n 1, 1) := by decide +kernel
theorem D20_38 : decode jdk_79_method_76_code 38 = .ok (.invokespecial 419, 3) := by decide +kernel
theorem D1_0 : decode jdk_2479_method_1_code 0 = .ok (.aload_n 0, 1) := by decide +kernel
theorem D1_1 : decode jdk_2479_method_1_code 1 = .ok (.invokespecial 1, 3) := by decide +kernel
theorem D15_0 : decode jdk_39_method_1_code 0 = .ok (.aload_n 0, 1) := by decide +kernel
theorem D15_1 : decode jdk_39_method_1_code 1 = .ok (.invokespecial 1, 3) := by decide +kernel
theorem D0_0 : decode jdk_22_method_1_code 0 = .ok (.aload_n 0, 1) := by decide +kernel
theorem D0_1 : decode jdk_22_method_1_code 1 = .ok (.invokespecial 1, 3) := by decide +kernel
theorem D0_4 : decode jdk_22_method_1_code 4 = .ok (.return_, 1) := by decide +kernel
theorem D15_4 : decode jdk_39_method_1_code 4 = .ok (.aload_n 0, 1) := by decide +kernel
theorem D15_5 : decode jdk_39_method_1_code 5 = .ok (.iconst 0, 1) := by decide +kernel
theorem D15_6 : decode jdk_39_method_1_code 6 = .ok (.putfield 7, 3) := by decide +kernel
theorem D15_9 : decode jdk_39_method_1_code 9 = .ok (.return_, 1) := by decide +kernel
theorem D1_4 : decode jdk_2479_method_1_code 4 = .ok (.getstatic 7, 3) := by decide +kernel
theorem D1_7 : decode jdk_2479_method_1_code 7 = .ok (.ifCond .ne 15, 3) := by decide +kernel
theorem D1_22 : decode jdk_2479_method_1_code 22 = .ok (.aload_n 0, 1) := by decide +kernel
theorem D1_23 : decode jdk_2479_method_1_code 23 = .ok (.iload_n 1, 1) := by decide +kernel
theorem D1_24 : decode jdk_2479_method_1_code 24 = .ok (.putfield 16, 3) := by decide +kernel
theorem D1_27 : decode jdk_2479_method_1_code 27 = .ok (.aload_n 0, 1) := by decide +kernel
theorem D1_28 : decode jdk_2479_method_1_code 28 = .ok (.aload_n 2, 1) := by decide +kernel
theorem D1_29 : decode jdk_2479_method_1_code 29 = .ok (.putfield 20, 3) := by decide +kernel
theorem D1_32 : decode jdk_2479_method_1_code 32 = .ok (.return_, 1) := by decide +kernel
theorem D20_41 : decode jdk_79_method_76_code 41 = .ok (.areturn, 1) := by decide +kernel
theorem D31_39 : decode prog_32_method_1_code 39 = .ok (.invokespecial 35, 3) := by decide +kernel
theorem D12_0 : decode jdk_38_method_3_code 0 = .ok (.aload_n 0, 1) := by decide +kernel
theorem D12_1 : decode jdk_38_method_3_code 1 = .ok (.invokespecial 1, 3) := by decide +kernel
theorem D12_4 : decode jdk_38_method_3_code 4 = .ok (.aload_n 1, 1) := by decide +kernel
theorem D12_5 : decode jdk_38_method_3_code 5 = .ok (.invokeinterface 42 1, 5) := by decide +kernel
theorem D2_0 : decode jdk_2479_method_8_code 0 = .ok (.aload_n 0, 1) := by decide +kernel
theorem D2_1 : decode jdk_2479_method_8_code 1 = .ok (.getfield 16, 3) := by decide +kernel
theorem D2_4 : decode jdk_2479_method_8_code 4 = .ok (.anewarray 50, 3) := by decide +kernel
theorem D2_7 : decode jdk_2479_method_8_code 7 = .ok (.astore_n 1, 1) := by decide +kernel
theorem D2_8 : decode jdk_2479_method_8_code 8 = .ok (.aload_n 0, 1) := by decide +kernel
theorem D2_9 : decode jdk_2479_method_8_code 9 = .ok (.getfield 20, 3) := by decide +kernel
theorem D2_12 : decode jdk_2479_method_8_code 12 = .ok (.ifnull 16, 3) := by decide +kernel
theorem D2_28 : decode jdk_2479_method_8_code 28 = .ok (.aload_n 1, 1) := by decide +kernel
theorem D2_29 : decode jdk_2479_method_8_code 29 = .ok (.areturn, 1) := by decide +kernel
theorem D12_10 : decode jdk_38_method_3_code 10 = .ok (.astore_n 2, 1) := by decide +kernel
theorem D12_11 : decode jdk_38_method_3_code 11 = .ok (.aload_n 0, 1) := by decide +kernel
theorem D12_12 : decode jdk_38_method_3_code 12 = .ok (.aload_n 2, 1) := by decide +kernel
theorem D12_13 : decode jdk_38_method_3_code 13 = .ok (.arraylength, 1) := by decide +kernel
theorem D12_14 : decode jdk_38_method_3_code 14 = .ok (.dup_x1, 1) := by decide +kernel
theorem D12_15 : decode jdk_38_method_3_code 15 = .ok (.putfield 48, 3) := by decide +kernel
theorem D12_18 : decode jdk_38_method_3_code 18 = .ok (.ifCond .eq 39, 3) := by decide +kernel
theorem D12_21 : decode jdk_38_method_3_code 21 = .ok (.aload_n 1, 1) := by decide +kernel
theorem D12_22 : decode jdk_38_method_3_code 22 = .ok (.invokeinterface 52 1, 5) := by decide +kernel
theorem D12_27 : decode jdk_38_method_3_code 27 = .ok (.ldc 10, 2) := by decide +kernel
theorem D12_29 : decode jdk_38_method_3_code 29 = .ok (.if_acmp .ne 11, 3) := by decide +kernel
theorem D12_40 : decode jdk_38_method_3_code 40 = .ok (.aload_n 0, 1) := by decide +kernel
theorem D12_41 : decode jdk_38_method_3_code 41 = .ok (.aload_n 2, 1) := by decide +kernel
theorem D12_42 : decode jdk_38_method_3_code 42 = .ok (.aload_n 0, 1) := by decide +kernel
theorem D12_43 : decode jdk_38_method_3_code 43 = .ok (.getfield 48, 3) := by decide +kernel
theorem D12_46 : decode jdk_38_method_3_code 46 = .ok (.ldc 56, 2) := by decide +kernel
theorem D12_48 : decode jdk_38_method_3_code 48 = .ok (.invokestatic 57, 3) := by decide +kernel
theorem D19_0 : decode jdk_65_method_120_code 0 = .ok (.aload_n 2, 1) := by decide +kernel
theorem D19_1 : decode jdk_65_method_120_code 1 = .ok (.ldc 110, 2) := by decide +kernel
theorem D19_3 : decode jdk_65_method_120_code 3 = .ok (.if_acmp .ne 10, 3) := by decide +kernel
theorem D19_6 : decode jdk_65_method_120_code 6 = .ok (.iload_n 1, 1) := by decide +kernel
theorem D19_7 : decode jdk_65_method_120_code 7 = .ok (.anewarray 2, 3) := by decide +kernel
theorem D19_10 : decode jdk_65_method_120_code 10 = .ok (.goto 14, 3) := by decide +kernel
theorem D19_24 : decode jdk_65_method_120_code 24 = .ok (.astore_n 3, 1) := by decide +kernel
theorem D19_25 : decode jdk_65_method_120_code 25 = .ok (.aload_n 0, 1) := by decide +kernel
theorem D19_26 : decode jdk_65_method_120_code 26 = .ok (.iconst 0, 1) := by decide +kernel
theorem D19_27 : decode jdk_65_method_120_code 27 = .ok (.aload_n 3, 1) := by decide +kernel
theorem D19_28 : decode jdk_65_method_120_code 28 = .ok (.iconst 0, 1) := by decide +kernel
theorem D19_29 : decode jdk_65_method_120_code 29 = .ok (.aload_n 0, 1) := by decide +kernel
theorem D19_30 : decode jdk_65_method_120_code 30 = .ok (.arraylength, 1) := by decide +kernel
theorem D19_31 : decode jdk_65_method_120_code 31 = .ok (.iload_n 1, 1) := by decide +kernel
theorem D19_32 : decode jdk_65_method_120_code 32 = .ok (.invokestatic 304, 3) := by decide +kernel
theorem D4_0 : decode jdk_29_method_69_code 0 = .ok (.iload_n 0, 1) := by decide +kernel
theorem D4_1 : decode jdk_29_method_69_code 1 = .ok (.iload_n 1, 1) := by decide +kernel
theorem D4_2 : decode jdk_29_method_69_code 2 = .ok (.if_icmp .gt 7, 3) := by decide +kernel
theorem D4_5 : decode jdk_29_method_69_code 5 = .ok (.iload_n 0, 1) := by decide +kernel
theorem D4_6 : decode jdk_29_method_69_code 6 = .ok (.goto 4, 3) := by decide +kernel
theorem D4_10 : decode jdk_29_method_69_code 10 = .ok (.ireturn, 1) := by decide +kernel
theorem D19_35 : decode jdk_65_method_120_code 35 = .ok (.invokestatic 150, 3) := by decide +kernel
theorem D19_38 : decode jdk_65_method_120_code 38 = .ok (.aload_n 3, 1) := by decide +kernel
theorem D19_39 : decode jdk_65_method_120_code 39 = .ok (.areturn, 1) := by decide +kernel
theorem D12_51 : decode jdk_38_method_3_code 51 = .ok (.putfield 9, 3) := by decide +kernel
theorem D12_54 : decode jdk_38_method_3_code 54 = .ok (.goto 10, 3) := by decide +kernel
theorem D12_64 : decode jdk_38_method_3_code 64 = .ok (.return_, 1) := by decide +kernel
theorem D31_42 : decode prog_32_method_1_code 42 = .ok (.putfield 38, 3) := by decide +kernel
theorem D31_45 : decode prog_32_method_1_code 45 = .ok (.aload_n 0, 1) := by decide +kernel
theorem D31_46 : decode prog_32_method_1_code 46 = .ok (.new 27, 3) := by decide +kernel
theorem D31_49 : decode prog_32_method_1_code 49 = .ok (.dup, 1) := by decide +kernel
theorem D31_50 : decode prog_32_method_1_code 50 = .ok (.aload_n 1, 1) := by decide +kernel
theorem D31_51 : decode prog_32_method_1_code 51 = .ok (.invokevirtual 17, 3) := by decide +kernel
theorem D31_54 : decode prog_32_method_1_code 54 = .ok (.aconst_null, 1) := by decide +kernel
theorem D31_55 : decode prog_32_method_1_code 55 = .ok (.invokestatic 29, 3) := by decide +kernel
theorem D31_58 : decode prog_32_method_1_code 58 = .ok (.invokespecial 35, 3) := by decide +kernel
theorem D31_61 : decode prog_32_method_1_code 61 = .ok (.putfield 42, 3) := by decide +kernel
theorem D31_64 : decode prog_32_method_1_code 64 = .ok (.return_, 1) := by decide +kernel
theorem D25_0 : decode prog_32_method_10_code 0 = .ok (.aload_n 0, 1) := by decide +kernel
theorem D25_1 : decode prog_32_method_10_code 1 = .ok (.getfield 42, 3) := by decide +kernel
theorem D25_4 : decode prog_32_method_10_code 4 = .ok (.aload_n 0, 1) := by decide +kernel
theorem D25_5 : decode prog_32_method_10_code 5 = .ok (.getfield 48, 3) := by decide +kernel
theorem D25_8 : decode prog_32_method_10_code 8 = .ok (.iconst 2, 1) := by decide +kernel
theorem D25_9 : decode prog_32_method_10_code 9 = .ok (.idiv, 1) := by decide +kernel
theorem D25_10 : decode prog_32_method_10_code 10 = .ok (.invokestatic 66, 3) := by decide +kernel
theorem D30_0 : decode prog_32_method_16_code 0 = .ok (.aload_n 0, 1) := by decide +kernel
theorem D30_1 : decode prog_32_method_16_code 1 = .ok (.iload_n 1, 1) := by decide +kernel
theorem D30_2 : decode prog_32_method_16_code 2 = .ok (.invokeinterface 85 2, 5) := by decide +kernel
theorem D7_0 : decode jdk_38_method_20_code 0 = .ok (.iload_n 1, 1) := by decide +kernel
theorem D7_1 : decode jdk_38_method_20_code 1 = .ok (.aload_n 0, 1) := by decide +kernel
theorem D7_2 : decode jdk_38_method_20_code 2 = .ok (.getfield 48, 3) := by decide +kernel
theorem D7_5 : decode jdk_38_method_20_code 5 = .ok (.invokestatic 118, 3) := by decide +kernel
theorem D5_0 : decode jdk_31_method_17_code 0 = .ok (.iload_n 0, 1) := by decide +kernel
theorem D5_1 : decode jdk_31_method_17_code 1 = .ok (.iload_n 1, 1) := by decide +kernel
theorem D5_2 : decode jdk_31_method_17_code 2 = .ok (.aconst_null, 1) := by decide +kernel
theorem D5_3 : decode jdk_31_method_17_code 3 = .ok (.invokestatic 105, 3) := by decide +kernel
theorem D17_0 : decode jdk_41_method_11_code 0 = .ok (.iload_n 0, 1) := by decide +kernel
theorem D17_1 : decode jdk_41_method_11_code 1 = .ok (.ifCond .lt 8, 3) := by decide +kernel
theorem D17_4 : decode jdk_41_method_11_code 4 = .ok (.iload_n 0, 1) := by decide +kernel
theorem D17_5 : decode jdk_41_method_11_code 5 = .ok (.iload_n 1, 1) := by decide +kernel
theorem D17_6 : decode jdk_41_method_11_code 6 = .ok (.if_icmp .lt 10, 3) := by decide +kernel
theorem D17_16 : decode jdk_41_method_11_code 16 = .ok (.iload_n 0, 1) := by decide +kernel
theorem D17_17 : decode jdk_41_method_11_code 17 = .ok (.ireturn, 1) := by decide +kernel
theorem D5_6 : decode jdk_31_method_17_code 6 = .ok (.ireturn, 1) := by decide +kernel
theorem D7_8 : decode jdk_38_method_20_code 8 = .ok (.pop, 1) := by decide +kernel
theorem D7_9 : decode jdk_38_method_20_code 9 = .ok (.aload_n 0, 1) := by decide +kernel
theorem D7_10 : decode jdk_38_method_20_code 10 = .ok (.iload_n 1, 1) := by decide +kernel
theorem D7_11 : decode jdk_38_method_20_code 11 = .ok (.invokevirtual 123, 3) := by decide +kernel
theorem D6_0 : decode jdk_38_method_18_code 0 = .ok (.aload_n 0, 1) := by decide +kernel
theorem D6_1 : decode jdk_38_method_18_code 1 = .ok (.getfield 9, 3) := by decide +kernel
theorem D6_4 : decode jdk_38_method_18_code 4 = .ok (.iload_n 1, 1) := by decide +kernel
theorem D6_5 : decode jdk_38_method_18_code 5 = .ok (.aaload, 1) := by decide +kernel
theorem D6_6 : decode jdk_38_method_18_code 6 = .ok (.areturn, 1) := by decide +kernel
theorem D7_14 : decode jdk_38_method_20_code 14 = .ok (.areturn, 1) := by decide +kernel
theorem D30_7 : decode prog_32_method_16_code 7 = .ok (.checkcast 71, 3) := by decide +kernel
theorem D30_10 : decode prog_32_method_16_code 10 = .ok (.astore_n 2, 1) := by decide +kernel
theorem D30_11 : decode prog_32_method_16_code 11 = .ok (.aload_n 0, 1) := by decide +kernel
theorem D30_12 : decode prog_32_method_16_code 12 = .ok (.iload_n 1, 1) := by decide +kernel
theorem D30_13 : decode prog_32_method_16_code 13 = .ok (.aconst_null, 1) := by decide +kernel
theorem D30_14 : decode prog_32_method_16_code 14 = .ok (.invokeinterface 90 3, 5) := by decide +kernel
theorem D8_0 : decode jdk_38_method_23_code 0 = .ok (.iload_n 1, 1) := by decide +kernel
theorem D8_1 : decode jdk_38_method_23_code 1 = .ok (.aload_n 0, 1) := by decide +kernel
theorem D8_2 : decode jdk_38_method_23_code 2 = .ok (.getfield 48, 3) := by decide +kernel
theorem D8_5 : decode jdk_38_method_23_code 5 = .ok (.invokestatic 118, 3) := by decide +kernel
theorem D8_8 : decode jdk_38_method_23_code 8 = .ok (.pop, 1) := by decide +kernel
theorem D8_9 : decode jdk_38_method_23_code 9 = .ok (.aload_n 0, 1) := by decide +kernel
theorem D8_10 : decode jdk_38_method_23_code 10 = .ok (.iload_n 1, 1) := by decide +kernel
theorem D8_11 : decode jdk_38_method_23_code 11 = .ok (.invokevirtual 123, 3) := by decide +kernel
theorem D8_14 : decode jdk_38_method_23_code 14 = .ok (.astore_n 3, 1) := by decide +kernel
theorem D8_15 : decode jdk_38_method_23_code 15 = .ok (.aload_n 0, 1) := by decide +kernel
theorem D8_16 : decode jdk_38_method_23_code 16 = .ok (.getfield 9, 3) := by decide +kernel
theorem D8_19 : decode jdk_38_method_23_code 19 = .ok (.iload_n 1, 1) := by decide +kernel
theorem D8_20 : decode jdk_38_method_23_code 20 = .ok (.aload_n 2, 1) := by decide +kernel
theorem D8_21 : decode jdk_38_method_23_code 21 = .ok (.aastore, 1) := by decide +kernel
theorem D8_22 : decode jdk_38_method_23_code 22 = .ok (.aload_n 3, 1) := by decide +kernel
theorem D8_23 : decode jdk_38_method_23_code 23 = .ok (.areturn, 1) := by decide +kernel
theorem D30_19 : decode prog_32_method_16_code 19 = .ok (.pop, 1) := by decide +kernel
theorem D30_20 : decode prog_32_method_16_code 20 = .ok (.aload_n 2, 1) := by decide +kernel
theorem D30_21 : decode prog_32_method_16_code 21 = .ok (.ifnonnull 9, 3) := by decide +kernel
theorem D30_24 : decode prog_32_method_16_code 24 = .ok (.invokestatic 97, 3) := by decide +kernel
theorem D16_0 : decode jdk_40_method_36_code 0 = .ok (.getstatic 90, 3) := by decide +kernel
theorem D16_3 : decode jdk_40_method_36_code 3 = .ok (.areturn, 1) := by decide +kernel
theorem D30_27 : decode prog_32_method_16_code 27 = .ok (.goto 4, 3) := by decide +kernel
theorem D30_31 : decode prog_32_method_16_code 31 = .ok (.areturn, 1) := by decide +kernel
theorem D25_13 : decode prog_32_method_10_code 13 = .ok (.astore_n 1, 1) := by decide +kernel
theorem D25_14 : decode prog_32_method_10_code 14 = .ok (.aload_n 0, 1) := by decide +kernel
theorem D25_15 : decode prog_32_method_10_code 15 = .ok (.dup, 1) := by decide +kernel
theorem D25_16 : decode prog_32_method_10_code 16 = .ok (.getfield 45, 3) := by decide +kernel
theorem D25_19 : decode prog_32_method_10_code 19 = .ok (.aload_n 1, 1) := by decide +kernel
theorem D25_20 : decode prog_32_method_10_code 20 = .ok (.invokeinterface 70 1, 5) := by decide +kernel
theorem D18_0 : decode jdk_45_method_3_code 0 = .ok (.aload_n 0, 1) := by decide +kernel
theorem D18_1 : decode jdk_45_method_3_code 1 = .ok (.getfield 7, 3) := by decide +kernel
theorem D18_4 : decode jdk_45_method_3_code 4 = .ok (.arraylength, 1) := by decide +kernel
theorem D18_5 : decode jdk_45_method_3_code 5 = .ok (.ireturn, 1) := by decide +kernel
theorem D25_25 : decode prog_32_method_10_code 25 = .ok (.isub, 1) := by decide +kernel
theorem D25_26 : decode prog_32_method_10_code 26 = .ok (.putfield 45, 3) := by decide +kernel
theorem D25_29 : decode prog_32_method_10_code 29 = .ok (.aload_n 0, 1) := by decide +kernel
theorem D25_30 : decode prog_32_method_10_code 30 = .ok (.dup, 1) := by decide +kernel
theorem D25_31 : decode prog_32_method_10_code 31 = .ok (.getfield 48, 3) := by decide +kernel
theorem D25_34 : decode prog_32_method_10_code 34 = .ok (.iconst 1, 1) := by decide +kernel
theorem D25_35 : decode prog_32_method_10_code 35 = .ok (.iadd, 1) := by decide +kernel
theorem D25_36 : decode prog_32_method_10_code 36 = .ok (.putfield 48, 3) := by decide +kernel
theorem D25_39 : decode prog_32_method_10_code 39 = .ok (.aload_n 1, 1) := by decide +kernel
theorem D25_40 : decode prog_32_method_10_code 40 = .ok (.areturn, 1) := by decide +kernel
theorem D21_0 : decode method_3_code 0 = .ok (.iload_n 1, 1) := by decide +kernel
theorem D21_1 : decode method_3_code 1 = .ok (.iconst 1, 1) := by decide +kernel
theorem D21_2 : decode method_3_code 2 = .ok (.if_icmp .lt 9, 3) := by decide +kernel
theorem D21_11 : decode method_3_code 11 = .ok (.iload_n 1, 1) := by decide +kernel
theorem D21_12 : decode method_3_code 12 = .ok (.iconst 2, 1) := by decide +kernel
theorem D21_13 : decode method_3_code 13 = .ok (.if_icmp .lt 9, 3) := by decide +kernel
theorem D21_22 : decode method_3_code 22 = .ok (.iload_n 1, 1) := by decide +kernel
theorem D21_23 : decode method_3_code 23 = .ok (.iconst 3, 1) := by decide +kernel
theorem D21_24 : decode method_3_code 24 = .ok (.if_icmp .lt 9, 3) := by decide +kernel
theorem D21_33 : decode method_3_code 33 = .ok (.return_, 1) := by decide +kernel
theorem D27_0 : decode prog_32_method_13_code 0 = .ok (.aload_n 0, 1) := by decide +kernel
theorem D27_1 : decode prog_32_method_13_code 1 = .ok (.getfield 48, 3) := by decide +kernel
theorem D27_4 : decode prog_32_method_13_code 4 = .ok (.iconst 2, 1) := by decide +kernel
theorem D27_5 : decode prog_32_method_13_code 5 = .ok (.idiv, 1) := by decide +kernel
theorem D27_6 : decode prog_32_method_13_code 6 = .ok (.istore_n 1, 1) := by decide +kernel
theorem D27_7 : decode prog_32_method_13_code 7 = .ok (.iload_n 1, 1) := by decide +kernel
theorem D27_8 : decode prog_32_method_13_code 8 = .ok (.aload_n 0, 1) := by decide +kernel
theorem D27_9 : decode prog_32_method_13_code 9 = .ok (.getfield 23, 3) := by decide +kernel
theorem D27_12 : decode prog_32_method_13_code 12 = .ok (.arraylength, 1) := by decide +kernel
theorem D27_13 : decode prog_32_method_13_code 13 = .ok (.if_icmp .ge 13, 3) := by decide +kernel
theorem D27_16 : decode prog_32_method_13_code 16 = .ok (.aload_n 0, 1) := by decide +kernel
theorem D27_17 : decode prog_32_method_13_code 17 = .ok (.getfield 23, 3) := by decide +kernel
theorem D27_20 : decode prog_32_method_13_code 20 = .ok (.iload_n 1, 1) := by decide +kernel
theorem D27_21 : decode prog_32_method_13_code 21 = .ok (.aload_n 0, 1) := by decide +kernel
theorem D27_22 : decode prog_32_method_13_code 22 = .ok (.getfield 45, 3) := by decide +kernel
theorem D27_25 : decode prog_32_method_13_code 25 = .ok (.iastore, 1) := by decide +kernel
theorem D27_26 : decode prog_32_method_13_code 26 = .ok (.aload_n 0, 1) := by decide +kernel
theorem D27_27 : decode prog_32_method_13_code 27 = .ok (.dup, 1) := by decide +kernel
theorem D27_28 : decode prog_32_method_13_code 28 = .ok (.getfield 48, 3) := by decide +kernel
theorem D27_31 : decode prog_32_method_13_code 31 = .ok (.iconst 1, 1) := by decide +kernel
theorem D27_32 : decode prog_32_method_13_code 32 = .ok (.iadd, 1) := by decide +kernel
theorem D27_33 : decode prog_32_method_13_code 33 = .ok (.putfield 48, 3) := by decide +kernel
theorem D27_36 : decode prog_32_method_13_code 36 = .ok (.return_, 1) := by decide +kernel
theorem D28_0 : decode prog_32_method_14_code 0 = .ok (.new 75, 3) := by decide +kernel
theorem D28_3 : decode prog_32_method_14_code 3 = .ok (.dup, 1) := by decide +kernel
theorem D28_4 : decode prog_32_method_14_code 4 = .ok (.aload_n 0, 1) := by decide +kernel
theorem D28_5 : decode prog_32_method_14_code 5 = .ok (.getfield 7, 3) := by decide +kernel
theorem D28_8 : decode prog_32_method_14_code 8 = .ok (.aload_n 0, 1) := by decide +kernel
theorem D28_9 : decode prog_32_method_14_code 9 = .ok (.getfield 23, 3) := by decide +kernel
theorem D28_12 : decode prog_32_method_14_code 12 = .ok (.invokevirtual 77, 3) := by decide +kernel
theorem D28_15 : decode prog_32_method_14_code 15 = .ok (.checkcast 78, 3) := by decide +kernel
theorem D28_18 : decode prog_32_method_14_code 18 = .ok (.invokespecial 82, 3) := by decide +kernel
theorem D22_0 : decode prog_31_method_1_code 0 = .ok (.aload_n 0, 1) := by decide +kernel
theorem D22_1 : decode prog_31_method_1_code 1 = .ok (.invokespecial 1, 3) := by decide +kernel
theorem D22_4 : decode prog_31_method_1_code 4 = .ok (.aload_n 0, 1) := by decide +kernel
theorem D22_5 : decode prog_31_method_1_code 5 = .ok (.aload_n 1, 1) := by decide +kernel
theorem D22_6 : decode prog_31_method_1_code 6 = .ok (.putfield 7, 3) := by decide +kernel
theorem D22_9 : decode prog_31_method_1_code 9 = .ok (.aload_n 0, 1) := by decide +kernel
theorem D22_10 : decode prog_31_method_1_code 10 = .ok (.aload_n 2, 1) := by decide +kernel
theorem D22_11 : decode prog_31_method_1_code 11 = .ok (.putfield 13, 3) := by decide +kernel
theorem D22_14 : decode prog_31_method_1_code 14 = .ok (.return_, 1) := by decide +kernel
theorem D28_21 : decode prog_32_method_14_code 21 = .ok (.areturn, 1) := by decide +kernel
theorem D23_0 : decode prog_31_method_3_code 0 = .ok (.aload_n 0, 1) := by decide +kernel
theorem D23_1 : decode prog_31_method_3_code 1 = .ok (.getfield 13, 3) := by decide +kernel
theorem D23_4 : decode prog_31_method_3_code 4 = .ok (.arraylength, 1) := by decide +kernel
theorem D23_5 : decode prog_31_method_3_code 5 = .ok (.ireturn, 1) := by decide +kernel
theorem D32_0 : decode prog_32_method_4_code 0 = .ok (.aload_n 0, 1) := by decide +kernel
theorem D32_1 : decode prog_32_method_4_code 1 = .ok (.getfield 45, 3) := by decide +kernel
theorem D32_4 : decode prog_32_method_4_code 4 = .ok (.ireturn, 1) := by decide +kernel
theorem D33_0 : decode prog_32_method_5_code 0 = .ok (.aload_n 0, 1) := by decide +kernel
theorem D33_1 : decode prog_32_method_5_code 1 = .ok (.getfield 48, 3) := by decide +kernel
theorem D33_4 : decode prog_32_method_5_code 4 = .ok (.iconst 2, 1) := by decide +kernel
theorem D33_5 : decode prog_32_method_5_code 5 = .ok (.aload_n 0, 1) := by decide +kernel
theorem D33_6 : decode prog_32_method_5_code 6 = .ok (.getfield 7, 3) := by decide +kernel
theorem D33_9 : decode prog_32_method_5_code 9 = .ok (.invokevirtual 17, 3) := by decide +kernel
theorem D33_12 : decode prog_32_method_5_code 12 = .ok (.imul, 1) := by decide +kernel
theorem D33_13 : decode prog_32_method_5_code 13 = .ok (.if_icmp .ne 7, 3) := by decide +kernel
theorem D33_20 : decode prog_32_method_5_code 20 = .ok (.iconst 0, 1) := by decide +kernel
theorem D33_21 : decode prog_32_method_5_code 21 = .ok (.ireturn, 1) := by decide +kernel
theorem D34_0 : decode prog_32_method_6_code 0 = .ok (.aload_n 0, 1) := by decide +kernel
theorem D34_1 : decode prog_32_method_6_code 1 = .ok (.getfield 48, 3) := by decide +kernel
theorem D34_4 : decode prog_32_method_6_code 4 = .ok (.iconst 2, 1) := by decide +kernel
theorem D34_5 : decode prog_32_method_6_code 5 = .ok (.irem, 1) := by decide +kernel
theorem D34_6 : decode prog_32_method_6_code 6 = .ok (.iconst 1, 1) := by decide +kernel
theorem D34_7 : decode prog_32_method_6_code 7 = .ok (.if_icmp .ne 7, 3) := by decide +kernel
theorem D34_14 : decode prog_32_method_6_code 14 = .ok (.iconst 0, 1) := by decide +kernel
theorem D34_15 : decode prog_32_method_6_code 15 = .ok (.ireturn, 1) := by decide +kernel
theorem D36_0 : decode prog_32_method_8_code 0 = .ok (.aload_n 0, 1) := by decide +kernel
theorem D36_1 : decode prog_32_method_8_code 1 = .ok (.getfield 48, 3) := by decide +kernel
theorem D36_4 : decode prog_32_method_8_code 4 = .ok (.iconst 2, 1) := by decide +kernel
theorem D36_5 : decode prog_32_method_8_code 5 = .ok (.iload_n 1, 1) := by decide +kernel
theorem D36_6 : decode prog_32_method_8_code 6 = .ok (.imul, 1) := by decide +kernel
theorem D36_7 : decode prog_32_method_8_code 7 = .ok (.iconst 1, 1) := by decide +kernel
theorem D36_8 : decode prog_32_method_8_code 8 = .ok (.iadd, 1) := by decide +kernel
theorem D36_9 : decode prog_32_method_8_code 9 = .ok (.if_icmp .le 7, 3) := by decide +kernel
theorem D36_12 : decode prog_32_method_8_code 12 = .ok (.iconst 1, 1) := by decide +kernel
theorem D36_13 : decode prog_32_method_8_code 13 = .ok (.goto 4, 3) := by decide +kernel
theorem D36_17 : decode prog_32_method_8_code 17 = .ok (.ireturn, 1) := by decide +kernel
theorem D36_16 : decode prog_32_method_8_code 16 = .ok (.iconst 0, 1) := by decide +kernel
theorem D35_0 : decode prog_32_method_7_code 0 = .ok (.aload_n 0, 1) := by decide +kernel
theorem D35_1 : decode prog_32_method_7_code 1 = .ok (.getfield 48, 3) := by decide +kernel
theorem D35_4 : decode prog_32_method_7_code 4 = .ok (.iconst 2, 1) := by decide +kernel
theorem D35_5 : decode prog_32_method_7_code 5 = .ok (.idiv, 1) := by decide +kernel
theorem D35_6 : decode prog_32_method_7_code 6 = .ok (.istore_n 1, 1) := by decide +kernel
theorem D35_7 : decode prog_32_method_7_code 7 = .ok (.aload_n 0, 1) := by decide +kernel
theorem D35_8 : decode prog_32_method_7_code 8 = .ok (.invokevirtual 51, 3) := by decide +kernel
theorem D35_11 : decode prog_32_method_7_code 11 = .ok (.ifCond .eq 14, 3) := by decide +kernel
theorem D35_25 : decode prog_32_method_7_code 25 = .ok (.aload_n 0, 1) := by decide +kernel
theorem D35_26 : decode prog_32_method_7_code 26 = .ok (.getfield 7, 3) := by decide +kernel
theorem D35_29 : decode prog_32_method_7_code 29 = .ok (.iload_n 1, 1) := by decide +kernel
theorem D35_30 : decode prog_32_method_7_code 30 = .ok (.invokevirtual 59, 3) := by decide +kernel
theorem D39_0 : decode prog_42_method_6_code 0 = .ok (.aload_n 0, 1) := by decide +kernel
theorem D39_1 : decode prog_42_method_6_code 1 = .ok (.getfield 59, 3) := by decide +kernel
theorem D39_4 : decode prog_42_method_6_code 4 = .ok (.iload_n 1, 1) := by decide +kernel
theorem D39_5 : decode prog_42_method_6_code 5 = .ok (.iaload, 1) := by decide +kernel
theorem D39_6 : decode prog_42_method_6_code 6 = .ok (.ireturn, 1) := by decide +kernel
theorem D35_33 : decode prog_32_method_7_code 33 = .ok (.ireturn, 1) := by decide +kernel
theorem D24_0 : decode prog_31_method_4_code 0 = .ok (.aload_n 0, 1) := by decide +kernel
theorem D24_1 : decode prog_31_method_4_code 1 = .ok (.getfield 13, 3) := by decide +kernel
theorem D24_4 : decode prog_31_method_4_code 4 = .ok (.iload_n 1, 1) := by decide +kernel
theorem D24_5 : decode prog_31_method_4_code 5 = .ok (.iaload, 1) := by decide +kernel
theorem D24_6 : decode prog_31_method_4_code 6 = .ok (.ireturn, 1) := by decide +kernel
theorem D21_5 : decode method_3_code 5 = .ok (.aload_n 0, 1) := by decide +kernel
theorem D21_6 : decode method_3_code 6 = .ok (.aconst_null, 1) := by decide +kernel
theorem D21_7 : decode method_3_code 7 = .ok (.iconst 1, 1) := by decide +kernel
theorem D21_8 : decode method_3_code 8 = .ok (.invokevirtual 61, 3) := by decide +kernel
theorem D26_0 : decode prog_32_method_12_code 0 = .ok (.aload_n 0, 1) := by decide +kernel
theorem D26_1 : decode prog_32_method_12_code 1 = .ok (.dup, 1) := by decide +kernel
theorem D26_2 : decode prog_32_method_12_code 2 = .ok (.getfield 45, 3) := by decide +kernel
theorem D26_5 : decode prog_32_method_12_code 5 = .ok (.iconst 1, 1) := by decide +kernel
theorem D26_6 : decode prog_32_method_12_code 6 = .ok (.iadd, 1) := by decide +kernel
theorem D26_7 : decode prog_32_method_12_code 7 = .ok (.putfield 45, 3) := by decide +kernel
theorem D26_10 : decode prog_32_method_12_code 10 = .ok (.aload_n 0, 1) := by decide +kernel
theorem D26_11 : decode prog_32_method_12_code 11 = .ok (.getfield 42, 3) := by decide +kernel
theorem D26_14 : decode prog_32_method_12_code 14 = .ok (.iload_n 2, 1) := by decide +kernel
theorem D26_15 : decode prog_32_method_12_code 15 = .ok (.aload_n 1, 1) := by decide +kernel
theorem D26_16 : decode prog_32_method_12_code 16 = .ok (.invokestatic 62, 3) := by decide +kernel
theorem D29_0 : decode prog_32_method_15_code 0 = .ok (.aload_n 0, 1) := by decide +kernel
theorem D29_1 : decode prog_32_method_15_code 1 = .ok (.iload_n 1, 1) := by decide +kernel
theorem D29_2 : decode prog_32_method_15_code 2 = .ok (.invokeinterface 85 2, 5) := by decide +kernel
theorem D29_7 : decode prog_32_method_15_code 7 = .ok (.ifnonnull 18, 3) := by decide +kernel
theorem D29_10 : decode prog_32_method_15_code 10 = .ok (.aload_n 0, 1) := by decide +kernel
theorem D29_11 : decode prog_32_method_15_code 11 = .ok (.iload_n 1, 1) := by decide +kernel
theorem D29_12 : decode prog_32_method_15_code 12 = .ok (.new 27, 3) := by decide +kernel
theorem D29_15 : decode prog_32_method_15_code 15 = .ok (.dup, 1) := by decide +kernel
theorem D29_16 : decode prog_32_method_15_code 16 = .ok (.invokespecial 89, 3) := by decide +kernel
theorem D11_0 : decode jdk_38_method_2_code 0 = .ok (.aload_n 0, 1) := by decide +kernel
theorem D11_1 : decode jdk_38_method_2_code 1 = .ok (.invokespecial 1, 3) := by decide +kernel
theorem D11_4 : decode jdk_38_method_2_code 4 = .ok (.aload_n 0, 1) := by decide +kernel
theorem D11_5 : decode jdk_38_method_2_code 5 = .ok (.getstatic 39, 3) := by decide +kernel
theorem D11_8 : decode jdk_38_method_2_code 8 = .ok (.putfield 9, 3) := by decide +kernel
theorem D11_11 : decode jdk_38_method_2_code 11 = .ok (.return_, 1) := by decide +kernel
theorem D29_19 : decode prog_32_method_15_code 19 = .ok (.invokeinterface 90 3, 5) := by decide +kernel
theorem D29_24 : decode prog_32_method_15_code 24 = .ok (.pop, 1) := by decide +kernel
theorem D29_25 : decode prog_32_method_15_code 25 = .ok (.aload_n 0, 1) := by decide +kernel
theorem D29_26 : decode prog_32_method_15_code 26 = .ok (.iload_n 1, 1) := by decide +kernel
theorem D29_27 : decode prog_32_method_15_code 27 = .ok (.invokeinterface 85 2, 5) := by decide +kernel
theorem D29_32 : decode prog_32_method_15_code 32 = .ok (.checkcast 71, 3) := by decide +kernel
theorem D29_35 : decode prog_32_method_15_code 35 = .ok (.aload_n 2, 1) := by decide +kernel
theorem D29_36 : decode prog_32_method_15_code 36 = .ok (.invokeinterface 94 2, 5) := by decide +kernel
theorem D10_0 : decode jdk_38_method_25_code 0 = .ok (.aload_n 0, 1) := by decide +kernel
theorem D10_1 : decode jdk_38_method_25_code 1 = .ok (.dup, 1) := by decide +kernel
theorem D10_2 : decode jdk_38_method_25_code 2 = .ok (.getfield 63, 3) := by decide +kernel
theorem D10_5 : decode jdk_38_method_25_code 5 = .ok (.iconst 1, 1) := by decide +kernel
theorem D10_6 : decode jdk_38_method_25_code 6 = .ok (.iadd, 1) := by decide +kernel
theorem D10_7 : decode jdk_38_method_25_code 7 = .ok (.putfield 63, 3) := by decide +kernel
theorem D10_10 : decode jdk_38_method_25_code 10 = .ok (.aload_n 0, 1) := by decide +kernel
theorem D10_11 : decode jdk_38_method_25_code 11 = .ok (.aload_n 1, 1) := by decide +kernel
theorem D10_12 : decode jdk_38_method_25_code 12 = .ok (.aload_n 0, 1) := by decide +kernel
theorem D10_13 : decode jdk_38_method_25_code 13 = .ok (.getfield 9, 3) := by decide +kernel
theorem D10_16 : decode jdk_38_method_25_code 16 = .ok (.aload_n 0, 1) := by decide +kernel
theorem D10_17 : decode jdk_38_method_25_code 17 = .ok (.getfield 48, 3) := by decide +kernel
theorem D10_20 : decode jdk_38_method_25_code 20 = .ok (.invokevirtual 131, 3) := by decide +kernel
theorem D9_0 : decode jdk_38_method_24_code 0 = .ok (.iload_n 3, 1) := by decide +kernel
theorem D9_1 : decode jdk_38_method_24_code 1 = .ok (.aload_n 2, 1) := by decide +kernel
theorem D9_2 : decode jdk_38_method_24_code 2 = .ok (.arraylength, 1) := by decide +kernel
theorem D9_3 : decode jdk_38_method_24_code 3 = .ok (.if_icmp .ne 8, 3) := by decide +kernel
theorem D9_6 : decode jdk_38_method_24_code 6 = .ok (.aload_n 0, 1) := by decide +kernel
theorem D9_7 : decode jdk_38_method_24_code 7 = .ok (.invokevirtual 129, 3) := by decide +kernel
theorem D14_0 : decode jdk_38_method_7_code 0 = .ok (.aload_n 0, 1) := by decide +kernel
theorem D14_1 : decode jdk_38_method_7_code 1 = .ok (.aload_n 0, 1) := by decide +kernel
theorem D14_2 : decode jdk_38_method_7_code 2 = .ok (.getfield 48, 3) := by decide +kernel
theorem D14_5 : decode jdk_38_method_7_code 5 = .ok (.iconst 1, 1) := by decide +kernel
theorem D14_6 : decode jdk_38_method_7_code 6 = .ok (.iadd, 1) := by decide +kernel
theorem D14_7 : decode jdk_38_method_7_code 7 = .ok (.invokevirtual 69, 3) := by decide +kernel
theorem D13_0 : decode jdk_38_method_6_code 0 = .ok (.aload_n 0, 1) := by decide +kernel
theorem D13_1 : decode jdk_38_method_6_code 1 = .ok (.getfield 9, 3) := by decide +kernel
theorem D13_4 : decode jdk_38_method_6_code 4 = .ok (.arraylength, 1) := by decide +kernel
theorem D13_5 : decode jdk_38_method_6_code 5 = .ok (.istore_n 2, 1) := by decide +kernel
theorem D13_6 : decode jdk_38_method_6_code 6 = .ok (.iload_n 2, 1) := by decide +kernel
theorem D13_7 : decode jdk_38_method_6_code 7 = .ok (.ifCond .gt 13, 3) := by decide +kernel
theorem D13_10 : decode jdk_38_method_6_code 10 = .ok (.aload_n 0, 1) := by decide +kernel
theorem D13_11 : decode jdk_38_method_6_code 11 = .ok (.getfield 9, 3) := by decide +kernel
theorem D13_14 : decode jdk_38_method_6_code 14 = .ok (.getstatic 39, 3) := by decide +kernel
theorem D13_17 : decode jdk_38_method_6_code 17 = .ok (.if_acmp .eq 28, 3) := by decide +kernel
theorem D13_45 : decode jdk_38_method_6_code 45 = .ok (.aload_n 0, 1) := by decide +kernel
theorem D13_46 : decode jdk_38_method_6_code 46 = .ok (.bipush 10, 2) := by decide +kernel
theorem D13_48 : decode jdk_38_method_6_code 48 = .ok (.iload_n 1, 1) := by decide +kernel
theorem D13_49 : decode jdk_38_method_6_code 49 = .ok (.invokestatic 79, 3) := by decide +kernel
theorem D3_0 : decode jdk_29_method_65_code 0 = .ok (.iload_n 0, 1) := by decide +kernel
theorem D3_1 : decode jdk_29_method_65_code 1 = .ok (.iload_n 1, 1) := by decide +kernel
theorem D3_2 : decode jdk_29_method_65_code 2 = .ok (.if_icmp .lt 7, 3) := by decide +kernel
theorem D3_5 : decode jdk_29_method_65_code 5 = .ok (.iload_n 0, 1) := by decide +kernel
theorem D3_6 : decode jdk_29_method_65_code 6 = .ok (.goto 4, 3) := by decide +kernel
theorem D3_10 : decode jdk_29_method_65_code 10 = .ok (.ireturn, 1) := by decide +kernel
theorem D13_52 : decode jdk_38_method_6_code 52 = .ok (.anewarray 7, 3) := by decide +kernel
theorem D13_55 : decode jdk_38_method_6_code 55 = .ok (.dup_x1, 1) := by decide +kernel
theorem D13_56 : decode jdk_38_method_6_code 56 = .ok (.putfield 9, 3) := by decide +kernel
theorem D13_59 : decode jdk_38_method_6_code 59 = .ok (.areturn, 1) := by decide +kernel
theorem D14_10 : decode jdk_38_method_7_code 10 = .ok (.areturn, 1) := by decide +kernel
theorem D9_10 : decode jdk_38_method_24_code 10 = .ok (.astore_n 2, 1) := by decide +kernel
theorem D9_11 : decode jdk_38_method_24_code 11 = .ok (.aload_n 2, 1) := by decide +kernel
theorem D9_12 : decode jdk_38_method_24_code 12 = .ok (.iload_n 3, 1) := by decide +kernel
theorem D9_13 : decode jdk_38_method_24_code 13 = .ok (.aload_n 1, 1) := by decide +kernel
theorem D9_14 : decode jdk_38_method_24_code 14 = .ok (.aastore, 1) := by decide +kernel
theorem D9_15 : decode jdk_38_method_24_code 15 = .ok (.aload_n 0, 1) := by decide +kernel
theorem D9_16 : decode jdk_38_method_24_code 16 = .ok (.iload_n 3, 1) := by decide +kernel
theorem D9_17 : decode jdk_38_method_24_code 17 = .ok (.iconst 1, 1) := by decide +kernel
theorem D9_18 : decode jdk_38_method_24_code 18 = .ok (.iadd, 1) := by decide +kernel
theorem D9_19 : decode jdk_38_method_24_code 19 = .ok (.putfield 48, 3) := by decide +kernel
theorem D9_22 : decode jdk_38_method_24_code 22 = .ok (.return_, 1) := by decide +kernel
theorem D10_23 : decode jdk_38_method_25_code 23 = .ok (.iconst 1, 1) := by decide +kernel
theorem D10_24 : decode jdk_38_method_25_code 24 = .ok (.ireturn, 1) := by decide +kernel
theorem D29_41 : decode prog_32_method_15_code 41 = .ok (.pop, 1) := by decide +kernel
theorem D29_42 : decode prog_32_method_15_code 42 = .ok (.return_, 1) := by decide +kernel
theorem D26_19 : decode prog_32_method_12_code 19 = .ok (.return_, 1) := by decide +kernel
theorem D21_16 : decode method_3_code 16 = .ok (.aload_n 0, 1) := by decide +kernel
theorem D21_17 : decode method_3_code 17 = .ok (.aconst_null, 1) := by decide +kernel
theorem D21_18 : decode method_3_code 18 = .ok (.iconst 1, 1) := by decide +kernel
theorem D21_19 : decode method_3_code 19 = .ok (.invokevirtual 61, 3) := by decide +kernel
theorem D21_27 : decode method_3_code 27 = .ok (.aload_n 0, 1) := by decide +kernel
theorem D21_28 : decode method_3_code 28 = .ok (.aconst_null, 1) := by decide +kernel
theorem D21_29 : decode method_3_code 29 = .ok (.iconst 1, 1) := by decide +kernel
theorem D21_30 : decode method_3_code 30 = .ok (.invokevirtual 61, 3) := by decide +kernel
theorem D33_16 : decode prog_32_method_5_code 16 = .ok (.iconst 1, 1) := by decide +kernel
theorem D33_17 : decode prog_32_method_5_code 17 = .ok (.goto 4, 3) := by decide +kernel
theorem own_x (x : Int32) : ¬ ((x &&& 1073741823) + 1 < (x &&& 1073741823)) ∧ ¬ ((x &&& 1073741823) + 3 < (x &&& 1073741823) + 2) ∧ ¬ ((x &&& 1073741823) + 2 < (x &&& 1073741823) + 1) := by
  obtain ⟨h1, h2⟩ := own_andn x 1073741823 1073741823 rfl (by decide)
  generalize x &&& 1073741823 = k at h1 h2
  have q : ∀ j : Int32, 0 ≤ j.toInt → j.toInt ≤ 3 → (k + j).toInt = k.toInt + j.toInt := fun j a b => by
    rw [Int32.toInt_add]; exact Int.bmod_eq_of_le (by omega) (by omega)
  have q1 := q 1 (by decide) (by decide)
  have q2 := q 2 (by decide) (by decide)
  have q3 := q 3 (by decide) (by decide)
  have e1 : (1 : Int32).toInt = 1 := rfl
  have e2 : (2 : Int32).toInt = 2 := rfl
  have e3 : (3 : Int32).toInt = 3 := rfl
  refine ⟨?_, ?_, ?_⟩ <;> rw [Int32.lt_iff_toInt_lt] <;> omega
set_option maxRecDepth 65536 in
set_option maxHeartbeats 40000000 in
theorem m1_init (V : Env1 Z a0 n0 uu0 uu1 uu2 uu3 uu4 uu5 uu6 uu7 uu8 uu9) (p0 : Addr) (p1 : Addr) (p2 : Addr) (p3 : Addr) (c0 : ClassId) (c1 : ClassId) (x0 : Int32) (x1 : Int32) (c2 : ClassId) (x2 : Int32) (x3 : Int32) (h0 : Heap) (hO : Old Z n0 h0) (f0 : Arv Z h0 p1 c0 .int (2 : Int32) [(.int (0 : Int32)), (.int (1 : Int32))] (.int 0)) (f1 : Arv Z h0 p2 c1 .int (2 : Int32) [(.int x0), (.int x1)] (.int 0)) (f2 : Arv Z h0 p3 c2 .int (2 : Int32) [(.int x2), (.int x3)] (.int 0)) (cc3 : ¬ x2 < x0) (cc4 : ¬ x3 < x1) (cc5 : ¬ x1 < x2) (f6 : Exa Z h0 p0 "com/example/passenger_flow_sim/passengerflowsim/timetable/Trip") (f7 : Fld Z h0 p0 "com/example/passenger_flow_sim/passengerflowsim/timetable/Trip" "id" "Ljava/lang/String;" .null) (g8 : n0 ≤ p0) (f9 : Fld Z h0 p0 "com/example/passenger_flow_sim/passengerflowsim/timetable/Trip" "routeId" "Ljava/lang/String;" .null) (f10 : Exa Z h0 p1 "[I") (q11 : p1 ≠ p0) (f12 : Fld Z h0 p0 "com/example/passenger_flow_sim/passengerflowsim/timetable/Trip" "stops" "[I" .null) (f13 : Exa Z h0 p2 "[I") (q14 : p2 ≠ p0) (f15 : Fld Z h0 p0 "com/example/passenger_flow_sim/passengerflowsim/timetable/Trip" "arrivals" "[I" .null) (f16 : Exa Z h0 p3 "[I") (q17 : p3 ≠ p0) (f18 : Fld Z h0 p0 "com/example/passenger_flow_sim/passengerflowsim/timetable/Trip" "departures" "[I" .null) :
    Met Z a0 [] False n0 l (⟨"com/example/passenger_flow_sim/passengerflowsim/timetable/Trip", "<init>", "(Ljava/lang/String;Ljava/lang/String;[I[I[I)V"⟩ : MethodName) prog_42_method_1_code 7 (Option.none : Option FieldType) ({ frames := 1, cells := 3, slots := 6, locals := 15 } : Room) #[(.ref p0), .null, .null, (.ref p1), (.ref p2), (.ref p3)] h0 [] (fun v h so => (∃ a15 a31 a47 : Addr, v = none ∧ so = [] ∧ Keep h0 h [p0] ∧ h0.size ≤ a15 ∧ a15 < a31 ∧ a31 < a47 ∧ (∀ (O n d : String) (w : Value), Fld Z h0 p0 O n d w → RoadKit.slotOf Z O n d ≠ RoadKit.slotOf Z "com/example/passenger_flow_sim/passengerflowsim/timetable/Trip" "id" "Ljava/lang/String;" → RoadKit.slotOf Z O n d ≠ RoadKit.slotOf Z "com/example/passenger_flow_sim/passengerflowsim/timetable/Trip" "routeId" "Ljava/lang/String;" → RoadKit.slotOf Z O n d ≠ RoadKit.slotOf Z "com/example/passenger_flow_sim/passengerflowsim/timetable/Trip" "stops" "[I" → RoadKit.slotOf Z O n d ≠ RoadKit.slotOf Z "com/example/passenger_flow_sim/passengerflowsim/timetable/Trip" "arrivals" "[I" → RoadKit.slotOf Z O n d ≠ RoadKit.slotOf Z "com/example/passenger_flow_sim/passengerflowsim/timetable/Trip" "departures" "[I" → Fld Z h p0 O n d w) ∧ Exa Z h p0 "com/example/passenger_flow_sim/passengerflowsim/timetable/Trip" ∧ Fld Z h p0 "com/example/passenger_flow_sim/passengerflowsim/timetable/Trip" "id" "Ljava/lang/String;" .null ∧ Fld Z h p0 "com/example/passenger_flow_sim/passengerflowsim/timetable/Trip" "routeId" "Ljava/lang/String;" .null ∧ Fld Z h p0 "com/example/passenger_flow_sim/passengerflowsim/timetable/Trip" "stops" "[I" (.ref a15) ∧ Fld Z h p0 "com/example/passenger_flow_sim/passengerflowsim/timetable/Trip" "arrivals" "[I" (.ref a31) ∧ Fld Z h p0 "com/example/passenger_flow_sim/passengerflowsim/timetable/Trip" "departures" "[I" (.ref a47) ∧ Arv Z h a15 c0 .int (2 : Int32) [(.int (0 : Int32)), (.int (1 : Int32))] (.int 0) ∧ Exa Z h a15 "[I" ∧ Arv Z h a31 c1 .int (2 : Int32) [(.int x0), (.int x1)] (.int 0) ∧ Exa Z h a31 "[I" ∧ Arv Z h a47 c2 .int (2 : Int32) [(.int x2), (.int x3)] (.int 0) ∧ Exa Z h a47 "[I")) := by
  refine Met.of (EWl V) (by first | decide +kernel | rfl) hO (L0 := #[.val (.ref p0), .val .null, .val .null, .val (.ref p1), .val (.ref p2), .val (.ref p3), .unset]) rfl ?_
  intro p e s m below meth c T H
  show Go p e below _ (T.setTop (mkF m 0 #[.val (.ref p0), .val .null, .val .null, .val (.ref p1), .val (.ref p2), .val (.ref p3), .unset] []))
  refine G.aloadN H D37_0 (pc' := 1) rfl rfl rfl ?_
  refine G.initO H (wd8 V) (wd9 V) (wd10 V) rfl D37_1 (pc' := 4) rfl (by decide) (W := 0) rfl (by decide) ?_
  intro T1 H2
  refine G.aloadN H2 D37_4 (pc' := 5) rfl rfl rfl ?_
  refine G.arrlen H2 f0 D37_5 (pc' := 6) rfl ?_
  refine G.ifNo H2 D37_6 (pc' := 9) rfl (by decide) ?_
  refine G.aload H2 D37_9 (pc' := 11) rfl rfl rfl ?_
  refine G.arrlen H2 f1 D37_11 (pc' := 12) rfl ?_
  refine G.aloadN H2 D37_12 (pc' := 13) rfl rfl rfl ?_
  refine G.arrlen H2 f0 D37_13 (pc' := 14) rfl ?_
  refine G.icmpNo H2 D37_14 (pc' := 17) rfl (by decide) ?_
  refine G.aload H2 D37_17 (pc' := 19) rfl rfl rfl ?_
  refine G.arrlen H2 f2 D37_19 (pc' := 20) rfl ?_
  refine G.aloadN H2 D37_20 (pc' := 21) rfl rfl rfl ?_
  refine G.arrlen H2 f0 D37_21 (pc' := 22) rfl ?_
  refine G.icmpYes H2 D37_22 (by decide) (by decide) (pc' := 35) rfl ?_
  refine G.iconst H2 D37_35 (pc' := 36) rfl (v := (0 : Int32)) rfl ?_
  refine G.istore H2 (L' := #[.val (.ref p0), .val .null, .val .null, .val (.ref p1), .val (.ref p2), .val (.ref p3), .val (.int (0 : Int32))]) D37_36 (pc' := 38) rfl rfl ?_
  refine G.iload H2 D37_38 (pc' := 40) rfl rfl ?_
  refine G.aloadN H2 D37_40 (pc' := 41) rfl rfl rfl ?_
  refine G.arrlen H2 f0 D37_41 (pc' := 42) rfl ?_
  refine G.icmpNo H2 D37_42 (pc' := 45) rfl (by decide) ?_
  refine G.aload H2 D37_45 (pc' := 47) rfl rfl rfl ?_
  refine G.iload H2 D37_47 (pc' := 49) rfl rfl ?_
  refine G.ialoadG H2 f2 (j := (0 : Int32)) (v := (.int x2)) (by decide) rfl D37_49 (pc' := 50) rfl ?_
  refine G.aload H2 D37_50 (pc' := 52) rfl rfl rfl ?_
  refine G.iload H2 D37_52 (pc' := 54) rfl rfl ?_
  refine G.ialoadG H2 f1 (j := (0 : Int32)) (v := (.int x0)) (by decide) rfl D37_54 (pc' := 55) rfl ?_
  refine G.icmpYes H2 D37_55 (XT.ii_ge_t cc3) (by decide) (pc' := 110) rfl ?_
  refine G.iload H2 D37_110 (pc' := 112) rfl rfl ?_
  refine G.ifYes H2 D37_112 (by decide) (by decide) (pc' := 192) rfl ?_
  refine G.iinc H2 (v := (1 : Int32)) (L' := #[.val (.ref p0), .val .null, .val .null, .val (.ref p1), .val (.ref p2), .val (.ref p3), .val (.int (1 : Int32))]) D37_192 (pc' := 195) rfl rfl rfl rfl ?_
  refine G.goto H2 D37_195 (by decide) (pc' := 38) rfl ?_
  show Go p e below _ (T1.setTop (mkF m 38 #[.val (.ref p0), .val .null, .val .null, .val (.ref p1), .val (.ref p2), .val (.ref p3), .val (.int (1 : Int32))] []))
  refine G.iload H2 D37_38 (pc' := 40) rfl rfl ?_
  refine G.aloadN H2 D37_40 (pc' := 41) rfl rfl rfl ?_
  refine G.arrlen H2 f0 D37_41 (pc' := 42) rfl ?_
  refine G.icmpNo H2 D37_42 (pc' := 45) rfl (by decide) ?_
  refine G.aload H2 D37_45 (pc' := 47) rfl rfl rfl ?_
  refine G.iload H2 D37_47 (pc' := 49) rfl rfl ?_
  refine G.ialoadG H2 f2 (j := (1 : Int32)) (v := (.int x3)) (by decide) rfl D37_49 (pc' := 50) rfl ?_
  refine G.aload H2 D37_50 (pc' := 52) rfl rfl rfl ?_
  refine G.iload H2 D37_52 (pc' := 54) rfl rfl ?_
  refine G.ialoadG H2 f1 (j := (1 : Int32)) (v := (.int x1)) (by decide) rfl D37_54 (pc' := 55) rfl ?_
  refine G.icmpYes H2 D37_55 (XT.ii_ge_t cc4) (by decide) (pc' := 110) rfl ?_
  refine G.iload H2 D37_110 (pc' := 112) rfl rfl ?_
  refine G.ifNo H2 D37_112 (pc' := 115) rfl (by decide) ?_
  refine G.aload H2 D37_115 (pc' := 117) rfl rfl rfl ?_
  refine G.iload H2 D37_117 (pc' := 119) rfl rfl ?_
  refine G.ialoadG H2 f1 (j := (1 : Int32)) (v := (.int x1)) (by decide) rfl D37_119 (pc' := 120) rfl ?_
  refine G.aload H2 D37_120 (pc' := 122) rfl rfl rfl ?_
  refine G.iload H2 D37_122 (pc' := 124) rfl rfl ?_
  refine G.iconst H2 D37_124 (pc' := 125) rfl (v := (1 : Int32)) rfl ?_
  refine G.isub H2 D37_125 (pc' := 126) rfl ?_
  show Go p e below _ (T1.setTop (mkF m 126 #[.val (.ref p0), .val .null, .val .null, .val (.ref p1), .val (.ref p2), .val (.ref p3), .val (.int (1 : Int32))] [(.int (0 : Int32)), (.ref p3), (.int x1)]))
  refine G.ialoadG H2 f2 (j := (0 : Int32)) (v := (.int x2)) (by decide) rfl D37_126 (pc' := 127) rfl ?_
  refine G.icmpYes H2 D37_127 (XT.ii_ge_t cc5) (by decide) (pc' := 192) rfl ?_
  refine G.iinc H2 (v := (2 : Int32)) (L' := #[.val (.ref p0), .val .null, .val .null, .val (.ref p1), .val (.ref p2), .val (.ref p3), .val (.int (2 : Int32))]) D37_192 (pc' := 195) rfl rfl rfl rfl ?_
  refine G.goto H2 D37_195 (by decide) (pc' := 38) rfl ?_
  show Go p e below _ (T1.setTop (mkF m 38 #[.val (.ref p0), .val .null, .val .null, .val (.ref p1), .val (.ref p2), .val (.ref p3), .val (.int (2 : Int32))] []))
  refine G.iload H2 D37_38 (pc' := 40) rfl rfl ?_
  refine G.aloadN H2 D37_40 (pc' := 41) rfl rfl rfl ?_
  refine G.arrlen H2 f0 D37_41 (pc' := 42) rfl ?_
  refine G.icmpYes H2 D37_42 (by decide) (by decide) (pc' := 198) rfl ?_
  refine G.aloadN H2 D37_198 (pc' := 199) rfl rfl rfl ?_
  refine G.aloadN H2 D37_199 (pc' := 200) rfl rfl rfl ?_
  refine G.putF H2 (wd11 V) Via.refl f7 f6 (Or.inr ⟨(wd12 V), rfl, rfl⟩) (wd2 V) (ty := (.object "java/lang/String")) (by decide) rfl rfl g8 (Sf.exa f6) D37_200 (pc' := 203) rfl ?_
  intro T3 h3_ H3 W4
  have F5 : Fld Z h3_ p0 "com/example/passenger_flow_sim/passengerflowsim/timetable/Trip" "id" "Ljava/lang/String;" .null := Fld.same W4 f7
  refine G.aloadN H3 D37_203 (pc' := 204) rfl rfl rfl ?_
  refine G.aloadN H3 D37_204 (pc' := 205) rfl rfl rfl ?_
  have F6 := (Exa.wr W4 f6)
  have F7 := (Fld.other W4 f9 (Or.inr (slot_ne (Or.inr (wd14 V)) (Or.inr (wd12 V)) (by decide) (t := (.object "java/lang/String")) (t' := (.object "java/lang/String")) (by decide) (by decide))))
  refine G.putF H3 (wd13 V) Via.refl F7 F6 (Or.inr ⟨(wd14 V), rfl, rfl⟩) (wd2 V) (ty := (.object "java/lang/String")) (by decide) rfl rfl g8 (Sf.exa F6) D37_205 (pc' := 208) rfl ?_
  intro T8 h8_ H8 W9
  have F10 : Fld Z h8_ p0 "com/example/passenger_flow_sim/passengerflowsim/timetable/Trip" "routeId" "Ljava/lang/String;" .null := Fld.same W9 F7
  refine G.aloadN H8 D37_208 (pc' := 209) rfl rfl rfl ?_
  refine G.aloadN H8 D37_209 (pc' := 210) rfl rfl rfl ?_
  have K11 : Keep h0 h8_ [p0] := (Keep.wr (Keep.wr (Keep.refl h0 [p0]) W4 (Or.inl (List.mem_of_getElem? (i := 0) rfl))) W9 (Or.inl (List.mem_of_getElem? (i := 0) rfl)))
  have F12 := (Exa.keep f10 K11)
  have F13 := (Arv.keep f0 K11 (ninS q11 nin0))
  refine G.clone H8 (wd15 V) (wd16 V) (wd20 V) (wd18 V) (wd19 V) (wd21 V) F13 F12 (st := [(.ref p0)]) (W := 1) (cap := 2) rfl rfl D37_210 (pc' := 213) rfl (by decide) (by decide) (by decide) (by decide) (by decide) ?_
  intro T14 h14_ a15 ga15 H14 E16 A17 X18
  have na15 := H8.nle ga15
  refine G.castY H14 (wd22 V) (Ins.self X18) D37_213 (pc' := 216) rfl ?_
  intro T19 H20
  have K21 : Keep h3_ h14_ [p0] := (Keep.ext (Keep.wr (Keep.refl h3_ [p0]) W9 (Or.inl (List.mem_of_getElem? (i := 0) rfl))) E16)
  have F22 := (Exa.keep F6 K21)
  have F23 := (Fld.ext E16 (Fld.other W9 (Fld.other W4 f12 (Or.inr (slot_ne (Or.inr (wd25 V)) (Or.inr (wd12 V)) (by decide) (t := (.array .int)) (t' := (.object "java/lang/String")) (by decide) (by decide)))) (Or.inr (slot_ne (Or.inr (wd25 V)) (Or.inr (wd14 V)) (by decide) (t := (.array .int)) (t' := (.object "java/lang/String")) (by decide) (by decide)))))
  refine G.putF H20 (wd24 V) Via.refl F23 F22 (Or.inr ⟨(wd25 V), rfl, rfl⟩) (wd2 V) (ty := (.array .int)) (by decide) rfl rfl g8 (Sf.exa F22) D37_216 (pc' := 219) rfl ?_
  intro T24 h24_ H24 W25
  have F26 : Fld Z h24_ p0 "com/example/passenger_flow_sim/passengerflowsim/timetable/Trip" "stops" "[I" (.ref a15) := Fld.same W25 F23
  refine G.aloadN H24 D37_219 (pc' := 220) rfl rfl rfl ?_
  refine G.aload H24 D37_220 (pc' := 222) rfl rfl rfl ?_
  have K27 : Keep h0 h24_ [p0] := (Keep.wr (Keep.ext (Keep.wr (Keep.wr (Keep.refl h0 [p0]) W4 (Or.inl (List.mem_of_getElem? (i := 0) rfl))) W9 (Or.inl (List.mem_of_getElem? (i := 0) rfl))) E16) W25 (Or.inl (List.mem_of_getElem? (i := 0) rfl)))
  have F28 := (Exa.keep f13 K27)
  have F29 := (Arv.keep f1 K27 (ninS q14 nin0))
  refine G.clone H24 (wd15 V) (wd16 V) (wd20 V) (wd18 V) (wd19 V) (wd21 V) F29 F28 (st := [(.ref p0)]) (W := 1) (cap := 2) rfl rfl D37_222 (pc' := 225) rfl (by decide) (by decide) (by decide) (by decide) (by decide) ?_
  intro T30 h30_ a31 ga31 H30 E32 A33 X34
  have na31 := H24.nle ga31
  refine G.castY H30 (wd22 V) (Ins.self X34) D37_225 (pc' := 228) rfl ?_
  intro T35 H36
  have K37 : Keep h14_ h30_ [p0] := (Keep.ext (Keep.wr (Keep.refl h14_ [p0]) W25 (Or.inl (List.mem_of_getElem? (i := 0) rfl))) E32)
  have F38 := (Exa.keep F22 K37)
  have F39 := (Fld.ext E32 (Fld.other W25 (Fld.ext E16 (Fld.other W9 (Fld.other W4 f15 (Or.inr (slot_ne (Or.inr (wd27 V)) (Or.inr (wd12 V)) (by decide) (t := (.array .int)) (t' := (.object "java/lang/String")) (by decide) (by decide)))) (Or.inr (slot_ne (Or.inr (wd27 V)) (Or.inr (wd14 V)) (by decide) (t := (.array .int)) (t' := (.object "java/lang/String")) (by decide) (by decide))))) (Or.inr (slot_ne (Or.inr (wd27 V)) (Or.inr (wd25 V)) (by decide) (t := (.array .int)) (t' := (.array .int)) (by decide) (by decide)))))
  refine G.putF H36 (wd26 V) Via.refl F39 F38 (Or.inr ⟨(wd27 V), rfl, rfl⟩) (wd2 V) (ty := (.array .int)) (by decide) rfl rfl g8 (Sf.exa F38) D37_228 (pc' := 231) rfl ?_
  intro T40 h40_ H40 W41
  have F42 : Fld Z h40_ p0 "com/example/passenger_flow_sim/passengerflowsim/timetable/Trip" "arrivals" "[I" (.ref a31) := Fld.same W41 F39
  refine G.aloadN H40 D37_231 (pc' := 232) rfl rfl rfl ?_
  refine G.aload H40 D37_232 (pc' := 234) rfl rfl rfl ?_
  have K43 : Keep h0 h40_ [p0] := (Keep.wr (Keep.ext (Keep.wr (Keep.ext (Keep.wr (Keep.wr (Keep.refl h0 [p0]) W4 (Or.inl (List.mem_of_getElem? (i := 0) rfl))) W9 (Or.inl (List.mem_of_getElem? (i := 0) rfl))) E16) W25 (Or.inl (List.mem_of_getElem? (i := 0) rfl))) E32) W41 (Or.inl (List.mem_of_getElem? (i := 0) rfl)))
  have F44 := (Exa.keep f16 K43)
  have F45 := (Arv.keep f2 K43 (ninS q17 nin0))
  refine G.clone H40 (wd15 V) (wd16 V) (wd20 V) (wd18 V) (wd19 V) (wd21 V) F45 F44 (st := [(.ref p0)]) (W := 1) (cap := 2) rfl rfl D37_234 (pc' := 237) rfl (by decide) (by decide) (by decide) (by decide) (by decide) ?_
  intro T46 h46_ a47 ga47 H46 E48 A49 X50
  have na47 := H40.nle ga47
  refine G.castY H46 (wd22 V) (Ins.self X50) D37_237 (pc' := 240) rfl ?_
  intro T51 H52
  have K53 : Keep h30_ h46_ [p0] := (Keep.ext (Keep.wr (Keep.refl h30_ [p0]) W41 (Or.inl (List.mem_of_getElem? (i := 0) rfl))) E48)
  have F54 := (Exa.keep F38 K53)
  have F55 := (Fld.ext E48 (Fld.other W41 (Fld.ext E32 (Fld.other W25 (Fld.ext E16 (Fld.other W9 (Fld.other W4 f18 (Or.inr (slot_ne (Or.inr (wd29 V)) (Or.inr (wd12 V)) (by decide) (t := (.array .int)) (t' := (.object "java/lang/String")) (by decide) (by decide)))) (Or.inr (slot_ne (Or.inr (wd29 V)) (Or.inr (wd14 V)) (by decide) (t := (.array .int)) (t' := (.object "java/lang/String")) (by decide) (by decide))))) (Or.inr (slot_ne (Or.inr (wd29 V)) (Or.inr (wd25 V)) (by decide) (t := (.array .int)) (t' := (.array .int)) (by decide) (by decide))))) (Or.inr (slot_ne (Or.inr (wd29 V)) (Or.inr (wd27 V)) (by decide) (t := (.array .int)) (t' := (.array .int)) (by decide) (by decide)))))
  refine G.putF H52 (wd28 V) Via.refl F55 F54 (Or.inr ⟨(wd29 V), rfl, rfl⟩) (wd2 V) (ty := (.array .int)) (by decide) rfl rfl g8 (Sf.exa F54) D37_240 (pc' := 243) rfl ?_
  intro T56 h56_ H56 W57
  have F58 : Fld Z h56_ p0 "com/example/passenger_flow_sim/passengerflowsim/timetable/Trip" "departures" "[I" (.ref a47) := Fld.same W57 F55
  have F59 := (Exa.wr W57 F54)
  have F60 := (Fld.other W57 (Fld.ext E48 (Fld.other W41 (Fld.ext E32 (Fld.other W25 (Fld.ext E16 (Fld.other W9 F5 (Or.inr (slot_ne (Or.inr (wd12 V)) (Or.inr (wd14 V)) (by decide) (t := (.object "java/lang/String")) (t' := (.object "java/lang/String")) (by decide) (by decide))))) (Or.inr (slot_ne (Or.inr (wd12 V)) (Or.inr (wd25 V)) (by decide) (t := (.object "java/lang/String")) (t' := (.array .int)) (by decide) (by decide))))) (Or.inr (slot_ne (Or.inr (wd12 V)) (Or.inr (wd27 V)) (by decide) (t := (.object "java/lang/String")) (t' := (.array .int)) (by decide) (by decide))))) (Or.inr (slot_ne (Or.inr (wd12 V)) (Or.inr (wd29 V)) (by decide) (t := (.object "java/lang/String")) (t' := (.array .int)) (by decide) (by decide))))
  have F61 := (Fld.other W57 (Fld.ext E48 (Fld.other W41 (Fld.ext E32 (Fld.other W25 (Fld.ext E16 F10) (Or.inr (slot_ne (Or.inr (wd14 V)) (Or.inr (wd25 V)) (by decide) (t := (.object "java/lang/String")) (t' := (.array .int)) (by decide) (by decide))))) (Or.inr (slot_ne (Or.inr (wd14 V)) (Or.inr (wd27 V)) (by decide) (t := (.object "java/lang/String")) (t' := (.array .int)) (by decide) (by decide))))) (Or.inr (slot_ne (Or.inr (wd14 V)) (Or.inr (wd29 V)) (by decide) (t := (.object "java/lang/String")) (t' := (.array .int)) (by decide) (by decide))))
  have F62 := (Fld.other W57 (Fld.ext E48 (Fld.other W41 (Fld.ext E32 F26) (Or.inr (slot_ne (Or.inr (wd25 V)) (Or.inr (wd27 V)) (by decide) (t := (.array .int)) (t' := (.array .int)) (by decide) (by decide))))) (Or.inr (slot_ne (Or.inr (wd25 V)) (Or.inr (wd29 V)) (by decide) (t := (.array .int)) (t' := (.array .int)) (by decide) (by decide))))
  have F63 := (Fld.other W57 (Fld.ext E48 F42) (Or.inr (slot_ne (Or.inr (wd27 V)) (Or.inr (wd29 V)) (by decide) (t := (.array .int)) (t' := (.array .int)) (by decide) (by decide))))
  have K64 : Keep h14_ h56_ [p0] := (Keep.wr (Keep.ext (Keep.wr (Keep.ext (Keep.wr (Keep.refl h14_ [p0]) W25 (Or.inl (List.mem_of_getElem? (i := 0) rfl))) E32) W41 (Or.inl (List.mem_of_getElem? (i := 0) rfl))) E48) W57 (Or.inl (List.mem_of_getElem? (i := 0) rfl)))
  have N65 : a15 ≠ p0 := (Ne.symm (Nat.ne_of_lt (Nat.lt_of_lt_of_le (Nat.lt_of_lt_of_le f6.lt K11.1) (Nat.le_of_eq ga15.symm))))
  have F66 := (Arv.keep A17 K64 (ninS N65 nin0))
  have F67 := (Exa.keep X18 K64)
  have K68 : Keep h30_ h56_ [p0] := (Keep.wr (Keep.ext (Keep.wr (Keep.refl h30_ [p0]) W41 (Or.inl (List.mem_of_getElem? (i := 0) rfl))) E48) W57 (Or.inl (List.mem_of_getElem? (i := 0) rfl)))
  have N69 : a31 ≠ p0 := (Ne.symm (Nat.ne_of_lt (Nat.lt_of_lt_of_le (Nat.lt_of_lt_of_le f6.lt K27.1) (Nat.le_of_eq ga31.symm))))
  have F70 := (Arv.keep A33 K68 (ninS N69 nin0))
  have F71 := (Exa.keep X34 K68)
  have N72 : a47 ≠ p0 := (Ne.symm (Nat.ne_of_lt (Nat.lt_of_lt_of_le (Nat.lt_of_lt_of_le f6.lt K43.1) (Nat.le_of_eq ga47.symm))))
  have F73 := (Arv.other A49 W57 N72)
  have F74 := (Exa.wr W57 X50)
  have K75 : Keep h0 h56_ [p0] := (Keep.wr (Keep.ext (Keep.wr (Keep.ext (Keep.wr (Keep.ext (Keep.wr (Keep.wr (Keep.refl h0 [p0]) W4 (Or.inl (List.mem_of_getElem? (i := 0) rfl))) W9 (Or.inl (List.mem_of_getElem? (i := 0) rfl))) E16) W25 (Or.inl (List.mem_of_getElem? (i := 0) rfl))) E32) W41 (Or.inl (List.mem_of_getElem? (i := 0) rfl))) E48) W57 (Or.inl (List.mem_of_getElem? (i := 0) rfl)))
  have K76 : Keep h14_ h24_ [p0] := (Keep.wr (Keep.refl h14_ [p0]) W25 (Or.inl (List.mem_of_getElem? (i := 0) rfl)))
  have K77 : Keep h30_ h40_ [p0] := (Keep.wr (Keep.refl h30_ [p0]) W41 (Or.inl (List.mem_of_getElem? (i := 0) rfl)))
  exact G.retV H56 rfl D37_243 (so := []) all0 (by decide) (by decide) ⟨a15, a31, a47, rfl, rfl, K75, (Nat.le_trans K11.1 (Nat.le_of_eq ga15.symm)), (Nat.lt_of_lt_of_le (Nat.lt_of_lt_of_le A17.lt K76.1) (Nat.le_of_eq ga31.symm)), (Nat.lt_of_lt_of_le (Nat.lt_of_lt_of_le A33.lt K77.1) (Nat.le_of_eq ga47.symm)), (fun O n d w F hn0 hn1 hn2 hn3 hn4 => (Fld.other W57 (Fld.ext E48 (Fld.other W41 (Fld.ext E32 (Fld.other W25 (Fld.ext E16 (Fld.other W9 (Fld.other W4 F (Or.inr hn0)) (Or.inr hn1))) (Or.inr hn2))) (Or.inr hn3))) (Or.inr hn4))), F59, F60, F61, F62, F63, F58, F66, F67, F70, F71, F73, F74⟩
set_option maxRecDepth 65536 in
set_option maxHeartbeats 40000000 in
theorem m2_length (V : Env1 Z a0 n0 uu0 uu1 uu2 uu3 uu4 uu5 uu6 uu7 uu8 uu9) (p0 : Addr) (p1 : Addr) (c0 : ClassId) (h0 : Heap) (hO : Old Z n0 h0) (f0 : Fld Z h0 p0 "com/example/passenger_flow_sim/passengerflowsim/timetable/Trip" "stops" "[I" (.ref p1)) (f1 : Arv Z h0 p1 c0 .int (2 : Int32) [(.int (0 : Int32)), (.int (1 : Int32))] (.int 0)) :
    Met Z a0 [] False n0 l (⟨"com/example/passenger_flow_sim/passengerflowsim/timetable/Trip", "length", "()I"⟩ : MethodName) prog_42_method_4_code 1 (Option.some FieldType.int) ({ frames := 0, cells := 0, slots := 0, locals := 0 } : Room) #[(.ref p0)] h0 [] (fun v h so => (v = some (.int (2 : Int32)) ∧ so = [] ∧ h0 = h)) := by
  refine Met.of (EWl V) (by first | decide +kernel | rfl) hO (L0 := #[.val (.ref p0)]) rfl ?_
  intro p e s m below meth c T H
  show Go p e below _ (T.setTop (mkF m 0 #[.val (.ref p0)] []))
  refine G.aloadN H D38_0 (pc' := 1) rfl rfl rfl ?_
  refine G.getF H (wd24 V) Via.refl f0 D38_1 (pc' := 4) rfl ?_
  intro T1 H2
  refine G.arrlen H2 f1 D38_4 (pc' := 5) rfl ?_
  exact G.retI H2 rfl D38_5 (so := []) all0 (by decide) (by decide) ⟨rfl, rfl, rfl⟩
set_option maxRecDepth 65536 in
set_option maxHeartbeats 40000000 in
theorem m3_init (V : Env1 Z a0 n0 uu0 uu1 uu2 uu3 uu4 uu5 uu6 uu7 uu8 uu9) (p0 : Addr) (h0 : Heap) (hO : Old Z n0 h0)  :
    Met Z a0 [] False n0 l (⟨"java/util/AbstractCollection", "<init>", "()V"⟩ : MethodName) jdk_22_method_1_code 1 (Option.none : Option FieldType) ({ frames := 1, cells := 0, slots := 0, locals := 12 } : Room) #[(.ref p0)] h0 [] (fun v h so => (v = none ∧ so = [] ∧ h0 = h)) := by
  refine Met.of (EWl V) (by first | decide +kernel | rfl) hO (L0 := #[.val (.ref p0)]) rfl ?_
  intro p e s m below meth c T H
  show Go p e below _ (T.setTop (mkF m 0 #[.val (.ref p0)] []))
  refine G.aloadN H D0_0 (pc' := 1) rfl rfl rfl ?_
  refine G.initO H (wd74 V) (wd9 V) (wd10 V) rfl D0_1 (pc' := 4) rfl (by decide) (W := 0) rfl (by decide) ?_
  intro T1 H2
  exact G.retV H2 rfl D0_4 (so := []) all0 (by decide) (by decide) ⟨rfl, rfl, rfl⟩
set_option maxRecDepth 65536 in
set_option maxHeartbeats 40000000 in
theorem m4_init (V : Env1 Z a0 n0 uu0 uu1 uu2 uu3 uu4 uu5 uu6 uu7 uu8 uu9) (p0 : Addr) (h0 : Heap) (hO : Old Z n0 h0) (f0 : Exa Z h0 p0 "java/util/Collections$CopiesList") (f1 : Fld Z h0 p0 "java/util/AbstractList" "modCount" "I" (.int (0 : Int32))) (g2 : n0 ≤ p0) :
    Met Z a0 [] False n0 l (⟨"java/util/AbstractList", "<init>", "()V"⟩ : MethodName) jdk_39_method_1_code 1 (Option.none : Option FieldType) ({ frames := 2, cells := 0, slots := 0, locals := 24 } : Room) #[(.ref p0)] h0 [] (fun v h so => (v = none ∧ so = [] ∧ Keep h0 h [p0] ∧ (∀ (O n d : String) (w : Value), Fld Z h0 p0 O n d w → RoadKit.slotOf Z O n d ≠ RoadKit.slotOf Z "java/util/AbstractList" "modCount" "I" → Fld Z h p0 O n d w) ∧ Exa Z h p0 "java/util/Collections$CopiesList" ∧ Fld Z h p0 "java/util/AbstractList" "modCount" "I" (.int (0 : Int32)))) := by
  refine Met.of (EWl V) (by first | decide +kernel | rfl) hO (L0 := #[.val (.ref p0)]) rfl ?_
  intro p e s m below meth c T H
  show Go p e below _ (T.setTop (mkF m 0 #[.val (.ref p0)] []))
  refine G.aloadN H D15_0 (pc' := 1) rfl rfl rfl ?_
  refine G.callI H (m3_init V p0 h0 H.old) rfl (wd68 V) (wd69 V) (wd72 V) (wd73 V) (by decide) (a := p0) (argsL := []) (rest := []) (W := 0) rfl rfl (lenOf (pd_2) rfl) rfl rfl D15_1 (pc' := 4) rfl (by decide) (by decide) (by decide) (by decide) all0 ?_
  intro T1 h1_ v2 s3 H1 Q4
  obtain ⟨rfl, rfl, rfl⟩ := Q4
  show Go p e below _ (T1.setTop (mkF m 4 #[.val (.ref p0)] []))
  refine G.aloadN H1 D15_4 (pc' := 5) rfl rfl rfl ?_
  refine G.iconst H1 D15_5 (pc' := 6) rfl (v := (0 : Int32)) rfl ?_
  refine G.putF H1 (wd75 V) Via.refl f1 f0 (Or.inl (wd76 V)) (wd56 V) (ty := .int) (by decide) rfl rfl g2 (Sf.exa f0) D15_6 (pc' := 9) rfl ?_
  intro T5 h5_ H5 W6
  have F7 : Fld Z h5_ p0 "java/util/AbstractList" "modCount" "I" (.int (0 : Int32)) := Fld.same W6 f1
  have F8 := (Exa.wr W6 f0)
  have K9 : Keep h0 h5_ [p0] := (Keep.wr (Keep.refl h0 [p0]) W6 (Or.inl (List.mem_of_getElem? (i := 0) rfl)))
  exact G.retV H5 rfl D15_9 (so := []) all0 (by decide) (by decide) ⟨rfl, rfl, K9, (fun O n d w F hn0 => (Fld.other W6 F (Or.inr hn0))), F8, F7⟩
set_option maxRecDepth 65536 in
set_option maxHeartbeats 40000000 in
theorem m5_init (V : Env1 Z a0 n0 uu0 uu1 uu2 uu3 uu4 uu5 uu6 uu7 uu8 uu9) (p0 : Addr) (h0 : Heap) (hO : Old Z n0 h0) (f0 : Exa Z h0 p0 "java/util/Collections$CopiesList") (f1 : Fld Z h0 p0 "java/util/AbstractList" "modCount" "I" (.int (0 : Int32))) (g2 : n0 ≤ p0) (f3 : Fld Z h0 p0 "java/util/Collections$CopiesList" "n" "I" (.int (0 : Int32))) (f4 : Fld Z h0 p0 "java/util/Collections$CopiesList" "element" "Ljava/lang/Object;" .null) :
    Met Z a0 [] False n0 l (⟨"java/util/Collections$CopiesList", "<init>", "(ILjava/lang/Object;)V"⟩ : MethodName) jdk_2479_method_1_code 3 (Option.none : Option FieldType) ({ frames := 3, cells := 0, slots := 0, locals := 36 } : Room) #[(.ref p0), (.int (2 : Int32)), .null] h0 [] (fun v h so => (v = none ∧ so = [] ∧ Keep h0 h [p0] ∧ (∀ (O n d : String) (w : Value), Fld Z h0 p0 O n d w → RoadKit.slotOf Z O n d ≠ RoadKit.slotOf Z "java/util/AbstractList" "modCount" "I" → RoadKit.slotOf Z O n d ≠ RoadKit.slotOf Z "java/util/Collections$CopiesList" "n" "I" → RoadKit.slotOf Z O n d ≠ RoadKit.slotOf Z "java/util/Collections$CopiesList" "element" "Ljava/lang/Object;" → Fld Z h p0 O n d w) ∧ Exa Z h p0 "java/util/Collections$CopiesList" ∧ Fld Z h p0 "java/util/AbstractList" "modCount" "I" (.int (0 : Int32)) ∧ Fld Z h p0 "java/util/Collections$CopiesList" "n" "I" (.int (2 : Int32)) ∧ Fld Z h p0 "java/util/Collections$CopiesList" "element" "Ljava/lang/Object;" .null)) := by
  refine Met.of (EWl V) (by first | decide +kernel | rfl) hO (L0 := #[.val (.ref p0), .val (.int (2 : Int32)), .val .null]) rfl ?_
  intro p e s m below meth c T H
  show Go p e below _ (T.setTop (mkF m 0 #[.val (.ref p0), .val (.int (2 : Int32)), .val .null] []))
  refine G.aloadN H D1_0 (pc' := 1) rfl rfl rfl ?_
  refine G.callI H (m4_init V p0 h0 H.old f0 f1 g2) rfl (wd62 V) (wd63 V) (wd66 V) (wd67 V) (by decide) (a := p0) (argsL := []) (rest := []) (W := 0) rfl rfl (lenOf (pd_2) rfl) rfl rfl D1_1 (pc' := 4) rfl (by decide) (by decide) (by decide) (by decide) all0 ?_
  intro T1 h1_ v2 s3 H1 Q4
  obtain ⟨rfl, rfl, K5, U6, F7, F8⟩ := Q4
  show Go p e below _ (T1.setTop (mkF m 4 #[.val (.ref p0), .val (.int (2 : Int32)), .val .null] []))
  refine G.getS H1 (wd77 V) Via.refl (Sta.ext H1.old.2 (hv11 V)) D1_4 (pc' := 7) rfl ?_
  intro T9 H10
  refine G.ifYes H10 D1_7 (by decide) (by decide) (pc' := 22) rfl ?_
  refine G.aloadN H10 D1_22 (pc' := 23) rfl rfl rfl ?_
  refine G.iloadN H10 D1_23 (pc' := 24) rfl rfl ?_
  have F11 := (U6 "java/util/Collections$CopiesList" "n" "I" (.int (0 : Int32)) f3 (slot_ne (Or.inr (wd79 V)) (Or.inl (wd76 V)) (by decide) (t := .int) (t' := .int) (by decide) (by decide)))
  refine G.putF H10 (wd78 V) Via.refl F11 F7 (Or.inr ⟨(wd79 V), rfl, rfl⟩) (wd56 V) (ty := .int) (by decide) rfl rfl g2 (Sf.exa F7) D1_24 (pc' := 27) rfl ?_
  intro T12 h12_ H12 W13
  have F14 : Fld Z h12_ p0 "java/util/Collections$CopiesList" "n" "I" (.int (2 : Int32)) := Fld.same W13 F11
  refine G.aloadN H12 D1_27 (pc' := 28) rfl rfl rfl ?_
  refine G.aloadN H12 D1_28 (pc' := 29) rfl rfl rfl ?_
  have F15 := (Exa.wr W13 F7)
  have F16 := (Fld.other W13 (U6 "java/util/Collections$CopiesList" "element" "Ljava/lang/Object;" .null f4 (slot_ne (Or.inr (wd81 V)) (Or.inl (wd76 V)) (by decide) (t := (.object "java/lang/Object")) (t' := .int) (by decide) (by decide))) (Or.inr (slot_ne (Or.inr (wd81 V)) (Or.inr (wd79 V)) (by decide) (t := (.object "java/lang/Object")) (t' := .int) (by decide) (by decide))))
  refine G.putF H12 (wd80 V) Via.refl F16 F15 (Or.inr ⟨(wd81 V), rfl, rfl⟩) (wd56 V) (ty := (.object "java/lang/Object")) (by decide) rfl rfl g2 (Sf.exa F15) D1_29 (pc' := 32) rfl ?_
  intro T17 h17_ H17 W18
  have F19 : Fld Z h17_ p0 "java/util/Collections$CopiesList" "element" "Ljava/lang/Object;" .null := Fld.same W18 F16
  have F20 := (Exa.wr W18 F15)
  have F21 := (Fld.other W18 (Fld.other W13 F8 (Or.inr (slot_ne (Or.inl (wd76 V)) (Or.inr (wd79 V)) (by decide) (t := .int) (t' := .int) (by decide) (by decide)))) (Or.inr (slot_ne (Or.inl (wd76 V)) (Or.inr (wd81 V)) (by decide) (t := .int) (t' := (.object "java/lang/Object")) (by decide) (by decide))))
  have F22 := (Fld.other W18 F14 (Or.inr (slot_ne (Or.inr (wd79 V)) (Or.inr (wd81 V)) (by decide) (t := .int) (t' := (.object "java/lang/Object")) (by decide) (by decide))))
  have K23 : Keep h0 h17_ [p0] := (Keep.wr (Keep.wr (Keep.trans (Keep.refl h0 [p0]) K5 (allS (Or.inl (List.mem_of_getElem? (i := 0) rfl)) all0)) W13 (Or.inl (List.mem_of_getElem? (i := 0) rfl))) W18 (Or.inl (List.mem_of_getElem? (i := 0) rfl)))
  exact G.retV H17 rfl D1_32 (so := []) all0 (by decide) (by decide) ⟨rfl, rfl, K23, (fun O n d w F hn0 hn1 hn2 => (Fld.other W18 (Fld.other W13 (U6 O n d w F hn0) (Or.inr hn1)) (Or.inr hn2))), F20, F21, F22, F19⟩
set_option maxRecDepth 65536 in
set_option maxHeartbeats 40000000 in
theorem m6_nCopies (V : Env1 Z a0 n0 uu0 uu1 uu2 uu3 uu4 uu5 uu6 uu7 uu8 uu9)  (h0 : Heap) (hO : Old Z n0 h0)  :
    Met Z a0 [] False n0 l (⟨"java/util/Collections", "nCopies", "(ILjava/lang/Object;)Ljava/util/List;"⟩ : MethodName) jdk_79_method_76_code 2 (Option.some (FieldType.object "java/util/List")) ({ frames := 4, cells := 1, slots := 3, locals := 51 } : Room) #[(.int (2 : Int32)), .null] h0 [] (fun v h so => (∃ a2 : Addr, v = some (.ref a2) ∧ so = [] ∧ Keep h0 h [] ∧ h0.size ≤ a2 ∧ Exa Z h a2 "java/util/Collections$CopiesList" ∧ Fld Z h a2 "java/util/AbstractList" "modCount" "I" (.int (0 : Int32)) ∧ Fld Z h a2 "java/util/Collections$CopiesList" "n" "I" (.int (2 : Int32)) ∧ Fld Z h a2 "java/util/Collections$CopiesList" "element" "Ljava/lang/Object;" .null)) := by
  refine Met.of (EWl V) (by first | decide +kernel | rfl) hO (L0 := #[.val (.int (2 : Int32)), .val .null]) rfl ?_
  intro p e s m below meth c T H
  show Go p e below _ (T.setTop (mkF m 0 #[.val (.int (2 : Int32)), .val .null] []))
  refine G.iloadN H D20_0 (pc' := 1) rfl rfl ?_
  refine G.ifYes H D20_1 (by decide) (by decide) (pc' := 32) rfl ?_
  refine G.new H (wd55 V) (wd56 V) (wd57 V) D20_32 (pc' := 35) rfl (by decide) (by decide) ?_
  intro T1 h1_ a2 ga2 H1 E3 A4 D5
  have na2 := H.nle ga2
  refine G.dup H1 D20_35 (pc' := 36) rfl rfl ?_
  refine G.iloadN H1 D20_36 (pc' := 37) rfl rfl ?_
  refine G.aloadN H1 D20_37 (pc' := 38) rfl rfl rfl ?_
  have F6 : Fld Z h1_ a2 "java/util/AbstractList" "modCount" "I" (.int (0 : Int32)) := D5 (Or.inl (wd76 V)) (ty := .int) (by decide)
  have F7 : Fld Z h1_ a2 "java/util/Collections$CopiesList" "n" "I" (.int (0 : Int32)) := D5 (Or.inr (wd79 V)) (ty := .int) (by decide)
  have F8 : Fld Z h1_ a2 "java/util/Collections$CopiesList" "element" "Ljava/lang/Object;" .null := D5 (Or.inr (wd81 V)) (ty := (.object "java/lang/Object")) (by decide)
  refine G.callI H1 (m5_init V a2 h1_ H1.old A4 F6 na2 F7 F8) rfl (wd58 V) (wd59 V) (wd57 V) (wd61 V) (by decide) (a := a2) (argsL := [(.int (2 : Int32)), .null]) (rest := [(.ref a2)]) (W := 1) rfl rfl (lenOf (pd_3) rfl) rfl rfl D20_38 (pc' := 41) rfl (by decide) (by decide) (by decide) (by decide) all0 ?_
  intro T9 h9_ v10 s11 H9 Q12
  obtain ⟨rfl, rfl, K13, U14, F15, F16, F17, F18⟩ := Q12
  show Go p e below _ (T9.setTop (mkF m 41 #[.val (.int (2 : Int32)), .val .null] [(.ref a2)]))
  have K19 : Keep h0 h9_ [] := (Keep.trans (Keep.ext (Keep.refl h0 []) E3) K13 (allS (Or.inr (Nat.le_of_eq ga2.symm)) all0))
  exact G.retA H9 (t := (.object "java/util/List")) rfl rfl rfl D20_41 (so := []) all0 (by decide) (by decide) ⟨a2, rfl, rfl, K19, (Nat.le_of_eq ga2.symm), F15, F16, F17, F18⟩
set_option maxRecDepth 65536 in
set_option maxHeartbeats 40000000 in
theorem m7_init (V : Env1 Z a0 n0 uu0 uu1 uu2 uu3 uu4 uu5 uu6 uu7 uu8 uu9) (p0 : Addr) (h0 : Heap) (hO : Old Z n0 h0) (f0 : Exa Z h0 p0 "java/util/ArrayList") (f1 : Fld Z h0 p0 "java/util/AbstractList" "modCount" "I" (.int (0 : Int32))) (g2 : n0 ≤ p0) :
    Met Z a0 [] False n0 l (⟨"java/util/AbstractList", "<init>", "()V"⟩ : MethodName) jdk_39_method_1_code 1 (Option.none : Option FieldType) ({ frames := 2, cells := 0, slots := 0, locals := 24 } : Room) #[(.ref p0)] h0 [] (fun v h so => (v = none ∧ so = [] ∧ Keep h0 h [p0] ∧ (∀ (O n d : String) (w : Value), Fld Z h0 p0 O n d w → RoadKit.slotOf Z O n d ≠ RoadKit.slotOf Z "java/util/AbstractList" "modCount" "I" → Fld Z h p0 O n d w) ∧ Exa Z h p0 "java/util/ArrayList" ∧ Fld Z h p0 "java/util/AbstractList" "modCount" "I" (.int (0 : Int32)))) := by
  refine Met.of (EWl V) (by first | decide +kernel | rfl) hO (L0 := #[.val (.ref p0)]) rfl ?_
  intro p e s m below meth c T H
  show Go p e below _ (T.setTop (mkF m 0 #[.val (.ref p0)] []))
  refine G.aloadN H D15_0 (pc' := 1) rfl rfl rfl ?_
  refine G.callI H (m3_init V p0 h0 H.old) rfl (wd68 V) (wd69 V) (wd72 V) (wd73 V) (by decide) (a := p0) (argsL := []) (rest := []) (W := 0) rfl rfl (lenOf (pd_2) rfl) rfl rfl D15_1 (pc' := 4) rfl (by decide) (by decide) (by decide) (by decide) all0 ?_
  intro T1 h1_ v2 s3 H1 Q4
  obtain ⟨rfl, rfl, rfl⟩ := Q4
  show Go p e below _ (T1.setTop (mkF m 4 #[.val (.ref p0)] []))
  refine G.aloadN H1 D15_4 (pc' := 5) rfl rfl rfl ?_
  refine G.iconst H1 D15_5 (pc' := 6) rfl (v := (0 : Int32)) rfl ?_
  refine G.putF H1 (wd75 V) Via.refl f1 f0 (Or.inl (wd88 V)) (wd49 V) (ty := .int) (by decide) rfl rfl g2 (Sf.exa f0) D15_6 (pc' := 9) rfl ?_
  intro T5 h5_ H5 W6
  have F7 : Fld Z h5_ p0 "java/util/AbstractList" "modCount" "I" (.int (0 : Int32)) := Fld.same W6 f1
  have F8 := (Exa.wr W6 f0)
  have K9 : Keep h0 h5_ [p0] := (Keep.wr (Keep.refl h0 [p0]) W6 (Or.inl (List.mem_of_getElem? (i := 0) rfl)))
  exact G.retV H5 rfl D15_9 (so := []) all0 (by decide) (by decide) ⟨rfl, rfl, K9, (fun O n d w F hn0 => (Fld.other W6 F (Or.inr hn0))), F8, F7⟩
set_option maxRecDepth 65536 in
set_option maxHeartbeats 40000000 in
theorem m8_toArray (V : Env1 Z a0 n0 uu0 uu1 uu2 uu3 uu4 uu5 uu6 uu7 uu8 uu9) (p0 : Addr) (h0 : Heap) (hO : Old Z n0 h0) (f0 : Fld Z h0 p0 "java/util/Collections$CopiesList" "n" "I" (.int (2 : Int32))) (f1 : Fld Z h0 p0 "java/util/Collections$CopiesList" "element" "Ljava/lang/Object;" .null) :
    Met Z a0 [] False n0 l (⟨"java/util/Collections$CopiesList", "toArray", "()[Ljava/lang/Object;"⟩ : MethodName) jdk_2479_method_8_code 2 (Option.some (FieldType.array (FieldType.object "java/lang/Object"))) ({ frames := 0, cells := 1, slots := 2, locals := 0 } : Room) #[(.ref p0)] h0 [] (fun v h so => (∃ a4 : Addr, ∃ k7 : ClassId, v = some (.ref a4) ∧ so = [] ∧ Keep h0 h [] ∧ h0.size ≤ a4 ∧ Ovr Z k7 "java/lang/Object" ∧ Arv Z h a4 k7 (.object "java/lang/Object") (2 : Int32) [.null, .null] .null ∧ Exa Z h a4 "[Ljava/lang/Object;")) := by
  refine Met.of (EWl V) (by first | decide +kernel | rfl) hO (L0 := #[.val (.ref p0), .unset]) rfl ?_
  intro p e s m below meth c T H
  show Go p e below _ (T.setTop (mkF m 0 #[.val (.ref p0), .unset] []))
  refine G.aloadN H D2_0 (pc' := 1) rfl rfl rfl ?_
  refine G.getF H (wd78 V) Via.refl f0 D2_1 (pc' := 4) rfl ?_
  intro T1 H2
  refine G.newR H2 (wd98 V) (wd99 V) D2_4 (pc' := 7) rfl (by decide) (cap := 2) (by decide) (by decide) (by decide) (by decide) (vs := [.null, .null]) rfl (ad := "[Ljava/lang/Object;") rfl ?_
  intro T3 h3_ a4 k7 ga4 H3 E5 A6 X8 O9
  have na4 := H2.nle ga4
  refine G.astoreN H3 (L' := #[.val (.ref p0), .val (.ref a4)]) D2_7 (pc' := 8) rfl rfl rfl ?_
  refine G.aloadN H3 D2_8 (pc' := 9) rfl rfl rfl ?_
  have F10 := (Fld.ext E5 f1)
  refine G.getF H3 (wd80 V) Via.refl F10 D2_9 (pc' := 12) rfl ?_
  intro T11 H12
  refine G.ifnullYes H12 D2_12 (by decide) (pc' := 28) rfl ?_
  refine G.aloadN H12 D2_28 (pc' := 29) rfl rfl rfl ?_
  have K13 : Keep h0 h3_ [] := (Keep.ext (Keep.refl h0 []) E5)
  exact G.retA H12 (t := (.array (.object "java/lang/Object"))) rfl rfl rfl D2_29 (so := []) all0 (by decide) (by decide) ⟨a4, k7, rfl, rfl, K13, (Nat.le_of_eq ga4.symm), O9, A6, X8⟩
set_option maxRecDepth 65536 in
set_option maxHeartbeats 40000000 in
theorem m9_min (V : Env1 Z a0 n0 uu0 uu1 uu2 uu3 uu4 uu5 uu6 uu7 uu8 uu9)  (h0 : Heap) (hO : Old Z n0 h0)  :
    Met Z a0 [] False n0 l (⟨"java/lang/Math", "min", "(II)I"⟩ : MethodName) jdk_29_method_69_code 2 (Option.some FieldType.int) ({ frames := 0, cells := 0, slots := 0, locals := 0 } : Room) #[(.int (2 : Int32)), (.int (2 : Int32))] h0 [] (fun v h so => (v = some (.int (2 : Int32)) ∧ so = [] ∧ h0 = h)) := by
  refine Met.of (EWl V) (by first | decide +kernel | rfl) hO (L0 := #[.val (.int (2 : Int32)), .val (.int (2 : Int32))]) rfl ?_
  intro p e s m below meth c T H
  show Go p e below _ (T.setTop (mkF m 0 #[.val (.int (2 : Int32)), .val (.int (2 : Int32))] []))
  refine G.iloadN H D4_0 (pc' := 1) rfl rfl ?_
  refine G.iloadN H D4_1 (pc' := 2) rfl rfl ?_
  refine G.icmpNo H D4_2 (pc' := 5) rfl (by decide) ?_
  refine G.iloadN H D4_5 (pc' := 6) rfl rfl ?_
  refine G.goto H D4_6 (by decide) (pc' := 10) rfl ?_
  exact G.retI H rfl D4_10 (so := []) all0 (by decide) (by decide) ⟨rfl, rfl, rfl⟩
set_option maxRecDepth 65536 in
set_option maxHeartbeats 40000000 in
theorem m10_copyOf (V : Env1 Z a0 n0 uu0 uu1 uu2 uu3 uu4 uu5 uu6 uu7 uu8 uu9) (p0 : Addr) (c0 : ClassId) (h0 : Heap) (hO : Old Z n0 h0) (f0 : Arv Z h0 p0 c0 (.object "java/lang/Object") (2 : Int32) [.null, .null] .null) :
    Met Z a0 [] False n0 l (⟨"java/util/Arrays", "copyOf", "([Ljava/lang/Object;ILjava/lang/Class;)[Ljava/lang/Object;"⟩ : MethodName) jdk_65_method_120_code 4 (Option.some (FieldType.array (FieldType.object "java/lang/Object"))) ({ frames := 1, cells := 1, slots := 2, locals := 40 } : Room) #[(.ref p0), (.int (2 : Int32)), (.ref uu9)] h0 [] (fun v h so => (∃ a4 : Addr, ∃ k7 : ClassId, v = some (.ref a4) ∧ so = [] ∧ Keep h0 h [] ∧ h0.size ≤ a4 ∧ Ovr Z k7 "java/lang/Object" ∧ Arv Z h a4 k7 (.object "java/lang/Object") (2 : Int32) [.null, .null] .null ∧ Exa Z h a4 "[Ljava/lang/Object;")) := by
  refine Met.of (EWl V) (by first | decide +kernel | rfl) hO (L0 := #[.val (.ref p0), .val (.int (2 : Int32)), .val (.ref uu9), .unset]) rfl ?_
  intro p e s m below meth c T H
  show Go p e below _ (T.setTop (mkF m 0 #[.val (.ref p0), .val (.int (2 : Int32)), .val (.ref uu9), .unset] []))
  refine G.aloadN H D19_0 (pc' := 1) rfl rfl rfl ?_
  refine G.ldcK H (wd118 V) (hv15 V) D19_1 (pc' := 3) rfl ?_
  intro T1 H2
  refine G.acmpNo H2 D19_3 (pc' := 6) rfl rfl rfl (XT.aa_ne_f rfl) ?_
  refine G.iloadN H2 D19_6 (pc' := 7) rfl rfl ?_
  refine G.newR H2 (wd119 V) (wd99 V) D19_7 (pc' := 10) rfl (by decide) (cap := 2) (by decide) (by decide) (by decide) (by decide) (vs := [.null, .null]) rfl (ad := "[Ljava/lang/Object;") rfl ?_
  intro T3 h3_ a4 k7 ga4 H3 E5 A6 X8 O9
  have na4 := H2.nle ga4
  refine G.goto H3 D19_10 (by decide) (pc' := 24) rfl ?_
  refine G.astoreN H3 (L' := #[.val (.ref p0), .val (.int (2 : Int32)), .val (.ref uu9), .val (.ref a4)]) D19_24 (pc' := 25) rfl rfl rfl ?_
  refine G.aloadN H3 D19_25 (pc' := 26) rfl rfl rfl ?_
  refine G.iconst H3 D19_26 (pc' := 27) rfl (v := (0 : Int32)) rfl ?_
  refine G.aloadN H3 D19_27 (pc' := 28) rfl rfl rfl ?_
  refine G.iconst H3 D19_28 (pc' := 29) rfl (v := (0 : Int32)) rfl ?_
  refine G.aloadN H3 D19_29 (pc' := 30) rfl rfl rfl ?_
  have F10 := (Arv.ext f0 E5)
  refine G.arrlen H3 F10 D19_30 (pc' := 31) rfl ?_
  refine G.iloadN H3 D19_31 (pc' := 32) rfl rfl ?_
  refine G.callS H3 (m9_min V h3_ H3.old) (wd120 V) (wd121 V) (wd122 V) (wd123 V) (by decide) (argsL := [(.int (2 : Int32)), (.int (2 : Int32))]) (rest := [(.int (0 : Int32)), (.ref a4), (.int (0 : Int32)), (.ref p0)]) (W := 4) rfl rfl (lenOf (pd_6) rfl) rfl rfl D19_32 (pc' := 35) rfl (by decide) (by decide) (by decide) (by decide) all0 ?_
  intro T11 h11_ v12 s13 H11 Q14
  obtain ⟨rfl, rfl, rfl⟩ := Q14
  show Go p e below _ (T11.setTop (mkF m 35 #[.val (.ref p0), .val (.int (2 : Int32)), .val (.ref uu9), .val (.ref a4)] [(.int (2 : Int32)), (.int (0 : Int32)), (.ref a4), (.int (0 : Int32)), (.ref p0)]))
  refine G.copy H11 (wd124 V) (wd127 V) (wd125 V) (wd126 V) F10 A6 (us := [.null, .null]) (Or.inr ⟨rfl, rfl, ⟨(Or.inl rfl), ⟨(Or.inl rfl), trivial⟩⟩⟩) (by decide) (by decide) (by decide) (by decide) (by decide) rfl (Nat.le_of_ble_eq_true rfl) (vr := [.null, .null]) rfl na4 (Sf.arr A6) (st := []) (W := 0) rfl rfl D19_35 (pc' := 38) rfl (by decide) (by decide) ?_
  intro T15 h15_ H15 K16 A17
  refine G.aloadN H15 D19_38 (pc' := 39) rfl rfl rfl ?_
  have F18 := (Exa.keep X8 K16)
  have K19 : Keep h0 h15_ [] := (Keep.trans (Keep.ext (Keep.refl h0 []) E5) K16 (allS (Or.inr (Nat.le_of_eq ga4.symm)) all0))
  exact G.retA H15 (t := (.array (.object "java/lang/Object"))) rfl rfl rfl D19_39 (so := []) all0 (by decide) (by decide) ⟨a4, k7, rfl, rfl, K19, (Nat.le_of_eq ga4.symm), O9, A17, F18⟩
set_option maxRecDepth 65536 in
set_option maxHeartbeats 40000000 in
theorem m11_init (V : Env1 Z a0 n0 uu0 uu1 uu2 uu3 uu4 uu5 uu6 uu7 uu8 uu9) (p0 : Addr) (p1 : Addr) (h0 : Heap) (hO : Old Z n0 h0) (f0 : Exa Z h0 p0 "java/util/ArrayList") (f1 : Fld Z h0 p0 "java/util/AbstractList" "modCount" "I" (.int (0 : Int32))) (g2 : n0 ≤ p0) (f3 : Exa Z h0 p1 "java/util/Collections$CopiesList") (f4 : Fld Z h0 p1 "java/util/Collections$CopiesList" "n" "I" (.int (2 : Int32))) (f5 : Fld Z h0 p1 "java/util/Collections$CopiesList" "element" "Ljava/lang/Object;" .null) (f6 : Fld Z h0 p0 "java/util/ArrayList" "size" "I" (.int (0 : Int32))) (f7 : Fld Z h0 p0 "java/util/ArrayList" "elementData" "[Ljava/lang/Object;" .null) :
    Met Z a0 [] False n0 l (⟨"java/util/ArrayList", "<init>", "(Ljava/util/Collection;)V"⟩ : MethodName) jdk_38_method_3_code 3 (Option.none : Option FieldType) ({ frames := 3, cells := 2, slots := 4, locals := 56 } : Room) #[(.ref p0), (.ref p1)] h0 [] (fun v h so => (∃ a45 : Addr, ∃ k46 : ClassId, v = none ∧ so = [] ∧ Keep h0 h [p0] ∧ h0.size ≤ a45 ∧ (∀ (O n d : String) (w : Value), Fld Z h0 p0 O n d w → RoadKit.slotOf Z O n d ≠ RoadKit.slotOf Z "java/util/AbstractList" "modCount" "I" → RoadKit.slotOf Z O n d ≠ RoadKit.slotOf Z "java/util/ArrayList" "size" "I" → RoadKit.slotOf Z O n d ≠ RoadKit.slotOf Z "java/util/ArrayList" "elementData" "[Ljava/lang/Object;" → Fld Z h p0 O n d w) ∧ Ovr Z k46 "java/lang/Object" ∧ Exa Z h p0 "java/util/ArrayList" ∧ Fld Z h p0 "java/util/AbstractList" "modCount" "I" (.int (0 : Int32)) ∧ Fld Z h p0 "java/util/ArrayList" "size" "I" (.int (2 : Int32)) ∧ Fld Z h p0 "java/util/ArrayList" "elementData" "[Ljava/lang/Object;" (.ref a45) ∧ Arv Z h a45 k46 (.object "java/lang/Object") (2 : Int32) [.null, .null] .null ∧ Exa Z h a45 "[Ljava/lang/Object;")) := by
  refine Met.of (EWl V) (by first | decide +kernel | rfl) hO (L0 := #[.val (.ref p0), .val (.ref p1), .unset]) rfl ?_
  intro p e s m below meth c T H
  show Go p e below _ (T.setTop (mkF m 0 #[.val (.ref p0), .val (.ref p1), .unset] []))
  refine G.aloadN H D12_0 (pc' := 1) rfl rfl rfl ?_
  refine G.callI H (m7_init V p0 h0 H.old f0 f1 g2) rfl (wd85 V) (wd63 V) (wd66 V) (wd67 V) (by decide) (a := p0) (argsL := []) (rest := []) (W := 0) rfl rfl (lenOf (pd_2) rfl) rfl rfl D12_1 (pc' := 4) rfl (by decide) (by decide) (by decide) (by decide) all0 ?_
  intro T1 h1_ v2 s3 H1 Q4
  obtain ⟨rfl, rfl, K5, U6, F7, F8⟩ := Q4
  show Go p e below _ (T1.setTop (mkF m 4 #[.val (.ref p0), .val (.ref p1), .unset] []))
  refine G.aloadN H1 D12_4 (pc' := 5) rfl rfl rfl ?_
  have F9 := (Exa.keep f3 K5)
  have N10 : p1 ≠ p0 := Exa.ne F9 F7 (by decide)
  have F11 := (Fld.keep f4 K5 (ninS N10 nin0))
  have F12 := (Fld.keep f5 K5 (ninS N10 nin0))
  refine G.callF H1 (m8_toArray V p1 h1_ H1.old F11 F12) (wd89 V) (wd90 V) (fun s2 aa hZ => Jvm.Free.ULB.iface_rides (U := s2) hZ.alike (wd91 V)) (wd92 V) (wd93 V) (wd94 V) (wd95 V) (wd96 V) (wd57 V) (wd97 V) (by decide) F9 (argsL := []) (rest := []) (W := 0) rfl rfl (lenOf (pd_5) rfl) rfl rfl D12_5 (pc' := 10) rfl (by decide) (by decide) (by decide) (by decide) all0 ?_
  intro T13 h13_ v14 s15 H13 Q16
  obtain ⟨a17, k18, rfl, rfl, K19, g20, O21, F22, F23⟩ := Q16
  have na17 : n0 ≤ a17 := Nat.le_trans H1.le g20
  show Go p e below _ (T13.setTop (mkF m 10 #[.val (.ref p0), .val (.ref p1), .unset] [(.ref a17)]))
  refine G.astoreN H13 (L' := #[.val (.ref p0), .val (.ref p1), .val (.ref a17)]) D12_10 (pc' := 11) rfl rfl rfl ?_
  refine G.aloadN H13 D12_11 (pc' := 12) rfl rfl rfl ?_
  refine G.aloadN H13 D12_12 (pc' := 13) rfl rfl rfl ?_
  refine G.arrlen H13 F22 D12_13 (pc' := 14) rfl ?_
  refine G.dupX1 H13 D12_14 (pc' := 15) rfl rfl rfl ?_
  have F24 := (Exa.keep F7 K19)
  have F25 := (Fld.keep (U6 "java/util/ArrayList" "size" "I" (.int (0 : Int32)) f6 (slot_ne (Or.inl (wd101 V)) (Or.inl (wd88 V)) (by decide) (t := .int) (t' := .int) (by decide) (by decide))) K19 nin0)
  refine G.putF H13 (wd100 V) Via.refl F25 F24 (Or.inl (wd101 V)) (wd49 V) (ty := .int) (by decide) rfl rfl g2 (Sf.exa F24) D12_15 (pc' := 18) rfl ?_
  intro T26 h26_ H26 W27
  have F28 : Fld Z h26_ p0 "java/util/ArrayList" "size" "I" (.int (2 : Int32)) := Fld.same W27 F25
  refine G.ifNo H26 D12_18 (pc' := 21) rfl (by decide) ?_
  refine G.aloadN H26 D12_21 (pc' := 22) rfl rfl rfl ?_
  have K29 : Keep h1_ h26_ [p0] := (Keep.wr (Keep.trans (Keep.refl h1_ [p0]) K19 all0) W27 (Or.inl (List.mem_of_getElem? (i := 0) rfl)))
  have F30 := (Exa.keep F9 K29)
  refine G.gclsI H26 (wd102 V) (wd103 V) (fun s2 aa hZ => Jvm.Free.ULB.iface_rides (U := s2) hZ.alike (wd104 V)) (wd105 V) (wd106 V) (wd107 V) (wd108 V) (wd96 V) (wd109 V) (by decide) (by decide) rfl rfl F30 (hv13 V) (W := 0) rfl rfl D12_22 (pc' := 27) rfl (by decide) (by decide) ?_
  intro T31 H32
  refine G.ldcK H32 (wd110 V) (hv14 V) D12_27 (pc' := 29) rfl ?_
  intro T33 H34
  refine G.acmpYes H34 D12_29 rfl rfl (XT.aa_ne_t (fun q => (Mir.ne (hv13 V) (hv14 V) (by decide)) (Value.ref.inj q))) (by decide) (pc' := 40) rfl ?_
  refine G.aloadN H34 D12_40 (pc' := 41) rfl rfl rfl ?_
  refine G.aloadN H34 D12_41 (pc' := 42) rfl rfl rfl ?_
  refine G.aloadN H34 D12_42 (pc' := 43) rfl rfl rfl ?_
  refine G.getF H34 (wd100 V) Via.refl F28 D12_43 (pc' := 46) rfl ?_
  intro T35 H36
  refine G.ldcK H36 (wd112 V) (hv15 V) D12_46 (pc' := 48) rfl ?_
  intro T37 H38
  have N39 : a17 ≠ p0 := Ne.symm (Exa.neArv F24 F22 (wd49 V))
  have F40 := (Arv.other F22 W27 N39)
  refine G.callS H38 (m10_copyOf V a17 k18 h26_ H38.old F40) (wd114 V) (wd115 V) (wd116 V) (wd117 V) (by decide) (argsL := [(.ref a17), (.int (2 : Int32)), (.ref uu9)]) (rest := [(.ref p0)]) (W := 1) rfl rfl (lenOf (pd_7) rfl) rfl rfl D12_48 (pc' := 51) rfl (by decide) (by decide) (by decide) (by decide) all0 ?_
  intro T41 h41_ v42 s43 H41 Q44
  obtain ⟨a45, k46, rfl, rfl, K47, g48, O49, F50, F51⟩ := Q44
  have na45 : n0 ≤ a45 := Nat.le_trans H26.le g48
  show Go p e below _ (T41.setTop (mkF m 51 #[.val (.ref p0), .val (.ref p1), .val (.ref a17)] [(.ref a45), (.ref p0)]))
  have K52 : Keep h13_ h41_ [p0] := (Keep.trans (Keep.wr (Keep.refl h13_ [p0]) W27 (Or.inl (List.mem_of_getElem? (i := 0) rfl))) K47 all0)
  have F53 := (Exa.keep F24 K52)
  have F54 := (Fld.keep (Fld.other W27 (Fld.keep (U6 "java/util/ArrayList" "elementData" "[Ljava/lang/Object;" .null f7 (slot_ne (Or.inl (wd129 V)) (Or.inl (wd88 V)) (by decide) (t := (.array (.object "java/lang/Object"))) (t' := .int) (by decide) (by decide))) K19 nin0) (Or.inr (slot_ne (Or.inl (wd129 V)) (Or.inl (wd101 V)) (by decide) (t := (.array (.object "java/lang/Object"))) (t' := .int) (by decide) (by decide)))) K47 nin0)
  refine G.putF H41 (wd128 V) Via.refl F54 F53 (Or.inl (wd129 V)) (wd49 V) (ty := (.array (.object "java/lang/Object"))) (by decide) rfl rfl g2 (Sf.exa F53) D12_51 (pc' := 54) rfl ?_
  intro T55 h55_ H55 W56
  have F57 : Fld Z h55_ p0 "java/util/ArrayList" "elementData" "[Ljava/lang/Object;" (.ref a45) := Fld.same W56 F54
  refine G.goto H55 D12_54 (by decide) (pc' := 64) rfl ?_
  have F58 := (Exa.wr W56 F53)
  have F59 := (Fld.other W56 (Fld.keep (Fld.other W27 (Fld.keep F8 K19 nin0) (Or.inr (slot_ne (Or.inl (wd88 V)) (Or.inl (wd101 V)) (by decide) (t := .int) (t' := .int) (by decide) (by decide)))) K47 nin0) (Or.inr (slot_ne (Or.inl (wd88 V)) (Or.inl (wd129 V)) (by decide) (t := .int) (t' := (.array (.object "java/lang/Object"))) (by decide) (by decide))))
  have F60 := (Fld.other W56 (Fld.keep F28 K47 nin0) (Or.inr (slot_ne (Or.inl (wd101 V)) (Or.inl (wd129 V)) (by decide) (t := .int) (t' := (.array (.object "java/lang/Object"))) (by decide) (by decide))))
  have K61 : Keep h0 h26_ [p0] := (Keep.wr (Keep.trans (Keep.trans (Keep.refl h0 [p0]) K5 (allS (Or.inl (List.mem_of_getElem? (i := 0) rfl)) all0)) K19 all0) W27 (Or.inl (List.mem_of_getElem? (i := 0) rfl)))
  have N62 : a45 ≠ p0 := (Ne.symm (Nat.ne_of_lt (Nat.lt_of_lt_of_le (Nat.lt_of_lt_of_le f0.lt K61.1) g48)))
  have F63 := (Arv.other F50 W56 N62)
  have F64 := (Exa.wr W56 F51)
  have K65 : Keep h0 h55_ [p0] := (Keep.wr (Keep.trans (Keep.wr (Keep.trans (Keep.trans (Keep.refl h0 [p0]) K5 (allS (Or.inl (List.mem_of_getElem? (i := 0) rfl)) all0)) K19 all0) W27 (Or.inl (List.mem_of_getElem? (i := 0) rfl))) K47 all0) W56 (Or.inl (List.mem_of_getElem? (i := 0) rfl)))
  exact G.retV H55 rfl D12_64 (so := []) all0 (by decide) (by decide) ⟨a45, k46, rfl, rfl, K65, (Nat.le_trans K61.1 g48), (fun O n d w F hn0 hn1 hn2 => (Fld.other W56 (Fld.keep (Fld.other W27 (Fld.keep (U6 O n d w F hn0) K19 nin0) (Or.inr hn1)) K47 nin0) (Or.inr hn2))), O49, F58, F59, F60, F57, F63, F64⟩
set_option maxRecDepth 65536 in
set_option maxHeartbeats 40000000 in
theorem m12_init (V : Env1 Z a0 n0 uu0 uu1 uu2 uu3 uu4 uu5 uu6 uu7 uu8 uu9) (p0 : Addr) (p1 : Addr) (x0 : Int32) (p2 : Addr) (c0 : ClassId) (h0 : Heap) (hO : Old Z n0 h0) (f0 : Exa Z h0 p0 "com/example/passenger_flow_sim/passengerflowsim/simulation/Vehicle") (f1 : Fld Z h0 p0 "com/example/passenger_flow_sim/passengerflowsim/simulation/Vehicle" "trip" "Lcom/example/passenger_flow_sim/passengerflowsim/timetable/Trip;" .null) (g2 : n0 ≤ p0) (f3 : Fld Z h0 p0 "com/example/passenger_flow_sim/passengerflowsim/simulation/Vehicle" "order" "I" (.int (0 : Int32))) (f4 : Exa Z h0 p1 "com/example/passenger_flow_sim/passengerflowsim/timetable/Trip") (f5 : Fld Z h0 p1 "com/example/passenger_flow_sim/passengerflowsim/timetable/Trip" "stops" "[I" (.ref p2)) (f6 : Arv Z h0 p2 c0 .int (2 : Int32) [(.int (0 : Int32)), (.int (1 : Int32))] (.int 0)) (q7 : p2 ≠ p0) (f8 : Fld Z h0 p0 "com/example/passenger_flow_sim/passengerflowsim/simulation/Vehicle" "loads" "[I" .null) (f9 : Fld Z h0 p0 "com/example/passenger_flow_sim/passengerflowsim/simulation/Vehicle" "waiting" "Ljava/util/List;" .null) (f10 : Fld Z h0 p0 "com/example/passenger_flow_sim/passengerflowsim/simulation/Vehicle" "alighting" "Ljava/util/List;" .null) :
    Met Z a0 [] False n0 l (⟨"com/example/passenger_flow_sim/passengerflowsim/simulation/Vehicle", "<init>", "(Lcom/example/passenger_flow_sim/passengerflowsim/timetable/Trip;I)V"⟩ : MethodName) prog_32_method_1_code 3 (Option.none : Option FieldType) ({ frames := 5, cells := 9, slots := 21, locals := 72 } : Room) #[(.ref p0), (.ref p1), (.int x0)] h0 [] (fun v h so => (∃ a22 a33 a67 a88 a127 : Addr, ∃ k25 k68 k128 : ClassId, v = none ∧ so = [] ∧ Keep h0 h [p0] ∧ h0.size ≤ a22 ∧ a22 < a33 ∧ a33 < a67 ∧ a67 < a88 ∧ a88 < a127 ∧ (∀ (O n d : String) (w : Value), Fld Z h0 p0 O n d w → RoadKit.slotOf Z O n d ≠ RoadKit.slotOf Z "com/example/passenger_flow_sim/passengerflowsim/simulation/Vehicle" "trip" "Lcom/example/passenger_flow_sim/passengerflowsim/timetable/Trip;" → RoadKit.slotOf Z O n d ≠ RoadKit.slotOf Z "com/example/passenger_flow_sim/passengerflowsim/simulation/Vehicle" "order" "I" → RoadKit.slotOf Z O n d ≠ RoadKit.slotOf Z "com/example/passenger_flow_sim/passengerflowsim/simulation/Vehicle" "loads" "[I" → RoadKit.slotOf Z O n d ≠ RoadKit.slotOf Z "com/example/passenger_flow_sim/passengerflowsim/simulation/Vehicle" "waiting" "Ljava/util/List;" → RoadKit.slotOf Z O n d ≠ RoadKit.slotOf Z "com/example/passenger_flow_sim/passengerflowsim/simulation/Vehicle" "alighting" "Ljava/util/List;" → Fld Z h p0 O n d w) ∧ Ovr Z k68 "java/lang/Object" ∧ Ovr Z k128 "java/lang/Object" ∧ Exa Z h p0 "com/example/passenger_flow_sim/passengerflowsim/simulation/Vehicle" ∧ Fld Z h p0 "com/example/passenger_flow_sim/passengerflowsim/simulation/Vehicle" "trip" "Lcom/example/passenger_flow_sim/passengerflowsim/timetable/Trip;" (.ref p1) ∧ Fld Z h p0 "com/example/passenger_flow_sim/passengerflowsim/simulation/Vehicle" "order" "I" (.int x0) ∧ Fld Z h p0 "com/example/passenger_flow_sim/passengerflowsim/simulation/Vehicle" "loads" "[I" (.ref a22) ∧ Fld Z h p0 "com/example/passenger_flow_sim/passengerflowsim/simulation/Vehicle" "waiting" "Ljava/util/List;" (.ref a33) ∧ Fld Z h p0 "com/example/passenger_flow_sim/passengerflowsim/simulation/Vehicle" "alighting" "Ljava/util/List;" (.ref a88) ∧ Arv Z h a22 k25 .int (1 : Int32) [(.int (0 : Int32))] (.int 0) ∧ Exa Z h a22 "[I" ∧ Exa Z h a33 "java/util/ArrayList" ∧ Fld Z h a33 "java/util/AbstractList" "modCount" "I" (.int (0 : Int32)) ∧ Fld Z h a33 "java/util/ArrayList" "size" "I" (.int (2 : Int32)) ∧ Fld Z h a33 "java/util/ArrayList" "elementData" "[Ljava/lang/Object;" (.ref a67) ∧ Arv Z h a67 k68 (.object "java/lang/Object") (2 : Int32) [.null, .null] .null ∧ Exa Z h a67 "[Ljava/lang/Object;" ∧ Exa Z h a88 "java/util/ArrayList" ∧ Fld Z h a88 "java/util/AbstractList" "modCount" "I" (.int (0 : Int32)) ∧ Fld Z h a88 "java/util/ArrayList" "size" "I" (.int (2 : Int32)) ∧ Fld Z h a88 "java/util/ArrayList" "elementData" "[Ljava/lang/Object;" (.ref a127) ∧ Arv Z h a127 k128 (.object "java/lang/Object") (2 : Int32) [.null, .null] .null ∧ Exa Z h a127 "[Ljava/lang/Object;")) := by
  refine Met.of (EWl V) (by first | decide +kernel | rfl) hO (L0 := #[.val (.ref p0), .val (.ref p1), .val (.int x0)]) rfl ?_
  intro p e s m below meth c T H
  show Go p e below _ (T.setTop (mkF m 0 #[.val (.ref p0), .val (.ref p1), .val (.int x0)] []))
  refine G.aloadN H D31_0 (pc' := 1) rfl rfl rfl ?_
  refine G.initO H (wd36 V) (wd9 V) (wd10 V) rfl D31_1 (pc' := 4) rfl (by decide) (W := 0) rfl (by decide) ?_
  intro T1 H2
  refine G.aloadN H2 D31_4 (pc' := 5) rfl rfl rfl ?_
  refine G.aloadN H2 D31_5 (pc' := 6) rfl rfl rfl ?_
  refine G.putF H2 (wd37 V) Via.refl f1 f0 (Or.inr ⟨(wd38 V), rfl, rfl⟩) (wd31 V) (ty := (.object "com/example/passenger_flow_sim/passengerflowsim/timetable/Trip")) (by decide) rfl rfl g2 (Sf.exa f0) D31_6 (pc' := 9) rfl ?_
  intro T3 h3_ H3 W4
  have F5 : Fld Z h3_ p0 "com/example/passenger_flow_sim/passengerflowsim/simulation/Vehicle" "trip" "Lcom/example/passenger_flow_sim/passengerflowsim/timetable/Trip;" (.ref p1) := Fld.same W4 f1
  refine G.aloadN H3 D31_9 (pc' := 10) rfl rfl rfl ?_
  refine G.iloadN H3 D31_10 (pc' := 11) rfl rfl ?_
  have F6 := (Exa.wr W4 f0)
  have F7 := (Fld.other W4 f3 (Or.inr (slot_ne (Or.inr (wd40 V)) (Or.inr (wd38 V)) (by decide) (t := .int) (t' := (.object "com/example/passenger_flow_sim/passengerflowsim/timetable/Trip")) (by decide) (by decide))))
  refine G.putF H3 (wd39 V) Via.refl F7 F6 (Or.inr ⟨(wd40 V), rfl, rfl⟩) (wd31 V) (ty := .int) (by decide) rfl rfl g2 (Sf.exa F6) D31_11 (pc' := 14) rfl ?_
  intro T8 h8_ H8 W9
  have F10 : Fld Z h8_ p0 "com/example/passenger_flow_sim/passengerflowsim/simulation/Vehicle" "order" "I" (.int x0) := Fld.same W9 F7
  refine G.aloadN H8 D31_14 (pc' := 15) rfl rfl rfl ?_
  refine G.aloadN H8 D31_15 (pc' := 16) rfl rfl rfl ?_
  have K11 : Keep h0 h8_ [p0] := (Keep.wr (Keep.wr (Keep.refl h0 [p0]) W4 (Or.inl (List.mem_of_getElem? (i := 0) rfl))) W9 (Or.inl (List.mem_of_getElem? (i := 0) rfl)))
  have F12 := (Exa.keep f4 K11)
  have F13 := (Exa.wr W9 F6)
  have N14 : p1 ≠ p0 := Exa.ne F12 F13 (by decide)
  have F15 := (Fld.keep f5 K11 (ninS N14 nin0))
  have F16 := (Arv.keep f6 K11 (ninS q7 nin0))
  refine G.callV H8 (m2_length V p1 p2 c0 h8_ H8.old F15 F16) (wd41 V) (wd42 V) (nf_sel (wd44 V)) (wd44 V) (wd43 V) (wd3 V) (wd45 V) (by decide) F12 (argsL := []) (rest := [(.ref p0)]) (W := 1) rfl rfl (lenOf (pd_1) rfl) rfl rfl D31_16 (pc' := 19) rfl (by decide) (by decide) (by decide) (by decide) all0 ?_
  intro T17 h17_ v18 s19 H17 Q20
  obtain ⟨rfl, rfl, rfl⟩ := Q20
  show Go p e below _ (T17.setTop (mkF m 19 #[.val (.ref p0), .val (.ref p1), .val (.int x0)] [(.int (2 : Int32)), (.ref p0)]))
  refine G.iconst H17 D31_19 (pc' := 20) rfl (v := (1 : Int32)) rfl ?_
  refine G.isub H17 D31_20 (pc' := 21) rfl ?_
  show Go p e below _ (T17.setTop (mkF m 21 #[.val (.ref p0), .val (.ref p1), .val (.int x0)] [(.int (1 : Int32)), (.ref p0)]))
  refine G.newP H17 (aty := .int) (wd4 V) D31_21 (pc' := 23) rfl (by decide) (cap := 1) (by decide) (by decide) (by decide) (by decide) (vs := [(.int (0 : Int32))]) rfl (ad := "[I") rfl ?_
  intro T21 h21_ a22 k25 ga22 H21 E23 A24 X26
  have na22 := H17.nle ga22
  replace A24 : Arv Z h21_ a22 k25 .int (1 : Int32) [(.int (0 : Int32))] (.int 0) := A24
  have F27 := (Exa.ext E23 F13)
  have F28 := (Fld.ext E23 (Fld.other W9 (Fld.other W4 f8 (Or.inr (slot_ne (Or.inr (wd47 V)) (Or.inr (wd38 V)) (by decide) (t := (.array .int)) (t' := (.object "com/example/passenger_flow_sim/passengerflowsim/timetable/Trip")) (by decide) (by decide)))) (Or.inr (slot_ne (Or.inr (wd47 V)) (Or.inr (wd40 V)) (by decide) (t := (.array .int)) (t' := .int) (by decide) (by decide)))))
  refine G.putF H21 (wd46 V) Via.refl F28 F27 (Or.inr ⟨(wd47 V), rfl, rfl⟩) (wd31 V) (ty := (.array .int)) (by decide) rfl rfl g2 (Sf.exa F27) D31_23 (pc' := 26) rfl ?_
  intro T29 h29_ H29 W30
  have F31 : Fld Z h29_ p0 "com/example/passenger_flow_sim/passengerflowsim/simulation/Vehicle" "loads" "[I" (.ref a22) := Fld.same W30 F28
  refine G.aloadN H29 D31_26 (pc' := 27) rfl rfl rfl ?_
  refine G.new H29 (wd48 V) (wd49 V) (wd50 V) D31_27 (pc' := 30) rfl (by decide) (by decide) ?_
  intro T32 h32_ a33 ga33 H32 E34 A35 D36
  have na33 := H29.nle ga33
  refine G.dup H32 D31_30 (pc' := 31) rfl rfl ?_
  refine G.aloadN H32 D31_31 (pc' := 32) rfl rfl rfl ?_
  have K37 : Keep h8_ h32_ [p0] := (Keep.ext (Keep.wr (Keep.ext (Keep.refl h8_ [p0]) E23) W30 (Or.inl (List.mem_of_getElem? (i := 0) rfl))) E34)
  have F38 := (Exa.keep F12 K37)
  have F39 := (Fld.keep F15 K37 (ninS N14 nin0))
  have F40 := (Arv.keep F16 K37 (ninS q7 nin0))
  refine G.callV H32 (m2_length V p1 p2 c0 h32_ H32.old F39 F40) (wd41 V) (wd42 V) (nf_sel (wd44 V)) (wd44 V) (wd43 V) (wd3 V) (wd45 V) (by decide) F38 (argsL := []) (rest := [(.ref a33), (.ref a33), (.ref p0)]) (W := 3) rfl rfl (lenOf (pd_1) rfl) rfl rfl D31_32 (pc' := 35) rfl (by decide) (by decide) (by decide) (by decide) all0 ?_
  intro T41 h41_ v42 s43 H41 Q44
  obtain ⟨rfl, rfl, rfl⟩ := Q44
  show Go p e below _ (T41.setTop (mkF m 35 #[.val (.ref p0), .val (.ref p1), .val (.int x0)] [(.int (2 : Int32)), (.ref a33), (.ref a33), (.ref p0)]))
  refine G.aconstNull H41 D31_35 (pc' := 36) rfl ?_
  refine G.callS H41 (m6_nCopies V h32_ H41.old) (wd51 V) (wd52 V) (wd53 V) (wd54 V) (by decide) (argsL := [(.int (2 : Int32)), .null]) (rest := [(.ref a33), (.ref a33), (.ref p0)]) (W := 3) rfl rfl (lenOf (pd_4) rfl) rfl rfl D31_36 (pc' := 39) rfl (by decide) (by decide) (by decide) (by decide) all0 ?_
  intro T45 h45_ v46 s47 H45 Q48
  obtain ⟨a49, rfl, rfl, K50, g51, F52, F53, F54, F55⟩ := Q48
  have na49 : n0 ≤ a49 := Nat.le_trans H41.le g51
  show Go p e below _ (T45.setTop (mkF m 39 #[.val (.ref p0), .val (.ref p1), .val (.int x0)] [(.ref a49), (.ref a33), (.ref a33), (.ref p0)]))
  have F56 := (Exa.keep A35 K50)
  have F57 : Fld Z h32_ a33 "java/util/AbstractList" "modCount" "I" (.int (0 : Int32)) := D36 (Or.inl (wd88 V)) (ty := .int) (by decide)
  have F58 := (Fld.keep F57 K50 nin0)
  have F59 : Fld Z h32_ a33 "java/util/ArrayList" "size" "I" (.int (0 : Int32)) := D36 (Or.inl (wd101 V)) (ty := .int) (by decide)
  have F60 := (Fld.keep F59 K50 nin0)
  have F61 : Fld Z h32_ a33 "java/util/ArrayList" "elementData" "[Ljava/lang/Object;" .null := D36 (Or.inl (wd129 V)) (ty := (.array (.object "java/lang/Object"))) (by decide)
  have F62 := (Fld.keep F61 K50 nin0)
  refine G.callI H45 (m11_init V a33 a49 h45_ H45.old F56 F58 na33 F52 F54 F55 F60 F62) rfl (wd82 V) (wd83 V) (wd50 V) (wd84 V) (by decide) (a := a33) (argsL := [(.ref a49)]) (rest := [(.ref a33), (.ref p0)]) (W := 2) rfl rfl (lenOf (pd_8) rfl) rfl rfl D31_39 (pc' := 42) rfl (by decide) (by decide) (by decide) (by decide) all0 ?_
  intro T63 h63_ v64 s65 H63 Q66
  obtain ⟨a67, k68, rfl, rfl, K69, g70, U71, O72, F73, F74, F75, F76, F77, F78⟩ := Q66
  have na67 : n0 ≤ a67 := Nat.le_trans H45.le g70
  show Go p e below _ (T63.setTop (mkF m 42 #[.val (.ref p0), .val (.ref p1), .val (.int x0)] [(.ref a33), (.ref p0)]))
  have K79 : Keep h21_ h29_ [p0] := (Keep.wr (Keep.refl h21_ [p0]) W30 (Or.inl (List.mem_of_getElem? (i := 0) rfl)))
  have K80 : Keep h21_ h63_ [p0] := (Keep.trans (Keep.trans (Keep.ext (Keep.wr (Keep.refl h21_ [p0]) W30 (Or.inl (List.mem_of_getElem? (i := 0) rfl))) E34) K50 all0) K69 (allS (Or.inr (Nat.le_trans K79.1 (Nat.le_of_eq ga33.symm))) all0))
  have F81 := (Exa.keep F27 K80)
  have K82 : Keep h29_ h63_ [] := (Keep.trans (Keep.trans (Keep.ext (Keep.refl h29_ []) E34) K50 all0) K69 (allS (Or.inr (Nat.le_of_eq ga33.symm)) all0))
  have F83 := (Fld.keep (Fld.other W30 (Fld.ext E23 (Fld.other W9 (Fld.other W4 f9 (Or.inr (slot_ne (Or.inr (wd131 V)) (Or.inr (wd38 V)) (by decide) (t := (.object "java/util/List")) (t' := (.object "com/example/passenger_flow_sim/passengerflowsim/timetable/Trip")) (by decide) (by decide)))) (Or.inr (slot_ne (Or.inr (wd131 V)) (Or.inr (wd40 V)) (by decide) (t := (.object "java/util/List")) (t' := .int) (by decide) (by decide))))) (Or.inr (slot_ne (Or.inr (wd131 V)) (Or.inr (wd47 V)) (by decide) (t := (.object "java/util/List")) (t' := (.array .int)) (by decide) (by decide)))) K82 nin0)
  refine G.putF H63 (wd130 V) Via.refl F83 F81 (Or.inr ⟨(wd131 V), rfl, rfl⟩) (wd31 V) (ty := (.object "java/util/List")) (by decide) rfl rfl g2 (Sf.exa F81) D31_42 (pc' := 45) rfl ?_
  intro T84 h84_ H84 W85
  have F86 : Fld Z h84_ p0 "com/example/passenger_flow_sim/passengerflowsim/simulation/Vehicle" "waiting" "Ljava/util/List;" (.ref a33) := Fld.same W85 F83
  refine G.aloadN H84 D31_45 (pc' := 46) rfl rfl rfl ?_
  refine G.new H84 (wd48 V) (wd49 V) (wd50 V) D31_46 (pc' := 49) rfl (by decide) (by decide) ?_
  intro T87 h87_ a88 ga88 H87 E89 A90 D91
  have na88 := H84.nle ga88
  refine G.dup H87 D31_49 (pc' := 50) rfl rfl ?_
  refine G.aloadN H87 D31_50 (pc' := 51) rfl rfl rfl ?_
  have K92 : Keep h32_ h87_ [a33, p0] := (Keep.ext (Keep.wr (Keep.trans (Keep.trans (Keep.refl h32_ [a33, p0]) K50 all0) K69 (allS (Or.inl (List.mem_of_getElem? (i := 0) rfl)) all0)) W85 (Or.inl (List.mem_of_getElem? (i := 1) rfl))) E89)
  have F93 := (Exa.keep F38 K92)
  have K94 : Keep h63_ h87_ [p0] := (Keep.ext (Keep.wr (Keep.refl h63_ [p0]) W85 (Or.inl (List.mem_of_getElem? (i := 0) rfl))) E89)
  have F95 := (Exa.keep F73 K94)
  have N96 : p1 ≠ a33 := Exa.ne F93 F95 (by decide)
  have F97 := (Fld.keep F39 K92 (ninS N96 (ninS N14 nin0)))
  have K98 : Keep h0 h29_ [p0] := (Keep.wr (Keep.ext (Keep.wr (Keep.wr (Keep.refl h0 [p0]) W4 (Or.inl (List.mem_of_getElem? (i := 0) rfl))) W9 (Or.inl (List.mem_of_getElem? (i := 0) rfl))) E23) W30 (Or.inl (List.mem_of_getElem? (i := 0) rfl)))
  have N99 : p2 ≠ a33 := (Nat.ne_of_lt (Nat.lt_of_lt_of_le (Nat.lt_of_lt_of_le f6.lt K98.1) (Nat.le_of_eq ga33.symm)))
  have F100 := (Arv.keep F40 K92 (ninS N99 (ninS q7 nin0)))
  refine G.callV H87 (m2_length V p1 p2 c0 h87_ H87.old F97 F100) (wd41 V) (wd42 V) (nf_sel (wd44 V)) (wd44 V) (wd43 V) (wd3 V) (wd45 V) (by decide) F93 (argsL := []) (rest := [(.ref a88), (.ref a88), (.ref p0)]) (W := 3) rfl rfl (lenOf (pd_1) rfl) rfl rfl D31_51 (pc' := 54) rfl (by decide) (by decide) (by decide) (by decide) all0 ?_
  intro T101 h101_ v102 s103 H101 Q104
  obtain ⟨rfl, rfl, rfl⟩ := Q104
  show Go p e below _ (T101.setTop (mkF m 54 #[.val (.ref p0), .val (.ref p1), .val (.int x0)] [(.int (2 : Int32)), (.ref a88), (.ref a88), (.ref p0)]))
  refine G.aconstNull H101 D31_54 (pc' := 55) rfl ?_
  refine G.callS H101 (m6_nCopies V h87_ H101.old) (wd51 V) (wd52 V) (wd53 V) (wd54 V) (by decide) (argsL := [(.int (2 : Int32)), .null]) (rest := [(.ref a88), (.ref a88), (.ref p0)]) (W := 3) rfl rfl (lenOf (pd_4) rfl) rfl rfl D31_55 (pc' := 58) rfl (by decide) (by decide) (by decide) (by decide) all0 ?_
  intro T105 h105_ v106 s107 H105 Q108
  obtain ⟨a109, rfl, rfl, K110, g111, F112, F113, F114, F115⟩ := Q108
  have na109 : n0 ≤ a109 := Nat.le_trans H101.le g111
  show Go p e below _ (T105.setTop (mkF m 58 #[.val (.ref p0), .val (.ref p1), .val (.int x0)] [(.ref a109), (.ref a88), (.ref a88), (.ref p0)]))
  have F116 := (Exa.keep A90 K110)
  have F117 : Fld Z h87_ a88 "java/util/AbstractList" "modCount" "I" (.int (0 : Int32)) := D91 (Or.inl (wd88 V)) (ty := .int) (by decide)
  have F118 := (Fld.keep F117 K110 nin0)
  have F119 : Fld Z h87_ a88 "java/util/ArrayList" "size" "I" (.int (0 : Int32)) := D91 (Or.inl (wd101 V)) (ty := .int) (by decide)
  have F120 := (Fld.keep F119 K110 nin0)
  have F121 : Fld Z h87_ a88 "java/util/ArrayList" "elementData" "[Ljava/lang/Object;" .null := D91 (Or.inl (wd129 V)) (ty := (.array (.object "java/lang/Object"))) (by decide)
  have F122 := (Fld.keep F121 K110 nin0)
  refine G.callI H105 (m11_init V a88 a109 h105_ H105.old F116 F118 na88 F112 F114 F115 F120 F122) rfl (wd82 V) (wd83 V) (wd50 V) (wd84 V) (by decide) (a := a88) (argsL := [(.ref a109)]) (rest := [(.ref a88), (.ref p0)]) (W := 2) rfl rfl (lenOf (pd_8) rfl) rfl rfl D31_58 (pc' := 61) rfl (by decide) (by decide) (by decide) (by decide) all0 ?_
  intro T123 h123_ v124 s125 H123 Q126
  obtain ⟨a127, k128, rfl, rfl, K129, g130, U131, O132, F133, F134, F135, F136, F137, F138⟩ := Q126
  have na127 : n0 ≤ a127 := Nat.le_trans H105.le g130
  show Go p e below _ (T123.setTop (mkF m 61 #[.val (.ref p0), .val (.ref p1), .val (.int x0)] [(.ref a88), (.ref p0)]))
  have K139 : Keep h63_ h84_ [p0] := (Keep.wr (Keep.refl h63_ [p0]) W85 (Or.inl (List.mem_of_getElem? (i := 0) rfl)))
  have K140 : Keep h63_ h123_ [p0] := (Keep.trans (Keep.trans (Keep.ext (Keep.wr (Keep.refl h63_ [p0]) W85 (Or.inl (List.mem_of_getElem? (i := 0) rfl))) E89) K110 all0) K129 (allS (Or.inr (Nat.le_trans K139.1 (Nat.le_of_eq ga88.symm))) all0))
  have F141 := (Exa.keep F81 K140)
  have K142 : Keep h84_ h123_ [] := (Keep.trans (Keep.trans (Keep.ext (Keep.refl h84_ []) E89) K110 all0) K129 (allS (Or.inr (Nat.le_of_eq ga88.symm)) all0))
  have F143 := (Fld.keep (Fld.other W85 (Fld.keep (Fld.other W30 (Fld.ext E23 (Fld.other W9 (Fld.other W4 f10 (Or.inr (slot_ne (Or.inr (wd133 V)) (Or.inr (wd38 V)) (by decide) (t := (.object "java/util/List")) (t' := (.object "com/example/passenger_flow_sim/passengerflowsim/timetable/Trip")) (by decide) (by decide)))) (Or.inr (slot_ne (Or.inr (wd133 V)) (Or.inr (wd40 V)) (by decide) (t := (.object "java/util/List")) (t' := .int) (by decide) (by decide))))) (Or.inr (slot_ne (Or.inr (wd133 V)) (Or.inr (wd47 V)) (by decide) (t := (.object "java/util/List")) (t' := (.array .int)) (by decide) (by decide)))) K82 nin0) (Or.inr (slot_ne (Or.inr (wd133 V)) (Or.inr (wd131 V)) (by decide) (t := (.object "java/util/List")) (t' := (.object "java/util/List")) (by decide) (by decide)))) K142 nin0)
  refine G.putF H123 (wd132 V) Via.refl F143 F141 (Or.inr ⟨(wd133 V), rfl, rfl⟩) (wd31 V) (ty := (.object "java/util/List")) (by decide) rfl rfl g2 (Sf.exa F141) D31_61 (pc' := 64) rfl ?_
  intro T144 h144_ H144 W145
  have F146 : Fld Z h144_ p0 "com/example/passenger_flow_sim/passengerflowsim/simulation/Vehicle" "alighting" "Ljava/util/List;" (.ref a88) := Fld.same W145 F143
  have F147 := (Exa.wr W145 F141)
  have F148 := (Fld.other W145 (Fld.keep (Fld.other W85 (Fld.keep (Fld.other W30 (Fld.ext E23 (Fld.other W9 F5 (Or.inr (slot_ne (Or.inr (wd38 V)) (Or.inr (wd40 V)) (by decide) (t := (.object "com/example/passenger_flow_sim/passengerflowsim/timetable/Trip")) (t' := .int) (by decide) (by decide))))) (Or.inr (slot_ne (Or.inr (wd38 V)) (Or.inr (wd47 V)) (by decide) (t := (.object "com/example/passenger_flow_sim/passengerflowsim/timetable/Trip")) (t' := (.array .int)) (by decide) (by decide)))) K82 nin0) (Or.inr (slot_ne (Or.inr (wd38 V)) (Or.inr (wd131 V)) (by decide) (t := (.object "com/example/passenger_flow_sim/passengerflowsim/timetable/Trip")) (t' := (.object "java/util/List")) (by decide) (by decide)))) K142 nin0) (Or.inr (slot_ne (Or.inr (wd38 V)) (Or.inr (wd133 V)) (by decide) (t := (.object "com/example/passenger_flow_sim/passengerflowsim/timetable/Trip")) (t' := (.object "java/util/List")) (by decide) (by decide))))
  have F149 := (Fld.other W145 (Fld.keep (Fld.other W85 (Fld.keep (Fld.other W30 (Fld.ext E23 F10) (Or.inr (slot_ne (Or.inr (wd40 V)) (Or.inr (wd47 V)) (by decide) (t := .int) (t' := (.array .int)) (by decide) (by decide)))) K82 nin0) (Or.inr (slot_ne (Or.inr (wd40 V)) (Or.inr (wd131 V)) (by decide) (t := .int) (t' := (.object "java/util/List")) (by decide) (by decide)))) K142 nin0) (Or.inr (slot_ne (Or.inr (wd40 V)) (Or.inr (wd133 V)) (by decide) (t := .int) (t' := (.object "java/util/List")) (by decide) (by decide))))
  have F150 := (Fld.other W145 (Fld.keep (Fld.other W85 (Fld.keep F31 K82 nin0) (Or.inr (slot_ne (Or.inr (wd47 V)) (Or.inr (wd131 V)) (by decide) (t := (.array .int)) (t' := (.object "java/util/List")) (by decide) (by decide)))) K142 nin0) (Or.inr (slot_ne (Or.inr (wd47 V)) (Or.inr (wd133 V)) (by decide) (t := (.array .int)) (t' := (.object "java/util/List")) (by decide) (by decide))))
  have F151 := (Fld.other W145 (Fld.keep F86 K142 nin0) (Or.inr (slot_ne (Or.inr (wd131 V)) (Or.inr (wd133 V)) (by decide) (t := (.object "java/util/List")) (t' := (.object "java/util/List")) (by decide) (by decide))))
  have K152 : Keep h21_ h84_ [p0] := (Keep.wr (Keep.trans (Keep.trans (Keep.ext (Keep.wr (Keep.refl h21_ [p0]) W30 (Or.inl (List.mem_of_getElem? (i := 0) rfl))) E34) K50 all0) K69 (allS (Or.inr (Nat.le_trans K79.1 (Nat.le_of_eq ga33.symm))) all0)) W85 (Or.inl (List.mem_of_getElem? (i := 0) rfl)))
  have K153 : Keep h21_ h144_ [p0] := (Keep.wr (Keep.trans (Keep.trans (Keep.ext (Keep.wr (Keep.trans (Keep.trans (Keep.ext (Keep.wr (Keep.refl h21_ [p0]) W30 (Or.inl (List.mem_of_getElem? (i := 0) rfl))) E34) K50 all0) K69 (allS (Or.inr (Nat.le_trans K79.1 (Nat.le_of_eq ga33.symm))) all0)) W85 (Or.inl (List.mem_of_getElem? (i := 0) rfl))) E89) K110 all0) K129 (allS (Or.inr (Nat.le_trans K152.1 (Nat.le_of_eq ga88.symm))) all0)) W145 (Or.inl (List.mem_of_getElem? (i := 0) rfl)))
  have N154 : a22 ≠ p0 := (Ne.symm (Nat.ne_of_lt (Nat.lt_of_lt_of_le (Nat.lt_of_lt_of_le f0.lt K11.1) (Nat.le_of_eq ga22.symm))))
  have F155 := (Arv.keep A24 K153 (ninS N154 nin0))
  have F156 := (Exa.keep X26 K153)
  have K157 : Keep h87_ h144_ [a88, p0] := (Keep.wr (Keep.trans (Keep.trans (Keep.refl h87_ [a88, p0]) K110 all0) K129 (allS (Or.inl (List.mem_of_getElem? (i := 0) rfl)) all0)) W145 (Or.inl (List.mem_of_getElem? (i := 1) rfl)))
  have F158 := (Exa.keep F95 K157)
  have K159 : Keep h63_ h144_ [p0] := (Keep.wr (Keep.trans (Keep.trans (Keep.ext (Keep.wr (Keep.refl h63_ [p0]) W85 (Or.inl (List.mem_of_getElem? (i := 0) rfl))) E89) K110 all0) K129 (allS (Or.inr (Nat.le_trans K139.1 (Nat.le_of_eq ga88.symm))) all0)) W145 (Or.inl (List.mem_of_getElem? (i := 0) rfl)))
  have N160 : a33 ≠ p0 := Exa.ne F158 F147 (by decide)
  have F161 := (Fld.keep F74 K159 (ninS N160 nin0))
  have F162 := (Fld.keep F75 K159 (ninS N160 nin0))
  have F163 := (Fld.keep F76 K159 (ninS N160 nin0))
  have K164 : Keep h0 h45_ [p0] := (Keep.trans (Keep.ext (Keep.wr (Keep.ext (Keep.wr (Keep.wr (Keep.refl h0 [p0]) W4 (Or.inl (List.mem_of_getElem? (i := 0) rfl))) W9 (Or.inl (List.mem_of_getElem? (i := 0) rfl))) E23) W30 (Or.inl (List.mem_of_getElem? (i := 0) rfl))) E34) K50 all0)
  have N165 : a67 ≠ p0 := (Ne.symm (Nat.ne_of_lt (Nat.lt_of_lt_of_le (Nat.lt_of_lt_of_le f0.lt K164.1) g70)))
  have F166 := (Arv.keep F77 K159 (ninS N165 nin0))
  have F167 := (Exa.keep F78 K159)
  have F168 := (Exa.wr W145 F133)
  have N169 : a88 ≠ p0 := Exa.ne F168 F147 (by decide)
  have F170 := (Fld.other W145 F134 (Or.inl N169))
  have F171 := (Fld.other W145 F135 (Or.inl N169))
  have F172 := (Fld.other W145 F136 (Or.inl N169))
  have K173 : Keep h0 h105_ [p0] := (Keep.trans (Keep.ext (Keep.wr (Keep.trans (Keep.trans (Keep.ext (Keep.wr (Keep.ext (Keep.wr (Keep.wr (Keep.refl h0 [p0]) W4 (Or.inl (List.mem_of_getElem? (i := 0) rfl))) W9 (Or.inl (List.mem_of_getElem? (i := 0) rfl))) E23) W30 (Or.inl (List.mem_of_getElem? (i := 0) rfl))) E34) K50 all0) K69 (allS (Or.inr (Nat.le_trans K98.1 (Nat.le_of_eq ga33.symm))) all0)) W85 (Or.inl (List.mem_of_getElem? (i := 0) rfl))) E89) K110 all0)
  have N174 : a127 ≠ p0 := (Ne.symm (Nat.ne_of_lt (Nat.lt_of_lt_of_le (Nat.lt_of_lt_of_le f0.lt K173.1) g130)))
  have F175 := (Arv.other F137 W145 N174)
  have F176 := (Exa.wr W145 F138)
  have K177 : Keep h0 h84_ [p0] := (Keep.wr (Keep.trans (Keep.trans (Keep.ext (Keep.wr (Keep.ext (Keep.wr (Keep.wr (Keep.refl h0 [p0]) W4 (Or.inl (List.mem_of_getElem? (i := 0) rfl))) W9 (Or.inl (List.mem_of_getElem? (i := 0) rfl))) E23) W30 (Or.inl (List.mem_of_getElem? (i := 0) rfl))) E34) K50 all0) K69 (allS (Or.inr (Nat.le_trans K98.1 (Nat.le_of_eq ga33.symm))) all0)) W85 (Or.inl (List.mem_of_getElem? (i := 0) rfl)))
  have K178 : Keep h0 h144_ [p0] := (Keep.wr (Keep.trans (Keep.trans (Keep.ext (Keep.wr (Keep.trans (Keep.trans (Keep.ext (Keep.wr (Keep.ext (Keep.wr (Keep.wr (Keep.refl h0 [p0]) W4 (Or.inl (List.mem_of_getElem? (i := 0) rfl))) W9 (Or.inl (List.mem_of_getElem? (i := 0) rfl))) E23) W30 (Or.inl (List.mem_of_getElem? (i := 0) rfl))) E34) K50 all0) K69 (allS (Or.inr (Nat.le_trans K98.1 (Nat.le_of_eq ga33.symm))) all0)) W85 (Or.inl (List.mem_of_getElem? (i := 0) rfl))) E89) K110 all0) K129 (allS (Or.inr (Nat.le_trans K177.1 (Nat.le_of_eq ga88.symm))) all0)) W145 (Or.inl (List.mem_of_getElem? (i := 0) rfl)))
  have K179 : Keep h32_ h45_ [] := (Keep.trans (Keep.refl h32_ []) K50 all0)
  have K180 : Keep h87_ h105_ [] := (Keep.trans (Keep.refl h87_ []) K110 all0)
  exact G.retV H144 rfl D31_64 (so := []) all0 (by decide) (by decide) ⟨a22, a33, a67, a88, a127, k25, k68, k128, rfl, rfl, K178, (Nat.le_trans K11.1 (Nat.le_of_eq ga22.symm)), (Nat.lt_of_lt_of_le (Nat.lt_of_lt_of_le A24.lt K79.1) (Nat.le_of_eq ga33.symm)), (Nat.lt_of_lt_of_le (Nat.lt_of_lt_of_le A35.lt K179.1) g70), (Nat.lt_of_lt_of_le (Nat.lt_of_lt_of_le F77.lt K139.1) (Nat.le_of_eq ga88.symm)), (Nat.lt_of_lt_of_le (Nat.lt_of_lt_of_le A90.lt K180.1) g130), (fun O n d w F hn0 hn1 hn2 hn3 hn4 => (Fld.other W145 (Fld.keep (Fld.keep (Fld.ext E89 (Fld.other W85 (Fld.keep (Fld.keep (Fld.ext E34 (Fld.other W30 (Fld.ext E23 (Fld.other W9 (Fld.other W4 F (Or.inr hn0)) (Or.inr hn1))) (Or.inr hn2))) K50 nin0) K69 (ninS (Ne.symm N160) nin0)) (Or.inr hn3))) K110 nin0) K129 (ninS (Ne.symm N169) nin0)) (Or.inr hn4))), O72, O132, F147, F148, F149, F150, F151, F146, F155, F156, F158, F161, F162, F163, F166, F167, F168, F170, F171, F172, F175, F176⟩
set_option maxRecDepth 65536 in
set_option maxHeartbeats 40000000 in
theorem m13_checkIndex (V : Env1 Z a0 n0 uu0 uu1 uu2 uu3 uu4 uu5 uu6 uu7 uu8 uu9)  (h0 : Heap) (hO : Old Z n0 h0)  :
    Met Z a0 [] False n0 l (⟨"jdk/internal/util/Preconditions", "checkIndex", "(IILjava/util/function/BiFunction;)I"⟩ : MethodName) jdk_41_method_11_code 3 (Option.some FieldType.int) ({ frames := 0, cells := 0, slots := 0, locals := 0 } : Room) #[(.int (0 : Int32)), (.int (2 : Int32)), .null] h0 [] (fun v h so => (v = some (.int (0 : Int32)) ∧ so = [] ∧ h0 = h)) := by
  refine Met.of (EWl V) (by first | decide +kernel | rfl) hO (L0 := #[.val (.int (0 : Int32)), .val (.int (2 : Int32)), .val .null]) rfl ?_
  intro p e s m below meth c T H
  show Go p e below _ (T.setTop (mkF m 0 #[.val (.int (0 : Int32)), .val (.int (2 : Int32)), .val .null] []))
  refine G.iloadN H D17_0 (pc' := 1) rfl rfl ?_
  refine G.ifNo H D17_1 (pc' := 4) rfl (by decide) ?_
  refine G.iloadN H D17_4 (pc' := 5) rfl rfl ?_
  refine G.iloadN H D17_5 (pc' := 6) rfl rfl ?_
  refine G.icmpYes H D17_6 (by decide) (by decide) (pc' := 16) rfl ?_
  refine G.iloadN H D17_16 (pc' := 17) rfl rfl ?_
  exact G.retI H rfl D17_17 (so := []) all0 (by decide) (by decide) ⟨rfl, rfl, rfl⟩
set_option maxRecDepth 65536 in
set_option maxHeartbeats 40000000 in
theorem m14_checkIndex (V : Env1 Z a0 n0 uu0 uu1 uu2 uu3 uu4 uu5 uu6 uu7 uu8 uu9)  (h0 : Heap) (hO : Old Z n0 h0)  :
    Met Z a0 [] False n0 l (⟨"java/util/Objects", "checkIndex", "(II)I"⟩ : MethodName) jdk_31_method_17_code 2 (Option.some FieldType.int) ({ frames := 1, cells := 0, slots := 0, locals := 14 } : Room) #[(.int (0 : Int32)), (.int (2 : Int32))] h0 [] (fun v h so => (v = some (.int (0 : Int32)) ∧ so = [] ∧ h0 = h)) := by
  refine Met.of (EWl V) (by first | decide +kernel | rfl) hO (L0 := #[.val (.int (0 : Int32)), .val (.int (2 : Int32))]) rfl ?_
  intro p e s m below meth c T H
  show Go p e below _ (T.setTop (mkF m 0 #[.val (.int (0 : Int32)), .val (.int (2 : Int32))] []))
  refine G.iloadN H D5_0 (pc' := 1) rfl rfl ?_
  refine G.iloadN H D5_1 (pc' := 2) rfl rfl ?_
  refine G.aconstNull H D5_2 (pc' := 3) rfl ?_
  refine G.callS H (m13_checkIndex V h0 H.old) (wd157 V) (wd158 V) (wd159 V) (wd160 V) (by decide) (argsL := [(.int (0 : Int32)), (.int (2 : Int32)), .null]) (rest := []) (W := 0) rfl rfl (lenOf (pd_10) rfl) rfl rfl D5_3 (pc' := 6) rfl (by decide) (by decide) (by decide) (by decide) all0 ?_
  intro T1 h1_ v2 s3 H1 Q4
  obtain ⟨rfl, rfl, rfl⟩ := Q4
  show Go p e below _ (T1.setTop (mkF m 6 #[.val (.int (0 : Int32)), .val (.int (2 : Int32))] [(.int (0 : Int32))]))
  exact G.retI H1 rfl D5_6 (so := []) all0 (by decide) (by decide) ⟨rfl, rfl, rfl⟩
set_option maxRecDepth 65536 in
set_option maxHeartbeats 40000000 in
theorem m15_elementData (V : Env1 Z a0 n0 uu0 uu1 uu2 uu3 uu4 uu5 uu6 uu7 uu8 uu9) (p0 : Addr) (p1 : Addr) (c0 : ClassId) (h0 : Heap) (hO : Old Z n0 h0) (f0 : Fld Z h0 p0 "java/util/ArrayList" "elementData" "[Ljava/lang/Object;" (.ref p1)) (f1 : Arv Z h0 p1 c0 (.object "java/lang/Object") (2 : Int32) [.null, .null] .null) :
    Met Z a0 [] False n0 l (⟨"java/util/ArrayList", "elementData", "(I)Ljava/lang/Object;"⟩ : MethodName) jdk_38_method_18_code 2 (Option.some (FieldType.object "java/lang/Object")) ({ frames := 0, cells := 0, slots := 0, locals := 0 } : Room) #[(.ref p0), (.int (0 : Int32))] h0 [] (fun v h so => (v = some .null ∧ so = [] ∧ h0 = h)) := by
  refine Met.of (EWl V) (by first | decide +kernel | rfl) hO (L0 := #[.val (.ref p0), .val (.int (0 : Int32))]) rfl ?_
  intro p e s m below meth c T H
  show Go p e below _ (T.setTop (mkF m 0 #[.val (.ref p0), .val (.int (0 : Int32))] []))
  refine G.aloadN H D6_0 (pc' := 1) rfl rfl rfl ?_
  refine G.getF H (wd128 V) Via.refl f0 D6_1 (pc' := 4) rfl ?_
  intro T1 H2
  refine G.iloadN H2 D6_4 (pc' := 5) rfl rfl ?_
  refine G.aaloadG H2 f1 rfl (j := (0 : Int32)) (v := .null) (by decide) rfl D6_5 (pc' := 6) rfl ?_
  exact G.retA H2 (t := (.object "java/lang/Object")) rfl rfl rfl D6_6 (so := []) all0 (by decide) (by decide) ⟨rfl, rfl, rfl⟩
set_option maxRecDepth 65536 in
set_option maxHeartbeats 40000000 in
theorem m16_get (V : Env1 Z a0 n0 uu0 uu1 uu2 uu3 uu4 uu5 uu6 uu7 uu8 uu9) (p0 : Addr) (p1 : Addr) (c0 : ClassId) (h0 : Heap) (hO : Old Z n0 h0) (f0 : Fld Z h0 p0 "java/util/ArrayList" "size" "I" (.int (2 : Int32))) (f1 : Exa Z h0 p0 "java/util/ArrayList") (f2 : Fld Z h0 p0 "java/util/ArrayList" "elementData" "[Ljava/lang/Object;" (.ref p1)) (f3 : Arv Z h0 p1 c0 (.object "java/lang/Object") (2 : Int32) [.null, .null] .null) :
    Met Z a0 [] False n0 l (⟨"java/util/ArrayList", "get", "(I)Ljava/lang/Object;"⟩ : MethodName) jdk_38_method_20_code 2 (Option.some (FieldType.object "java/lang/Object")) ({ frames := 2, cells := 0, slots := 0, locals := 27 } : Room) #[(.ref p0), (.int (0 : Int32))] h0 [] (fun v h so => (v = some .null ∧ so = [] ∧ h0 = h)) := by
  refine Met.of (EWl V) (by first | decide +kernel | rfl) hO (L0 := #[.val (.ref p0), .val (.int (0 : Int32))]) rfl ?_
  intro p e s m below meth c T H
  show Go p e below _ (T.setTop (mkF m 0 #[.val (.ref p0), .val (.int (0 : Int32))] []))
  refine G.iloadN H D7_0 (pc' := 1) rfl rfl ?_
  refine G.aloadN H D7_1 (pc' := 2) rfl rfl rfl ?_
  refine G.getF H (wd100 V) Via.refl f0 D7_2 (pc' := 5) rfl ?_
  intro T1 H2
  refine G.callS H2 (m14_checkIndex V h0 H2.old) (wd153 V) (wd154 V) (wd155 V) (wd156 V) (by decide) (argsL := [(.int (0 : Int32)), (.int (2 : Int32))]) (rest := []) (W := 0) rfl rfl (lenOf (pd_6) rfl) rfl rfl D7_5 (pc' := 8) rfl (by decide) (by decide) (by decide) (by decide) all0 ?_
  intro T3 h3_ v4 s5 H3 Q6
  obtain ⟨rfl, rfl, rfl⟩ := Q6
  show Go p e below _ (T3.setTop (mkF m 8 #[.val (.ref p0), .val (.int (0 : Int32))] [(.int (0 : Int32))]))
  refine G.pop H3 D7_8 (pc' := 9) rfl rfl ?_
  refine G.aloadN H3 D7_9 (pc' := 10) rfl rfl rfl ?_
  refine G.iloadN H3 D7_10 (pc' := 11) rfl rfl ?_
  refine G.callV H3 (m15_elementData V p0 p1 c0 h0 H3.old f2 f3) (wd161 V) (wd162 V) (nf_sel (wd164 V)) (wd164 V) (wd163 V) (wd50 V) (wd165 V) (by decide) f1 (argsL := [(.int (0 : Int32))]) (rest := []) (W := 0) rfl rfl (lenOf (pd_11) rfl) rfl rfl D7_11 (pc' := 14) rfl (by decide) (by decide) (by decide) (by decide) all0 ?_
  intro T7 h7_ v8 s9 H7 Q10
  obtain ⟨rfl, rfl, rfl⟩ := Q10
  show Go p e below _ (T7.setTop (mkF m 14 #[.val (.ref p0), .val (.int (0 : Int32))] [.null]))
  exact G.retA H7 (t := (.object "java/lang/Object")) rfl rfl rfl D7_14 (so := []) all0 (by decide) (by decide) ⟨rfl, rfl, rfl⟩
set_option maxRecDepth 65536 in
set_option maxHeartbeats 40000000 in
theorem m17_set (V : Env1 Z a0 n0 uu0 uu1 uu2 uu3 uu4 uu5 uu6 uu7 uu8 uu9) (p0 : Addr) (p1 : Addr) (c0 : ClassId) (h0 : Heap) (hO : Old Z n0 h0) (f0 : Fld Z h0 p0 "java/util/ArrayList" "size" "I" (.int (2 : Int32))) (f1 : Exa Z h0 p0 "java/util/ArrayList") (f2 : Fld Z h0 p0 "java/util/ArrayList" "elementData" "[Ljava/lang/Object;" (.ref p1)) (f3 : Arv Z h0 p1 c0 (.object "java/lang/Object") (2 : Int32) [.null, .null] .null) (g4 : n0 ≤ p1) :
    Met Z a0 [] False n0 l (⟨"java/util/ArrayList", "set", "(ILjava/lang/Object;)Ljava/lang/Object;"⟩ : MethodName) jdk_38_method_23_code 4 (Option.some (FieldType.object "java/lang/Object")) ({ frames := 2, cells := 0, slots := 0, locals := 27 } : Room) #[(.ref p0), (.int (0 : Int32)), .null] h0 [] (fun v h so => (v = some .null ∧ so = [] ∧ Keep h0 h [p1] ∧ Arv Z h p1 c0 (.object "java/lang/Object") (2 : Int32) [.null, .null] .null)) := by
  refine Met.of (EWl V) (by first | decide +kernel | rfl) hO (L0 := #[.val (.ref p0), .val (.int (0 : Int32)), .val .null, .unset]) rfl ?_
  intro p e s m below meth c T H
  show Go p e below _ (T.setTop (mkF m 0 #[.val (.ref p0), .val (.int (0 : Int32)), .val .null, .unset] []))
  refine G.iloadN H D8_0 (pc' := 1) rfl rfl ?_
  refine G.aloadN H D8_1 (pc' := 2) rfl rfl rfl ?_
  refine G.getF H (wd100 V) Via.refl f0 D8_2 (pc' := 5) rfl ?_
  intro T1 H2
  refine G.callS H2 (m14_checkIndex V h0 H2.old) (wd153 V) (wd154 V) (wd155 V) (wd156 V) (by decide) (argsL := [(.int (0 : Int32)), (.int (2 : Int32))]) (rest := []) (W := 0) rfl rfl (lenOf (pd_6) rfl) rfl rfl D8_5 (pc' := 8) rfl (by decide) (by decide) (by decide) (by decide) all0 ?_
  intro T3 h3_ v4 s5 H3 Q6
  obtain ⟨rfl, rfl, rfl⟩ := Q6
  show Go p e below _ (T3.setTop (mkF m 8 #[.val (.ref p0), .val (.int (0 : Int32)), .val .null, .unset] [(.int (0 : Int32))]))
  refine G.pop H3 D8_8 (pc' := 9) rfl rfl ?_
  refine G.aloadN H3 D8_9 (pc' := 10) rfl rfl rfl ?_
  refine G.iloadN H3 D8_10 (pc' := 11) rfl rfl ?_
  refine G.callV H3 (m15_elementData V p0 p1 c0 h0 H3.old f2 f3) (wd161 V) (wd162 V) (nf_sel (wd164 V)) (wd164 V) (wd163 V) (wd50 V) (wd165 V) (by decide) f1 (argsL := [(.int (0 : Int32))]) (rest := []) (W := 0) rfl rfl (lenOf (pd_11) rfl) rfl rfl D8_11 (pc' := 14) rfl (by decide) (by decide) (by decide) (by decide) all0 ?_
  intro T7 h7_ v8 s9 H7 Q10
  obtain ⟨rfl, rfl, rfl⟩ := Q10
  show Go p e below _ (T7.setTop (mkF m 14 #[.val (.ref p0), .val (.int (0 : Int32)), .val .null, .unset] [.null]))
  refine G.astoreN H7 (L' := #[.val (.ref p0), .val (.int (0 : Int32)), .val .null, .val .null]) D8_14 (pc' := 15) rfl rfl rfl ?_
  refine G.aloadN H7 D8_15 (pc' := 16) rfl rfl rfl ?_
  refine G.getF H7 (wd128 V) Via.refl f2 D8_16 (pc' := 19) rfl ?_
  intro T11 H12
  refine G.iloadN H12 D8_19 (pc' := 20) rfl rfl ?_
  refine G.aloadN H12 D8_20 (pc' := 21) rfl rfl rfl ?_
  refine G.stR H12 f3 rfl (Or.inl rfl) rfl (by decide) (i := 0) rfl (Nat.le_of_ble_eq_true rfl) g4 D8_21 (pc' := 22) rfl ?_
  intro T13 h13_ H13 W14 A15
  replace A15 : Arv Z h13_ p1 c0 (.object "java/lang/Object") (2 : Int32) [.null, .null] .null := A15
  refine G.aloadN H13 D8_22 (pc' := 23) rfl rfl rfl ?_
  have K16 : Keep h0 h13_ [p1] := (Keep.wr (Keep.refl h0 [p1]) W14 (Or.inl (List.mem_of_getElem? (i := 0) rfl)))
  exact G.retA H13 (t := (.object "java/lang/Object")) rfl rfl rfl D8_23 (so := []) all0 (by decide) (by decide) ⟨rfl, rfl, K16, A15⟩
set_option maxRecDepth 65536 in
set_option maxHeartbeats 40000000 in
theorem m18_of (V : Env1 Z a0 n0 uu0 uu1 uu2 uu3 uu4 uu5 uu6 uu7 uu8 uu9)  (h0 : Heap) (hO : Old Z n0 h0)  :
    Met Z a0 [] False n0 l (⟨"java/util/List", "of", "()Ljava/util/List;"⟩ : MethodName) jdk_40_method_36_code 0 (Option.some (FieldType.object "java/util/List")) ({ frames := 0, cells := 0, slots := 0, locals := 0 } : Room) #[] h0 [] (fun v h so => (v = some (.ref uu1) ∧ so = [] ∧ h0 = h)) := by
  refine Met.of (EWl V) (by first | decide +kernel | rfl) hO (L0 := #[]) rfl ?_
  intro p e s m below meth c T H
  show Go p e below _ (T.setTop (mkF m 0 #[] []))
  refine G.getS H (wd178 V) Via.refl (Sta.ext H.old.2 (hv2 V)) D16_0 (pc' := 3) rfl ?_
  intro T1 H2
  exact G.retA H2 (t := (.object "java/util/List")) rfl rfl rfl D16_3 (so := []) all0 (by decide) (by decide) ⟨rfl, rfl, rfl⟩
set_option maxRecDepth 65536 in
set_option maxHeartbeats 40000000 in
theorem m19_take (V : Env1 Z a0 n0 uu0 uu1 uu2 uu3 uu4 uu5 uu6 uu7 uu8 uu9) (p0 : Addr) (p1 : Addr) (c0 : ClassId) (h0 : Heap) (hO : Old Z n0 h0) (f0 : Exa Z h0 p0 "java/util/ArrayList") (f1 : Fld Z h0 p0 "java/util/ArrayList" "size" "I" (.int (2 : Int32))) (f2 : Fld Z h0 p0 "java/util/ArrayList" "elementData" "[Ljava/lang/Object;" (.ref p1)) (f3 : Arv Z h0 p1 c0 (.object "java/lang/Object") (2 : Int32) [.null, .null] .null) (g4 : n0 ≤ p1) :
    Met Z a0 [] False n0 l (⟨"com/example/passenger_flow_sim/passengerflowsim/simulation/Vehicle", "take", "(Ljava/util/List;I)Ljava/util/List;"⟩ : MethodName) prog_32_method_16_code 3 (Option.some (FieldType.object "java/util/List")) ({ frames := 3, cells := 0, slots := 0, locals := 42 } : Room) #[(.ref p0), (.int (0 : Int32))] h0 [] (fun v h so => (v = some (.ref uu1) ∧ so = [] ∧ Keep h0 h [p1] ∧ Arv Z h p1 c0 (.object "java/lang/Object") (2 : Int32) [.null, .null] .null)) := by
  refine Met.of (EWl V) (by first | decide +kernel | rfl) hO (L0 := #[.val (.ref p0), .val (.int (0 : Int32)), .unset]) rfl ?_
  intro p e s m below meth c T H
  show Go p e below _ (T.setTop (mkF m 0 #[.val (.ref p0), .val (.int (0 : Int32)), .unset] []))
  refine G.aloadN H D30_0 (pc' := 1) rfl rfl rfl ?_
  refine G.iloadN H D30_1 (pc' := 2) rfl rfl ?_
  refine G.callF H (m16_get V p0 p1 c0 h0 H.old f1 f0 f2 f3) (wd144 V) (wd145 V) (fun s2 aa hZ => Jvm.Free.ULB.iface_rides (U := s2) hZ.alike (wd146 V)) (wd147 V) (wd148 V) (wd149 V) (wd150 V) (wd151 V) (wd50 V) (wd152 V) (by decide) f0 (argsL := [(.int (0 : Int32))]) (rest := []) (W := 0) rfl rfl (lenOf (pd_11) rfl) rfl rfl D30_2 (pc' := 7) rfl (by decide) (by decide) (by decide) (by decide) all0 ?_
  intro T1 h1_ v2 s3 H1 Q4
  obtain ⟨rfl, rfl, rfl⟩ := Q4
  show Go p e below _ (T1.setTop (mkF m 7 #[.val (.ref p0), .val (.int (0 : Int32)), .unset] [.null]))
  refine G.castN H1 D30_7 (pc' := 10) rfl ?_
  refine G.astoreN H1 (L' := #[.val (.ref p0), .val (.int (0 : Int32)), .val .null]) D30_10 (pc' := 11) rfl rfl rfl ?_
  refine G.aloadN H1 D30_11 (pc' := 12) rfl rfl rfl ?_
  refine G.iloadN H1 D30_12 (pc' := 13) rfl rfl ?_
  refine G.aconstNull H1 D30_13 (pc' := 14) rfl ?_
  refine G.callF H1 (m17_set V p0 p1 c0 h0 H1.old f1 f0 f2 f3 g4) (wd166 V) (wd167 V) (fun s2 aa hZ => Jvm.Free.ULB.iface_rides (U := s2) hZ.alike (wd168 V)) (wd169 V) (wd170 V) (wd171 V) (wd172 V) (wd151 V) (wd50 V) (wd173 V) (by decide) f0 (argsL := [(.int (0 : Int32)), .null]) (rest := []) (W := 0) rfl rfl (lenOf (pd_12) rfl) rfl rfl D30_14 (pc' := 19) rfl (by decide) (by decide) (by decide) (by decide) all0 ?_
  intro T5 h5_ v6 s7 H5 Q8
  obtain ⟨rfl, rfl, K9, F10⟩ := Q8
  show Go p e below _ (T5.setTop (mkF m 19 #[.val (.ref p0), .val (.int (0 : Int32)), .val .null] [.null]))
  refine G.pop H5 D30_19 (pc' := 20) rfl rfl ?_
  refine G.aloadN H5 D30_20 (pc' := 21) rfl rfl rfl ?_
  refine G.ifnonnullNo H5 D30_21 (pc' := 24) rfl ?_
  refine G.callS H5 (m18_of V h5_ H5.old) (wd174 V) (wd175 V) (wd176 V) (wd177 V) (by decide) (argsL := []) (rest := []) (W := 0) rfl rfl (lenOf (pd_13) rfl) rfl rfl D30_24 (pc' := 27) rfl (by decide) (by decide) (by decide) (by decide) all0 ?_
  intro T11 h11_ v12 s13 H11 Q14
  obtain ⟨rfl, rfl, rfl⟩ := Q14
  show Go p e below _ (T11.setTop (mkF m 27 #[.val (.ref p0), .val (.int (0 : Int32)), .val .null] [(.ref uu1)]))
  refine G.goto H11 D30_27 (by decide) (pc' := 31) rfl ?_
  have K15 : Keep h0 h5_ [p1] := (Keep.trans (Keep.refl h0 [p1]) K9 (allS (Or.inl (List.mem_of_getElem? (i := 0) rfl)) all0))
  exact G.retA H11 (t := (.object "java/util/List")) rfl rfl rfl D30_31 (so := []) all0 (by decide) (by decide) ⟨rfl, rfl, K15, F10⟩
set_option maxRecDepth 65536 in
set_option maxHeartbeats 40000000 in
theorem m20_size (V : Env1 Z a0 n0 uu0 uu1 uu2 uu3 uu4 uu5 uu6 uu7 uu8 uu9)  (h0 : Heap) (hO : Old Z n0 h0)  :
    Met Z a0 [] False n0 l (⟨"java/util/ImmutableCollections$ListN", "size", "()I"⟩ : MethodName) jdk_45_method_3_code 1 (Option.some FieldType.int) ({ frames := 0, cells := 0, slots := 0, locals := 0 } : Room) #[(.ref uu1)] h0 [] (fun v h so => (v = some (.int (0 : Int32)) ∧ so = [] ∧ h0 = h)) := by
  refine Met.of (EWl V) (by first | decide +kernel | rfl) hO (L0 := #[.val (.ref uu1)]) rfl ?_
  intro p e s m below meth c T H
  show Go p e below _ (T.setTop (mkF m 0 #[.val (.ref uu1)] []))
  refine G.aloadN H D18_0 (pc' := 1) rfl rfl rfl ?_
  have B1 := Fld.ext H.old.2 (hv6 V)
  refine G.getF H (wd192 V) Via.refl B1 D18_1 (pc' := 4) rfl ?_
  intro T2 H3
  have B4 := Arv.ext (hv10 V) H3.old.2
  refine G.arrlen H3 B4 D18_4 (pc' := 5) rfl ?_
  exact G.retI H3 rfl D18_5 (so := []) all0 (by decide) (by decide) ⟨rfl, rfl, rfl⟩
set_option maxRecDepth 65536 in
set_option maxHeartbeats 40000000 in
theorem m21_arrive (V : Env1 Z a0 n0 uu0 uu1 uu2 uu3 uu4 uu5 uu6 uu7 uu8 uu9) (p0 : Addr) (p1 : Addr) (p2 : Addr) (c0 : ClassId) (h0 : Heap) (hO : Old Z n0 h0) (f0 : Fld Z h0 p0 "com/example/passenger_flow_sim/passengerflowsim/simulation/Vehicle" "alighting" "Ljava/util/List;" (.ref p1)) (f1 : Fld Z h0 p0 "com/example/passenger_flow_sim/passengerflowsim/simulation/Vehicle" "step" "I" (.int (0 : Int32))) (f2 : Exa Z h0 p1 "java/util/ArrayList") (f3 : Fld Z h0 p1 "java/util/ArrayList" "size" "I" (.int (2 : Int32))) (f4 : Fld Z h0 p1 "java/util/ArrayList" "elementData" "[Ljava/lang/Object;" (.ref p2)) (f5 : Arv Z h0 p2 c0 (.object "java/lang/Object") (2 : Int32) [.null, .null] .null) (g6 : n0 ≤ p2) (f7 : Fld Z h0 p0 "com/example/passenger_flow_sim/passengerflowsim/simulation/Vehicle" "load" "I" (.int (0 : Int32))) (q8 : p0 ≠ p2) (f9 : Exa Z h0 p0 "com/example/passenger_flow_sim/passengerflowsim/simulation/Vehicle") (g10 : n0 ≤ p0) :
    Met Z a0 [] False n0 l (⟨"com/example/passenger_flow_sim/passengerflowsim/simulation/Vehicle", "arrive", "()Ljava/util/List;"⟩ : MethodName) prog_32_method_10_code 2 (Option.some (FieldType.object "java/util/List")) ({ frames := 4, cells := 0, slots := 0, locals := 56 } : Room) #[(.ref p0)] h0 [] (fun v h so => (v = some (.ref uu1) ∧ so = [] ∧ Keep h0 h [p2, p0] ∧ (∀ (O n d : String) (w : Value), Fld Z h0 p0 O n d w → RoadKit.slotOf Z O n d ≠ RoadKit.slotOf Z "com/example/passenger_flow_sim/passengerflowsim/simulation/Vehicle" "load" "I" → RoadKit.slotOf Z O n d ≠ RoadKit.slotOf Z "com/example/passenger_flow_sim/passengerflowsim/simulation/Vehicle" "step" "I" → Fld Z h p0 O n d w) ∧ Arv Z h p2 c0 (.object "java/lang/Object") (2 : Int32) [.null, .null] .null ∧ Fld Z h p0 "com/example/passenger_flow_sim/passengerflowsim/simulation/Vehicle" "alighting" "Ljava/util/List;" (.ref p1) ∧ Fld Z h p0 "com/example/passenger_flow_sim/passengerflowsim/simulation/Vehicle" "step" "I" (.int (1 : Int32)) ∧ Fld Z h p0 "com/example/passenger_flow_sim/passengerflowsim/simulation/Vehicle" "load" "I" (.int (0 : Int32)) ∧ Exa Z h p0 "com/example/passenger_flow_sim/passengerflowsim/simulation/Vehicle")) := by
  refine Met.of (EWl V) (by first | decide +kernel | rfl) hO (L0 := #[.val (.ref p0), .unset]) rfl ?_
  intro p e s m below meth c T H
  show Go p e below _ (T.setTop (mkF m 0 #[.val (.ref p0), .unset] []))
  refine G.aloadN H D25_0 (pc' := 1) rfl rfl rfl ?_
  refine G.getF H (wd132 V) Via.refl f0 D25_1 (pc' := 4) rfl ?_
  intro T1 H2
  refine G.aloadN H2 D25_4 (pc' := 5) rfl rfl rfl ?_
  refine G.getF H2 (wd139 V) Via.refl f1 D25_5 (pc' := 8) rfl ?_
  intro T3 H4
  refine G.iconst H4 D25_8 (pc' := 9) rfl (v := (2 : Int32)) rfl ?_
  refine G.idiv H4 D25_9 (pc' := 10) rfl (by decide) ?_
  show Go p e below _ (T3.setTop (mkF m 10 #[.val (.ref p0), .unset] [(.int (0 : Int32)), (.ref p1)]))
  refine G.callS H4 (m19_take V p1 p2 c0 h0 H4.old f2 f3 f4 f5 g6) (wd141 V) (wd142 V) (wd32 V) (wd143 V) (by decide) (argsL := [(.ref p1), (.int (0 : Int32))]) (rest := []) (W := 0) rfl rfl (lenOf (pd_14) rfl) rfl rfl D25_10 (pc' := 13) rfl (by decide) (by decide) (by decide) (by decide) all0 ?_
  intro T5 h5_ v6 s7 H5 Q8
  obtain ⟨rfl, rfl, K9, F10⟩ := Q8
  show Go p e below _ (T5.setTop (mkF m 13 #[.val (.ref p0), .unset] [(.ref uu1)]))
  refine G.astoreN H5 (L' := #[.val (.ref p0), .val (.ref uu1)]) D25_13 (pc' := 14) rfl rfl rfl ?_
  refine G.aloadN H5 D25_14 (pc' := 15) rfl rfl rfl ?_
  refine G.dup H5 D25_15 (pc' := 16) rfl rfl ?_
  have F11 := (Fld.keep f7 K9 (ninS q8 nin0))
  refine G.getF H5 (wd180 V) Via.refl F11 D25_16 (pc' := 19) rfl ?_
  intro T12 H13
  refine G.aloadN H13 D25_19 (pc' := 20) rfl rfl rfl ?_
  have B14 := Exa.ext H13.old.2 (hv3 V)
  refine G.callF H13 (m20_size V h5_ H13.old) (wd182 V) (wd183 V) (fun s2 aa hZ => Jvm.Free.ULB.iface_rides (U := s2) hZ.alike (wd184 V)) (wd185 V) (wd186 V) (wd187 V) (wd188 V) (wd189 V) (wd190 V) (wd191 V) (by decide) B14 (argsL := []) (rest := [(.int (0 : Int32)), (.ref p0)]) (W := 2) rfl rfl (lenOf (pd_1) rfl) rfl rfl D25_20 (pc' := 25) rfl (by decide) (by decide) (by decide) (by decide) all0 ?_
  intro T15 h15_ v16 s17 H15 Q18
  obtain ⟨rfl, rfl, rfl⟩ := Q18
  show Go p e below _ (T15.setTop (mkF m 25 #[.val (.ref p0), .val (.ref uu1)] [(.int (0 : Int32)), (.int (0 : Int32)), (.ref p0)]))
  refine G.isub H15 D25_25 (pc' := 26) rfl ?_
  show Go p e below _ (T15.setTop (mkF m 26 #[.val (.ref p0), .val (.ref uu1)] [(.int (0 : Int32)), (.ref p0)]))
  have F19 := (Exa.keep f9 K9)
  refine G.putF H15 (wd180 V) Via.refl F11 F19 (Or.inl (wd181 V)) (wd31 V) (ty := .int) (by decide) rfl rfl g10 (Sf.exa F19) D25_26 (pc' := 29) rfl ?_
  intro T20 h20_ H20 W21
  have F22 : Fld Z h20_ p0 "com/example/passenger_flow_sim/passengerflowsim/simulation/Vehicle" "load" "I" (.int (0 : Int32)) := Fld.same W21 F11
  refine G.aloadN H20 D25_29 (pc' := 30) rfl rfl rfl ?_
  refine G.dup H20 D25_30 (pc' := 31) rfl rfl ?_
  have F23 := (Fld.other W21 (Fld.keep f1 K9 (ninS q8 nin0)) (Or.inr (slot_ne (Or.inl (wd140 V)) (Or.inl (wd181 V)) (by decide) (t := .int) (t' := .int) (by decide) (by decide))))
  refine G.getF H20 (wd139 V) Via.refl F23 D25_31 (pc' := 34) rfl ?_
  intro T24 H25
  refine G.iconst H25 D25_34 (pc' := 35) rfl (v := (1 : Int32)) rfl ?_
  refine G.iadd H25 D25_35 (pc' := 36) rfl ?_
  show Go p e below _ (T24.setTop (mkF m 36 #[.val (.ref p0), .val (.ref uu1)] [(.int (1 : Int32)), (.ref p0)]))
  have F26 := (Exa.wr W21 F19)
  refine G.putF H25 (wd139 V) Via.refl F23 F26 (Or.inl (wd140 V)) (wd31 V) (ty := .int) (by decide) rfl rfl g10 (Sf.exa F26) D25_36 (pc' := 39) rfl ?_
  intro T27 h27_ H27 W28
  have F29 : Fld Z h27_ p0 "com/example/passenger_flow_sim/passengerflowsim/simulation/Vehicle" "step" "I" (.int (1 : Int32)) := Fld.same W28 F23
  refine G.aloadN H27 D25_39 (pc' := 40) rfl rfl rfl ?_
  have K30 : Keep h5_ h27_ [p0] := (Keep.wr (Keep.wr (Keep.refl h5_ [p0]) W21 (Or.inl (List.mem_of_getElem? (i := 0) rfl))) W28 (Or.inl (List.mem_of_getElem? (i := 0) rfl)))
  have F31 := (Arv.keep F10 K30 (ninS (Ne.symm q8) nin0))
  have F32 := (Fld.other W28 (Fld.other W21 (Fld.keep f0 K9 (ninS q8 nin0)) (Or.inr (slot_ne (Or.inr (wd133 V)) (Or.inl (wd181 V)) (by decide) (t := (.object "java/util/List")) (t' := .int) (by decide) (by decide)))) (Or.inr (slot_ne (Or.inr (wd133 V)) (Or.inl (wd140 V)) (by decide) (t := (.object "java/util/List")) (t' := .int) (by decide) (by decide))))
  have F33 := (Fld.other W28 F22 (Or.inr (slot_ne (Or.inl (wd181 V)) (Or.inl (wd140 V)) (by decide) (t := .int) (t' := .int) (by decide) (by decide))))
  have F34 := (Exa.wr W28 F26)
  have K35 : Keep h0 h27_ [p2, p0] := (Keep.wr (Keep.wr (Keep.trans (Keep.refl h0 [p2, p0]) K9 (allS (Or.inl (List.mem_of_getElem? (i := 0) rfl)) all0)) W21 (Or.inl (List.mem_of_getElem? (i := 1) rfl))) W28 (Or.inl (List.mem_of_getElem? (i := 1) rfl)))
  exact G.retA H27 (t := (.object "java/util/List")) rfl rfl rfl D25_40 (so := []) all0 (by decide) (by decide) ⟨rfl, rfl, K35, (fun O n d w F hn0 hn1 => (Fld.other W28 (Fld.other W21 (Fld.keep F K9 (ninS q8 nin0)) (Or.inr hn0)) (Or.inr hn1))), F31, F32, F29, F33, F34⟩
set_option maxRecDepth 65536 in
set_option maxHeartbeats 40000000 in
theorem m22_boardSome (V : Env1 Z a0 n0 uu0 uu1 uu2 uu3 uu4 uu5 uu6 uu7 uu8 uu9) (p0 : Addr) (h0 : Heap) (hO : Old Z n0 h0)  :
    Met Z a0 [] False n0 l (⟨"com/example/passenger_flow_sim/passengerflowsim/simulation/VehicleLeavePinLaw", "boardSome", "(Lcom/example/passenger_flow_sim/passengerflowsim/simulation/Vehicle;I)V"⟩ : MethodName) method_3_code 2 (Option.none : Option FieldType) ({ frames := 0, cells := 0, slots := 0, locals := 0 } : Room) #[(.ref p0), (.int (0 : Int32))] h0 [] (fun v h so => (v = none ∧ so = [] ∧ h0 = h)) := by
  refine Met.of (EWl V) (by first | decide +kernel | rfl) hO (L0 := #[.val (.ref p0), .val (.int (0 : Int32))]) rfl ?_
  intro p e s m below meth c T H
  show Go p e below _ (T.setTop (mkF m 0 #[.val (.ref p0), .val (.int (0 : Int32))] []))
  refine G.iloadN H D21_0 (pc' := 1) rfl rfl ?_
  refine G.iconst H D21_1 (pc' := 2) rfl (v := (1 : Int32)) rfl ?_
  refine G.icmpYes H D21_2 (by decide) (by decide) (pc' := 11) rfl ?_
  refine G.iloadN H D21_11 (pc' := 12) rfl rfl ?_
  refine G.iconst H D21_12 (pc' := 13) rfl (v := (2 : Int32)) rfl ?_
  refine G.icmpYes H D21_13 (by decide) (by decide) (pc' := 22) rfl ?_
  refine G.iloadN H D21_22 (pc' := 23) rfl rfl ?_
  refine G.iconst H D21_23 (pc' := 24) rfl (v := (3 : Int32)) rfl ?_
  refine G.icmpYes H D21_24 (by decide) (by decide) (pc' := 33) rfl ?_
  exact G.retV H rfl D21_33 (so := []) all0 (by decide) (by decide) ⟨rfl, rfl, rfl⟩
set_option maxRecDepth 65536 in
set_option maxHeartbeats 40000000 in
theorem m23_leave (V : Env1 Z a0 n0 uu0 uu1 uu2 uu3 uu4 uu5 uu6 uu7 uu8 uu9) (p0 : Addr) (p1 : Addr) (c0 : ClassId) (h0 : Heap) (hO : Old Z n0 h0) (f0 : Fld Z h0 p0 "com/example/passenger_flow_sim/passengerflowsim/simulation/Vehicle" "step" "I" (.int (1 : Int32))) (f1 : Fld Z h0 p0 "com/example/passenger_flow_sim/passengerflowsim/simulation/Vehicle" "loads" "[I" (.ref p1)) (f2 : Arv Z h0 p1 c0 .int (1 : Int32) [(.int (0 : Int32))] (.int 0)) (f3 : Fld Z h0 p0 "com/example/passenger_flow_sim/passengerflowsim/simulation/Vehicle" "load" "I" (.int (0 : Int32))) (g4 : n0 ≤ p1) (q5 : p0 ≠ p1) (f6 : Exa Z h0 p0 "com/example/passenger_flow_sim/passengerflowsim/simulation/Vehicle") (g7 : n0 ≤ p0) :
    Met Z a0 [] False n0 l (⟨"com/example/passenger_flow_sim/passengerflowsim/simulation/Vehicle", "leave", "()V"⟩ : MethodName) prog_32_method_13_code 2 (Option.none : Option FieldType) ({ frames := 0, cells := 0, slots := 0, locals := 0 } : Room) #[(.ref p0)] h0 [] (fun v h so => (v = none ∧ so = [] ∧ Keep h0 h [p1, p0] ∧ (∀ (O n d : String) (w : Value), Fld Z h0 p0 O n d w → RoadKit.slotOf Z O n d ≠ RoadKit.slotOf Z "com/example/passenger_flow_sim/passengerflowsim/simulation/Vehicle" "step" "I" → Fld Z h p0 O n d w) ∧ Arv Z h p1 c0 .int (1 : Int32) [(.int (0 : Int32))] (.int 0) ∧ Fld Z h p0 "com/example/passenger_flow_sim/passengerflowsim/simulation/Vehicle" "step" "I" (.int (2 : Int32)) ∧ Fld Z h p0 "com/example/passenger_flow_sim/passengerflowsim/simulation/Vehicle" "loads" "[I" (.ref p1) ∧ Fld Z h p0 "com/example/passenger_flow_sim/passengerflowsim/simulation/Vehicle" "load" "I" (.int (0 : Int32)) ∧ Exa Z h p0 "com/example/passenger_flow_sim/passengerflowsim/simulation/Vehicle")) := by
  refine Met.of (EWl V) (by first | decide +kernel | rfl) hO (L0 := #[.val (.ref p0), .unset]) rfl ?_
  intro p e s m below meth c T H
  show Go p e below _ (T.setTop (mkF m 0 #[.val (.ref p0), .unset] []))
  refine G.aloadN H D27_0 (pc' := 1) rfl rfl rfl ?_
  refine G.getF H (wd139 V) Via.refl f0 D27_1 (pc' := 4) rfl ?_
  intro T1 H2
  refine G.iconst H2 D27_4 (pc' := 5) rfl (v := (2 : Int32)) rfl ?_
  refine G.idiv H2 D27_5 (pc' := 6) rfl (by decide) ?_
  show Go p e below _ (T1.setTop (mkF m 6 #[.val (.ref p0), .unset] [(.int (0 : Int32))]))
  refine G.istoreN H2 (L' := #[.val (.ref p0), .val (.int (0 : Int32))]) D27_6 (pc' := 7) rfl rfl ?_
  refine G.iloadN H2 D27_7 (pc' := 8) rfl rfl ?_
  refine G.aloadN H2 D27_8 (pc' := 9) rfl rfl rfl ?_
  refine G.getF H2 (wd46 V) Via.refl f1 D27_9 (pc' := 12) rfl ?_
  intro T3 H4
  refine G.arrlen H4 f2 D27_12 (pc' := 13) rfl ?_
  refine G.icmpNo H4 D27_13 (pc' := 16) rfl (by decide) ?_
  refine G.aloadN H4 D27_16 (pc' := 17) rfl rfl rfl ?_
  refine G.getF H4 (wd46 V) Via.refl f1 D27_17 (pc' := 20) rfl ?_
  intro T5 H6
  refine G.iloadN H6 D27_20 (pc' := 21) rfl rfl ?_
  refine G.aloadN H6 D27_21 (pc' := 22) rfl rfl rfl ?_
  refine G.getF H6 (wd180 V) Via.refl f3 D27_22 (pc' := 25) rfl ?_
  intro T7 H8
  refine G.stI H8 f2 (by decide) (i := 0) rfl (Nat.le_of_ble_eq_true rfl) g4 D27_25 (pc' := 26) rfl ?_
  intro T9 h9_ H9 W10 A11
  replace A11 : Arv Z h9_ p1 c0 .int (1 : Int32) [(.int (0 : Int32))] (.int 0) := A11
  refine G.aloadN H9 D27_26 (pc' := 27) rfl rfl rfl ?_
  refine G.dup H9 D27_27 (pc' := 28) rfl rfl ?_
  have F12 := (Fld.other W10 f0 (Or.inl q5))
  refine G.getF H9 (wd139 V) Via.refl F12 D27_28 (pc' := 31) rfl ?_
  intro T13 H14
  refine G.iconst H14 D27_31 (pc' := 32) rfl (v := (1 : Int32)) rfl ?_
  refine G.iadd H14 D27_32 (pc' := 33) rfl ?_
  show Go p e below _ (T13.setTop (mkF m 33 #[.val (.ref p0), .val (.int (0 : Int32))] [(.int (2 : Int32)), (.ref p0)]))
  have F15 := (Exa.wr W10 f6)
  refine G.putF H14 (wd139 V) Via.refl F12 F15 (Or.inl (wd140 V)) (wd31 V) (ty := .int) (by decide) rfl rfl g7 (Sf.exa F15) D27_33 (pc' := 36) rfl ?_
  intro T16 h16_ H16 W17
  have F18 : Fld Z h16_ p0 "com/example/passenger_flow_sim/passengerflowsim/simulation/Vehicle" "step" "I" (.int (2 : Int32)) := Fld.same W17 F12
  have F19 := (Arv.other A11 W17 (Ne.symm q5))
  have F20 := (Fld.other W17 (Fld.other W10 f1 (Or.inl q5)) (Or.inr (slot_ne (Or.inr (wd47 V)) (Or.inl (wd140 V)) (by decide) (t := (.array .int)) (t' := .int) (by decide) (by decide))))
  have F21 := (Fld.other W17 (Fld.other W10 f3 (Or.inl q5)) (Or.inr (slot_ne (Or.inl (wd181 V)) (Or.inl (wd140 V)) (by decide) (t := .int) (t' := .int) (by decide) (by decide))))
  have F22 := (Exa.wr W17 F15)
  have K23 : Keep h0 h16_ [p1, p0] := (Keep.wr (Keep.wr (Keep.refl h0 [p1, p0]) W10 (Or.inl (List.mem_of_getElem? (i := 0) rfl))) W17 (Or.inl (List.mem_of_getElem? (i := 1) rfl)))
  exact G.retV H16 rfl D27_36 (so := []) all0 (by decide) (by decide) ⟨rfl, rfl, K23, (fun O n d w F hn0 => (Fld.other W17 (Fld.other W10 F (Or.inl q5)) (Or.inr hn0))), F19, F18, F20, F21, F22⟩
set_option maxRecDepth 65536 in
set_option maxHeartbeats 40000000 in
theorem m24_init (V : Env1 Z a0 n0 uu0 uu1 uu2 uu3 uu4 uu5 uu6 uu7 uu8 uu9) (p0 : Addr) (p1 : Addr) (p2 : Addr) (h0 : Heap) (hO : Old Z n0 h0) (f0 : Exa Z h0 p0 "com/example/passenger_flow_sim/passengerflowsim/simulation/TripLoads") (f1 : Fld Z h0 p0 "com/example/passenger_flow_sim/passengerflowsim/simulation/TripLoads" "trip" "Lcom/example/passenger_flow_sim/passengerflowsim/timetable/Trip;" .null) (g2 : n0 ≤ p0) (f3 : Fld Z h0 p0 "com/example/passenger_flow_sim/passengerflowsim/simulation/TripLoads" "loads" "[I" .null) :
    Met Z a0 [] False n0 l (⟨"com/example/passenger_flow_sim/passengerflowsim/simulation/TripLoads", "<init>", "(Lcom/example/passenger_flow_sim/passengerflowsim/timetable/Trip;[I)V"⟩ : MethodName) prog_31_method_1_code 3 (Option.none : Option FieldType) ({ frames := 1, cells := 0, slots := 0, locals := 12 } : Room) #[(.ref p0), (.ref p1), (.ref p2)] h0 [] (fun v h so => (v = none ∧ so = [] ∧ Keep h0 h [p0] ∧ (∀ (O n d : String) (w : Value), Fld Z h0 p0 O n d w → RoadKit.slotOf Z O n d ≠ RoadKit.slotOf Z "com/example/passenger_flow_sim/passengerflowsim/simulation/TripLoads" "trip" "Lcom/example/passenger_flow_sim/passengerflowsim/timetable/Trip;" → RoadKit.slotOf Z O n d ≠ RoadKit.slotOf Z "com/example/passenger_flow_sim/passengerflowsim/simulation/TripLoads" "loads" "[I" → Fld Z h p0 O n d w) ∧ Exa Z h p0 "com/example/passenger_flow_sim/passengerflowsim/simulation/TripLoads" ∧ Fld Z h p0 "com/example/passenger_flow_sim/passengerflowsim/simulation/TripLoads" "trip" "Lcom/example/passenger_flow_sim/passengerflowsim/timetable/Trip;" (.ref p1) ∧ Fld Z h p0 "com/example/passenger_flow_sim/passengerflowsim/simulation/TripLoads" "loads" "[I" (.ref p2))) := by
  refine Met.of (EWl V) (by first | decide +kernel | rfl) hO (L0 := #[.val (.ref p0), .val (.ref p1), .val (.ref p2)]) rfl ?_
  intro p e s m below meth c T H
  show Go p e below _ (T.setTop (mkF m 0 #[.val (.ref p0), .val (.ref p1), .val (.ref p2)] []))
  refine G.aloadN H D22_0 (pc' := 1) rfl rfl rfl ?_
  refine G.initO H (wd216 V) (wd9 V) (wd10 V) rfl D22_1 (pc' := 4) rfl (by decide) (W := 0) rfl (by decide) ?_
  intro T1 H2
  refine G.aloadN H2 D22_4 (pc' := 5) rfl rfl rfl ?_
  refine G.aloadN H2 D22_5 (pc' := 6) rfl rfl rfl ?_
  refine G.putF H2 (wd217 V) Via.refl f1 f0 (Or.inr ⟨(wd218 V), rfl, rfl⟩) (wd209 V) (ty := (.object "com/example/passenger_flow_sim/passengerflowsim/timetable/Trip")) (by decide) rfl rfl g2 (Sf.exa f0) D22_6 (pc' := 9) rfl ?_
  intro T3 h3_ H3 W4
  have F5 : Fld Z h3_ p0 "com/example/passenger_flow_sim/passengerflowsim/simulation/TripLoads" "trip" "Lcom/example/passenger_flow_sim/passengerflowsim/timetable/Trip;" (.ref p1) := Fld.same W4 f1
  refine G.aloadN H3 D22_9 (pc' := 10) rfl rfl rfl ?_
  refine G.aloadN H3 D22_10 (pc' := 11) rfl rfl rfl ?_
  have F6 := (Exa.wr W4 f0)
  have F7 := (Fld.other W4 f3 (Or.inr (slot_ne (Or.inr (wd220 V)) (Or.inr (wd218 V)) (by decide) (t := (.array .int)) (t' := (.object "com/example/passenger_flow_sim/passengerflowsim/timetable/Trip")) (by decide) (by decide))))
  refine G.putF H3 (wd219 V) Via.refl F7 F6 (Or.inr ⟨(wd220 V), rfl, rfl⟩) (wd209 V) (ty := (.array .int)) (by decide) rfl rfl g2 (Sf.exa F6) D22_11 (pc' := 14) rfl ?_
  intro T8 h8_ H8 W9
  have F10 : Fld Z h8_ p0 "com/example/passenger_flow_sim/passengerflowsim/simulation/TripLoads" "loads" "[I" (.ref p2) := Fld.same W9 F7
  have F11 := (Exa.wr W9 F6)
  have F12 := (Fld.other W9 F5 (Or.inr (slot_ne (Or.inr (wd218 V)) (Or.inr (wd220 V)) (by decide) (t := (.object "com/example/passenger_flow_sim/passengerflowsim/timetable/Trip")) (t' := (.array .int)) (by decide) (by decide))))
  have K13 : Keep h0 h8_ [p0] := (Keep.wr (Keep.wr (Keep.refl h0 [p0]) W4 (Or.inl (List.mem_of_getElem? (i := 0) rfl))) W9 (Or.inl (List.mem_of_getElem? (i := 0) rfl)))
  exact G.retV H8 rfl D22_14 (so := []) all0 (by decide) (by decide) ⟨rfl, rfl, K13, (fun O n d w F hn0 hn1 => (Fld.other W9 (Fld.other W4 F (Or.inr hn0)) (Or.inr hn1))), F11, F12, F10⟩
set_option maxRecDepth 65536 in
set_option maxHeartbeats 40000000 in
theorem m25_loads (V : Env1 Z a0 n0 uu0 uu1 uu2 uu3 uu4 uu5 uu6 uu7 uu8 uu9) (p0 : Addr) (p1 : Addr) (p2 : Addr) (c0 : ClassId) (h0 : Heap) (hO : Old Z n0 h0) (f0 : Fld Z h0 p0 "com/example/passenger_flow_sim/passengerflowsim/simulation/Vehicle" "trip" "Lcom/example/passenger_flow_sim/passengerflowsim/timetable/Trip;" (.ref p1)) (f1 : Fld Z h0 p0 "com/example/passenger_flow_sim/passengerflowsim/simulation/Vehicle" "loads" "[I" (.ref p2)) (f2 : Exa Z h0 p2 "[I") (f3 : Arv Z h0 p2 c0 .int (1 : Int32) [(.int (0 : Int32))] (.int 0)) :
    Met Z a0 [] False n0 l (⟨"com/example/passenger_flow_sim/passengerflowsim/simulation/Vehicle", "loads", "()Lcom/example/passenger_flow_sim/passengerflowsim/simulation/TripLoads;"⟩ : MethodName) prog_32_method_14_code 1 (Option.some (FieldType.object "com/example/passenger_flow_sim/passengerflowsim/simulation/TripLoads")) ({ frames := 2, cells := 2, slots := 3, locals := 27 } : Room) #[(.ref p0)] h0 [] (fun v h so => (∃ a2 a15 : Addr, v = some (.ref a2) ∧ so = [] ∧ Keep h0 h [] ∧ h0.size ≤ a2 ∧ a2 < a15 ∧ Exa Z h a2 "com/example/passenger_flow_sim/passengerflowsim/simulation/TripLoads" ∧ Fld Z h a2 "com/example/passenger_flow_sim/passengerflowsim/simulation/TripLoads" "trip" "Lcom/example/passenger_flow_sim/passengerflowsim/timetable/Trip;" (.ref p1) ∧ Fld Z h a2 "com/example/passenger_flow_sim/passengerflowsim/simulation/TripLoads" "loads" "[I" (.ref a15) ∧ Arv Z h a15 c0 .int (1 : Int32) [(.int (0 : Int32))] (.int 0) ∧ Exa Z h a15 "[I")) := by
  refine Met.of (EWl V) (by first | decide +kernel | rfl) hO (L0 := #[.val (.ref p0)]) rfl ?_
  intro p e s m below meth c T H
  show Go p e below _ (T.setTop (mkF m 0 #[.val (.ref p0)] []))
  refine G.new H (wd208 V) (wd209 V) (wd210 V) D28_0 (pc' := 3) rfl (by decide) (by decide) ?_
  intro T1 h1_ a2 ga2 H1 E3 A4 D5
  have na2 := H.nle ga2
  refine G.dup H1 D28_3 (pc' := 4) rfl rfl ?_
  refine G.aloadN H1 D28_4 (pc' := 5) rfl rfl rfl ?_
  have F6 := (Fld.ext E3 f0)
  refine G.getF H1 (wd37 V) Via.refl F6 D28_5 (pc' := 8) rfl ?_
  intro T7 H8
  refine G.aloadN H8 D28_8 (pc' := 9) rfl rfl rfl ?_
  have F9 := (Fld.ext E3 f1)
  refine G.getF H8 (wd46 V) Via.refl F9 D28_9 (pc' := 12) rfl ?_
  intro T10 H11
  have F12 := (Exa.ext E3 f2)
  have F13 := (Arv.ext f3 E3)
  refine G.clone H11 (wd211 V) (wd16 V) (wd20 V) (wd18 V) (wd19 V) (wd21 V) F13 F12 (st := [(.ref p1), (.ref a2), (.ref a2)]) (W := 3) (cap := 1) rfl rfl D28_12 (pc' := 15) rfl (by decide) (by decide) (by decide) (by decide) (by decide) ?_
  intro T14 h14_ a15 ga15 H14 E16 A17 X18
  have na15 := H11.nle ga15
  refine G.castY H14 (wd212 V) (Ins.self X18) D28_15 (pc' := 18) rfl ?_
  intro T19 H20
  have F21 := (Exa.ext E16 A4)
  have F22 : Fld Z h1_ a2 "com/example/passenger_flow_sim/passengerflowsim/simulation/TripLoads" "trip" "Lcom/example/passenger_flow_sim/passengerflowsim/timetable/Trip;" .null := D5 (Or.inr (wd218 V)) (ty := (.object "com/example/passenger_flow_sim/passengerflowsim/timetable/Trip")) (by decide)
  have F23 := (Fld.ext E16 F22)
  have F24 : Fld Z h1_ a2 "com/example/passenger_flow_sim/passengerflowsim/simulation/TripLoads" "loads" "[I" .null := D5 (Or.inr (wd220 V)) (ty := (.array .int)) (by decide)
  have F25 := (Fld.ext E16 F24)
  refine G.callI H20 (m24_init V a2 p1 a15 h14_ H20.old F21 F23 na2 F25) rfl (wd213 V) (wd214 V) (wd210 V) (wd215 V) (by decide) (a := a2) (argsL := [(.ref p1), (.ref a15)]) (rest := [(.ref a2)]) (W := 1) rfl rfl (lenOf (pd_16) rfl) rfl rfl D28_18 (pc' := 21) rfl (by decide) (by decide) (by decide) (by decide) all0 ?_
  intro T26 h26_ v27 s28 H26 Q29
  obtain ⟨rfl, rfl, K30, U31, F32, F33, F34⟩ := Q29
  show Go p e below _ (T26.setTop (mkF m 21 #[.val (.ref p0)] [(.ref a2)]))
  have N35 : a15 ≠ a2 := (Ne.symm (Nat.ne_of_lt (Nat.lt_of_lt_of_le A4.lt (Nat.le_of_eq ga15.symm))))
  have F36 := (Arv.keep A17 K30 (ninS N35 nin0))
  have F37 := (Exa.keep X18 K30)
  have K38 : Keep h0 h26_ [] := (Keep.trans (Keep.ext (Keep.ext (Keep.refl h0 []) E3) E16) K30 (allS (Or.inr (Nat.le_of_eq ga2.symm)) all0))
  exact G.retA H26 (t := (.object "com/example/passenger_flow_sim/passengerflowsim/simulation/TripLoads")) rfl rfl rfl D28_21 (so := []) all0 (by decide) (by decide) ⟨a2, a15, rfl, rfl, K38, (Nat.le_of_eq ga2.symm), (Nat.lt_of_lt_of_le A4.lt (Nat.le_of_eq ga15.symm)), F32, F33, F34, F36, F37⟩
set_option maxRecDepth 65536 in
set_option maxHeartbeats 40000000 in
theorem m26_linkCount (V : Env1 Z a0 n0 uu0 uu1 uu2 uu3 uu4 uu5 uu6 uu7 uu8 uu9) (p0 : Addr) (p1 : Addr) (c0 : ClassId) (h0 : Heap) (hO : Old Z n0 h0) (f0 : Fld Z h0 p0 "com/example/passenger_flow_sim/passengerflowsim/simulation/TripLoads" "loads" "[I" (.ref p1)) (f1 : Arv Z h0 p1 c0 .int (1 : Int32) [(.int (0 : Int32))] (.int 0)) :
    Met Z a0 [] False n0 l (⟨"com/example/passenger_flow_sim/passengerflowsim/simulation/TripLoads", "linkCount", "()I"⟩ : MethodName) prog_31_method_3_code 1 (Option.some FieldType.int) ({ frames := 0, cells := 0, slots := 0, locals := 0 } : Room) #[(.ref p0)] h0 [] (fun v h so => (v = some (.int (1 : Int32)) ∧ so = [] ∧ h0 = h)) := by
  refine Met.of (EWl V) (by first | decide +kernel | rfl) hO (L0 := #[.val (.ref p0)]) rfl ?_
  intro p e s m below meth c T H
  show Go p e below _ (T.setTop (mkF m 0 #[.val (.ref p0)] []))
  refine G.aloadN H D23_0 (pc' := 1) rfl rfl rfl ?_
  refine G.getF H (wd219 V) Via.refl f0 D23_1 (pc' := 4) rfl ?_
  intro T1 H2
  refine G.arrlen H2 f1 D23_4 (pc' := 5) rfl ?_
  exact G.retI H2 rfl D23_5 (so := []) all0 (by decide) (by decide) ⟨rfl, rfl, rfl⟩
set_option maxRecDepth 65536 in
set_option maxHeartbeats 40000000 in
theorem m27_load (V : Env1 Z a0 n0 uu0 uu1 uu2 uu3 uu4 uu5 uu6 uu7 uu8 uu9) (p0 : Addr) (h0 : Heap) (hO : Old Z n0 h0) (f0 : Fld Z h0 p0 "com/example/passenger_flow_sim/passengerflowsim/simulation/Vehicle" "load" "I" (.int (0 : Int32))) :
    Met Z a0 [] False n0 l (⟨"com/example/passenger_flow_sim/passengerflowsim/simulation/Vehicle", "load", "()I"⟩ : MethodName) prog_32_method_4_code 1 (Option.some FieldType.int) ({ frames := 0, cells := 0, slots := 0, locals := 0 } : Room) #[(.ref p0)] h0 [] (fun v h so => (v = some (.int (0 : Int32)) ∧ so = [] ∧ h0 = h)) := by
  refine Met.of (EWl V) (by first | decide +kernel | rfl) hO (L0 := #[.val (.ref p0)]) rfl ?_
  intro p e s m below meth c T H
  show Go p e below _ (T.setTop (mkF m 0 #[.val (.ref p0)] []))
  refine G.aloadN H D32_0 (pc' := 1) rfl rfl rfl ?_
  refine G.getF H (wd180 V) Via.refl f0 D32_1 (pc' := 4) rfl ?_
  intro T1 H2
  exact G.retI H2 rfl D32_4 (so := []) all0 (by decide) (by decide) ⟨rfl, rfl, rfl⟩
set_option maxRecDepth 65536 in
set_option maxHeartbeats 40000000 in
theorem m28_isDone (V : Env1 Z a0 n0 uu0 uu1 uu2 uu3 uu4 uu5 uu6 uu7 uu8 uu9) (p0 : Addr) (p1 : Addr) (p2 : Addr) (c0 : ClassId) (h0 : Heap) (hO : Old Z n0 h0) (f0 : Fld Z h0 p0 "com/example/passenger_flow_sim/passengerflowsim/simulation/Vehicle" "step" "I" (.int (2 : Int32))) (f1 : Fld Z h0 p0 "com/example/passenger_flow_sim/passengerflowsim/simulation/Vehicle" "trip" "Lcom/example/passenger_flow_sim/passengerflowsim/timetable/Trip;" (.ref p1)) (f2 : Exa Z h0 p1 "com/example/passenger_flow_sim/passengerflowsim/timetable/Trip") (f3 : Fld Z h0 p1 "com/example/passenger_flow_sim/passengerflowsim/timetable/Trip" "stops" "[I" (.ref p2)) (f4 : Arv Z h0 p2 c0 .int (2 : Int32) [(.int (0 : Int32)), (.int (1 : Int32))] (.int 0)) :
    Met Z a0 [] False n0 l (⟨"com/example/passenger_flow_sim/passengerflowsim/simulation/Vehicle", "isDone", "()Z"⟩ : MethodName) prog_32_method_5_code 1 (Option.some FieldType.boolean) ({ frames := 1, cells := 0, slots := 0, locals := 14 } : Room) #[(.ref p0)] h0 [] (fun v h so => (v = some (.int (0 : Int32)) ∧ so = [] ∧ h0 = h)) := by
  refine Met.of (EWl V) (by first | decide +kernel | rfl) hO (L0 := #[.val (.ref p0)]) rfl ?_
  intro p e s m below meth c T H
  show Go p e below _ (T.setTop (mkF m 0 #[.val (.ref p0)] []))
  refine G.aloadN H D33_0 (pc' := 1) rfl rfl rfl ?_
  refine G.getF H (wd139 V) Via.refl f0 D33_1 (pc' := 4) rfl ?_
  intro T1 H2
  refine G.iconst H2 D33_4 (pc' := 5) rfl (v := (2 : Int32)) rfl ?_
  refine G.aloadN H2 D33_5 (pc' := 6) rfl rfl rfl ?_
  refine G.getF H2 (wd37 V) Via.refl f1 D33_6 (pc' := 9) rfl ?_
  intro T3 H4
  refine G.callV H4 (m2_length V p1 p2 c0 h0 H4.old f3 f4) (wd41 V) (wd42 V) (nf_sel (wd44 V)) (wd44 V) (wd43 V) (wd3 V) (wd45 V) (by decide) f2 (argsL := []) (rest := [(.int (2 : Int32)), (.int (2 : Int32))]) (W := 2) rfl rfl (lenOf (pd_1) rfl) rfl rfl D33_9 (pc' := 12) rfl (by decide) (by decide) (by decide) (by decide) all0 ?_
  intro T5 h5_ v6 s7 H5 Q8
  obtain ⟨rfl, rfl, rfl⟩ := Q8
  show Go p e below _ (T5.setTop (mkF m 12 #[.val (.ref p0)] [(.int (2 : Int32)), (.int (2 : Int32)), (.int (2 : Int32))]))
  refine G.imul H5 D33_12 (pc' := 13) rfl ?_
  show Go p e below _ (T5.setTop (mkF m 13 #[.val (.ref p0)] [(.int (4 : Int32)), (.int (2 : Int32))]))
  refine G.icmpYes H5 D33_13 (by decide) (by decide) (pc' := 20) rfl ?_
  refine G.iconst H5 D33_20 (pc' := 21) rfl (v := (0 : Int32)) rfl ?_
  exact G.retN H5 (t := .boolean) rfl (by decide) D33_21 (so := []) all0 (by decide) (by decide) ⟨rfl, rfl, rfl⟩
set_option maxRecDepth 65536 in
set_option maxHeartbeats 40000000 in
theorem m29_isDeparting (V : Env1 Z a0 n0 uu0 uu1 uu2 uu3 uu4 uu5 uu6 uu7 uu8 uu9) (p0 : Addr) (h0 : Heap) (hO : Old Z n0 h0) (f0 : Fld Z h0 p0 "com/example/passenger_flow_sim/passengerflowsim/simulation/Vehicle" "step" "I" (.int (2 : Int32))) :
    Met Z a0 [] False n0 l (⟨"com/example/passenger_flow_sim/passengerflowsim/simulation/Vehicle", "isDeparting", "()Z"⟩ : MethodName) prog_32_method_6_code 1 (Option.some FieldType.boolean) ({ frames := 0, cells := 0, slots := 0, locals := 0 } : Room) #[(.ref p0)] h0 [] (fun v h so => (v = some (.int (0 : Int32)) ∧ so = [] ∧ h0 = h)) := by
  refine Met.of (EWl V) (by first | decide +kernel | rfl) hO (L0 := #[.val (.ref p0)]) rfl ?_
  intro p e s m below meth c T H
  show Go p e below _ (T.setTop (mkF m 0 #[.val (.ref p0)] []))
  refine G.aloadN H D34_0 (pc' := 1) rfl rfl rfl ?_
  refine G.getF H (wd139 V) Via.refl f0 D34_1 (pc' := 4) rfl ?_
  intro T1 H2
  refine G.iconst H2 D34_4 (pc' := 5) rfl (v := (2 : Int32)) rfl ?_
  refine G.irem H2 D34_5 (pc' := 6) rfl (by decide) ?_
  show Go p e below _ (T1.setTop (mkF m 6 #[.val (.ref p0)] [(.int (0 : Int32))]))
  refine G.iconst H2 D34_6 (pc' := 7) rfl (v := (1 : Int32)) rfl ?_
  refine G.icmpYes H2 D34_7 (by decide) (by decide) (pc' := 14) rfl ?_
  refine G.iconst H2 D34_14 (pc' := 15) rfl (v := (0 : Int32)) rfl ?_
  exact G.retN H2 (t := .boolean) rfl (by decide) D34_15 (so := []) all0 (by decide) (by decide) ⟨rfl, rfl, rfl⟩
set_option maxRecDepth 65536 in
set_option maxHeartbeats 40000000 in
theorem m30_hasLeft (V : Env1 Z a0 n0 uu0 uu1 uu2 uu3 uu4 uu5 uu6 uu7 uu8 uu9) (p0 : Addr) (h0 : Heap) (hO : Old Z n0 h0) (f0 : Fld Z h0 p0 "com/example/passenger_flow_sim/passengerflowsim/simulation/Vehicle" "step" "I" (.int (2 : Int32))) :
    Met Z a0 [] False n0 l (⟨"com/example/passenger_flow_sim/passengerflowsim/simulation/Vehicle", "hasLeft", "(I)Z"⟩ : MethodName) prog_32_method_8_code 2 (Option.some FieldType.boolean) ({ frames := 0, cells := 0, slots := 0, locals := 0 } : Room) #[(.ref p0), (.int (0 : Int32))] h0 [] (fun v h so => (v = some (.int (1 : Int32)) ∧ so = [] ∧ h0 = h)) := by
  refine Met.of (EWl V) (by first | decide +kernel | rfl) hO (L0 := #[.val (.ref p0), .val (.int (0 : Int32))]) rfl ?_
  intro p e s m below meth c T H
  show Go p e below _ (T.setTop (mkF m 0 #[.val (.ref p0), .val (.int (0 : Int32))] []))
  refine G.aloadN H D36_0 (pc' := 1) rfl rfl rfl ?_
  refine G.getF H (wd139 V) Via.refl f0 D36_1 (pc' := 4) rfl ?_
  intro T1 H2
  refine G.iconst H2 D36_4 (pc' := 5) rfl (v := (2 : Int32)) rfl ?_
  refine G.iloadN H2 D36_5 (pc' := 6) rfl rfl ?_
  refine G.imul H2 D36_6 (pc' := 7) rfl ?_
  show Go p e below _ (T1.setTop (mkF m 7 #[.val (.ref p0), .val (.int (0 : Int32))] [(.int (0 : Int32)), (.int (2 : Int32))]))
  refine G.iconst H2 D36_7 (pc' := 8) rfl (v := (1 : Int32)) rfl ?_
  refine G.iadd H2 D36_8 (pc' := 9) rfl ?_
  show Go p e below _ (T1.setTop (mkF m 9 #[.val (.ref p0), .val (.int (0 : Int32))] [(.int (1 : Int32)), (.int (2 : Int32))]))
  refine G.icmpNo H2 D36_9 (pc' := 12) rfl (by decide) ?_
  refine G.iconst H2 D36_12 (pc' := 13) rfl (v := (1 : Int32)) rfl ?_
  refine G.goto H2 D36_13 (by decide) (pc' := 17) rfl ?_
  exact G.retN H2 (t := .boolean) rfl (by decide) D36_17 (so := []) all0 (by decide) (by decide) ⟨rfl, rfl, rfl⟩
set_option maxRecDepth 65536 in
set_option maxHeartbeats 40000000 in
theorem m31_hasLeft (V : Env1 Z a0 n0 uu0 uu1 uu2 uu3 uu4 uu5 uu6 uu7 uu8 uu9) (p0 : Addr) (h0 : Heap) (hO : Old Z n0 h0) (f0 : Fld Z h0 p0 "com/example/passenger_flow_sim/passengerflowsim/simulation/Vehicle" "step" "I" (.int (2 : Int32))) :
    Met Z a0 [] False n0 l (⟨"com/example/passenger_flow_sim/passengerflowsim/simulation/Vehicle", "hasLeft", "(I)Z"⟩ : MethodName) prog_32_method_8_code 2 (Option.some FieldType.boolean) ({ frames := 0, cells := 0, slots := 0, locals := 0 } : Room) #[(.ref p0), (.int (1 : Int32))] h0 [] (fun v h so => (v = some (.int (0 : Int32)) ∧ so = [] ∧ h0 = h)) := by
  refine Met.of (EWl V) (by first | decide +kernel | rfl) hO (L0 := #[.val (.ref p0), .val (.int (1 : Int32))]) rfl ?_
  intro p e s m below meth c T H
  show Go p e below _ (T.setTop (mkF m 0 #[.val (.ref p0), .val (.int (1 : Int32))] []))
  refine G.aloadN H D36_0 (pc' := 1) rfl rfl rfl ?_
  refine G.getF H (wd139 V) Via.refl f0 D36_1 (pc' := 4) rfl ?_
  intro T1 H2
  refine G.iconst H2 D36_4 (pc' := 5) rfl (v := (2 : Int32)) rfl ?_
  refine G.iloadN H2 D36_5 (pc' := 6) rfl rfl ?_
  refine G.imul H2 D36_6 (pc' := 7) rfl ?_
  show Go p e below _ (T1.setTop (mkF m 7 #[.val (.ref p0), .val (.int (1 : Int32))] [(.int (2 : Int32)), (.int (2 : Int32))]))
  refine G.iconst H2 D36_7 (pc' := 8) rfl (v := (1 : Int32)) rfl ?_
  refine G.iadd H2 D36_8 (pc' := 9) rfl ?_
  show Go p e below _ (T1.setTop (mkF m 9 #[.val (.ref p0), .val (.int (1 : Int32))] [(.int (3 : Int32)), (.int (2 : Int32))]))
  refine G.icmpYes H2 D36_9 (by decide) (by decide) (pc' := 16) rfl ?_
  refine G.iconst H2 D36_16 (pc' := 17) rfl (v := (0 : Int32)) rfl ?_
  exact G.retN H2 (t := .boolean) rfl (by decide) D36_17 (so := []) all0 (by decide) (by decide) ⟨rfl, rfl, rfl⟩
set_option maxRecDepth 65536 in
set_option maxHeartbeats 40000000 in
theorem m32_arrival (V : Env1 Z a0 n0 uu0 uu1 uu2 uu3 uu4 uu5 uu6 uu7 uu8 uu9) (p0 : Addr) (p1 : Addr) (c0 : ClassId) (x0 : Int32) (x1 : Int32) (h0 : Heap) (hO : Old Z n0 h0) (f0 : Fld Z h0 p0 "com/example/passenger_flow_sim/passengerflowsim/timetable/Trip" "arrivals" "[I" (.ref p1)) (f1 : Arv Z h0 p1 c0 .int (2 : Int32) [(.int x0), (.int x1)] (.int 0)) :
    Met Z a0 [] False n0 l (⟨"com/example/passenger_flow_sim/passengerflowsim/timetable/Trip", "arrival", "(I)I"⟩ : MethodName) prog_42_method_6_code 2 (Option.some FieldType.int) ({ frames := 0, cells := 0, slots := 0, locals := 0 } : Room) #[(.ref p0), (.int (1 : Int32))] h0 [] (fun v h so => (v = some (.int x1) ∧ so = [] ∧ h0 = h)) := by
  refine Met.of (EWl V) (by first | decide +kernel | rfl) hO (L0 := #[.val (.ref p0), .val (.int (1 : Int32))]) rfl ?_
  intro p e s m below meth c T H
  show Go p e below _ (T.setTop (mkF m 0 #[.val (.ref p0), .val (.int (1 : Int32))] []))
  refine G.aloadN H D39_0 (pc' := 1) rfl rfl rfl ?_
  refine G.getF H (wd26 V) Via.refl f0 D39_1 (pc' := 4) rfl ?_
  intro T1 H2
  refine G.iloadN H2 D39_4 (pc' := 5) rfl rfl ?_
  refine G.ialoadG H2 f1 (j := (1 : Int32)) (v := (.int x1)) (by decide) rfl D39_5 (pc' := 6) rfl ?_
  exact G.retI H2 rfl D39_6 (so := []) all0 (by decide) (by decide) ⟨rfl, rfl, rfl⟩
set_option maxRecDepth 65536 in
set_option maxHeartbeats 40000000 in
theorem m33_nextTime (V : Env1 Z a0 n0 uu0 uu1 uu2 uu3 uu4 uu5 uu6 uu7 uu8 uu9) (p0 : Addr) (p1 : Addr) (p2 : Addr) (c0 : ClassId) (x0 : Int32) (x1 : Int32) (h0 : Heap) (hO : Old Z n0 h0) (f0 : Fld Z h0 p0 "com/example/passenger_flow_sim/passengerflowsim/simulation/Vehicle" "step" "I" (.int (2 : Int32))) (f1 : Exa Z h0 p0 "com/example/passenger_flow_sim/passengerflowsim/simulation/Vehicle") (f2 : Fld Z h0 p0 "com/example/passenger_flow_sim/passengerflowsim/simulation/Vehicle" "trip" "Lcom/example/passenger_flow_sim/passengerflowsim/timetable/Trip;" (.ref p1)) (f3 : Exa Z h0 p1 "com/example/passenger_flow_sim/passengerflowsim/timetable/Trip") (f4 : Fld Z h0 p1 "com/example/passenger_flow_sim/passengerflowsim/timetable/Trip" "arrivals" "[I" (.ref p2)) (f5 : Arv Z h0 p2 c0 .int (2 : Int32) [(.int x0), (.int x1)] (.int 0)) :
    Met Z a0 [] False n0 l (⟨"com/example/passenger_flow_sim/passengerflowsim/simulation/Vehicle", "nextTime", "()I"⟩ : MethodName) prog_32_method_7_code 2 (Option.some FieldType.int) ({ frames := 1, cells := 0, slots := 0, locals := 13 } : Room) #[(.ref p0)] h0 [] (fun v h so => (v = some (.int x1) ∧ so = [] ∧ h0 = h)) := by
  refine Met.of (EWl V) (by first | decide +kernel | rfl) hO (L0 := #[.val (.ref p0), .unset]) rfl ?_
  intro p e s m below meth c T H
  show Go p e below _ (T.setTop (mkF m 0 #[.val (.ref p0), .unset] []))
  refine G.aloadN H D35_0 (pc' := 1) rfl rfl rfl ?_
  refine G.getF H (wd139 V) Via.refl f0 D35_1 (pc' := 4) rfl ?_
  intro T1 H2
  refine G.iconst H2 D35_4 (pc' := 5) rfl (v := (2 : Int32)) rfl ?_
  refine G.idiv H2 D35_5 (pc' := 6) rfl (by decide) ?_
  show Go p e below _ (T1.setTop (mkF m 6 #[.val (.ref p0), .unset] [(.int (1 : Int32))]))
  refine G.istoreN H2 (L' := #[.val (.ref p0), .val (.int (1 : Int32))]) D35_6 (pc' := 7) rfl rfl ?_
  refine G.aloadN H2 D35_7 (pc' := 8) rfl rfl rfl ?_
  refine G.callV H2 (m29_isDeparting V p0 h0 H2.old f0) (wd251 V) (wd237 V) (nf_sel (wd239 V)) (wd239 V) (wd238 V) (wd32 V) (wd240 V) (by decide) f1 (argsL := []) (rest := []) (W := 0) rfl rfl (lenOf (pd_18) rfl) rfl rfl D35_8 (pc' := 11) rfl (by decide) (by decide) (by decide) (by decide) all0 ?_
  intro T3 h3_ v4 s5 H3 Q6
  obtain ⟨rfl, rfl, rfl⟩ := Q6
  show Go p e below _ (T3.setTop (mkF m 11 #[.val (.ref p0), .val (.int (1 : Int32))] [(.int (0 : Int32))]))
  refine G.ifYes H3 D35_11 (by decide) (by decide) (pc' := 25) rfl ?_
  refine G.aloadN H3 D35_25 (pc' := 26) rfl rfl rfl ?_
  refine G.getF H3 (wd37 V) Via.refl f2 D35_26 (pc' := 29) rfl ?_
  intro T7 H8
  refine G.iloadN H8 D35_29 (pc' := 30) rfl rfl ?_
  refine G.callV H8 (m32_arrival V p1 p2 c0 x0 x1 h0 H8.old f4 f5) (wd252 V) (wd253 V) (nf_sel (wd255 V)) (wd255 V) (wd254 V) (wd3 V) (wd256 V) (by decide) f3 (argsL := [(.int (1 : Int32))]) (rest := []) (W := 0) rfl rfl (lenOf (pd_20) rfl) rfl rfl D35_30 (pc' := 33) rfl (by decide) (by decide) (by decide) (by decide) all0 ?_
  intro T9 h9_ v10 s11 H9 Q12
  obtain ⟨rfl, rfl, rfl⟩ := Q12
  show Go p e below _ (T9.setTop (mkF m 33 #[.val (.ref p0), .val (.int (1 : Int32))] [(.int x1)]))
  exact G.retI H9 rfl D35_33 (so := []) all0 (by decide) (by decide) ⟨rfl, rfl, rfl⟩
set_option maxRecDepth 65536 in
set_option maxHeartbeats 40000000 in
theorem m34_load (V : Env1 Z a0 n0 uu0 uu1 uu2 uu3 uu4 uu5 uu6 uu7 uu8 uu9) (p0 : Addr) (p1 : Addr) (c0 : ClassId) (h0 : Heap) (hO : Old Z n0 h0) (f0 : Fld Z h0 p0 "com/example/passenger_flow_sim/passengerflowsim/simulation/TripLoads" "loads" "[I" (.ref p1)) (f1 : Arv Z h0 p1 c0 .int (1 : Int32) [(.int (0 : Int32))] (.int 0)) :
    Met Z a0 [] False n0 l (⟨"com/example/passenger_flow_sim/passengerflowsim/simulation/TripLoads", "load", "(I)I"⟩ : MethodName) prog_31_method_4_code 2 (Option.some FieldType.int) ({ frames := 0, cells := 0, slots := 0, locals := 0 } : Room) #[(.ref p0), (.int (0 : Int32))] h0 [] (fun v h so => (v = some (.int (0 : Int32)) ∧ so = [] ∧ h0 = h)) := by
  refine Met.of (EWl V) (by first | decide +kernel | rfl) hO (L0 := #[.val (.ref p0), .val (.int (0 : Int32))]) rfl ?_
  intro p e s m below meth c T H
  show Go p e below _ (T.setTop (mkF m 0 #[.val (.ref p0), .val (.int (0 : Int32))] []))
  refine G.aloadN H D24_0 (pc' := 1) rfl rfl rfl ?_
  refine G.getF H (wd219 V) Via.refl f0 D24_1 (pc' := 4) rfl ?_
  intro T1 H2
  refine G.iloadN H2 D24_4 (pc' := 5) rfl rfl ?_
  refine G.ialoadG H2 f1 (j := (0 : Int32)) (v := (.int (0 : Int32))) (by decide) rfl D24_5 (pc' := 6) rfl ?_
  exact G.retI H2 rfl D24_6 (so := []) all0 (by decide) (by decide) ⟨rfl, rfl, rfl⟩
set_option maxRecDepth 65536 in
set_option maxHeartbeats 40000000 in
theorem m35_checkIndex (V : Env1 Z a0 n0 uu0 uu1 uu2 uu3 uu4 uu5 uu6 uu7 uu8 uu9)  (h0 : Heap) (hO : Old Z n0 h0)  :
    Met Z a0 [] False n0 l (⟨"jdk/internal/util/Preconditions", "checkIndex", "(IILjava/util/function/BiFunction;)I"⟩ : MethodName) jdk_41_method_11_code 3 (Option.some FieldType.int) ({ frames := 0, cells := 0, slots := 0, locals := 0 } : Room) #[(.int (1 : Int32)), (.int (2 : Int32)), .null] h0 [] (fun v h so => (v = some (.int (1 : Int32)) ∧ so = [] ∧ h0 = h)) := by
  refine Met.of (EWl V) (by first | decide +kernel | rfl) hO (L0 := #[.val (.int (1 : Int32)), .val (.int (2 : Int32)), .val .null]) rfl ?_
  intro p e s m below meth c T H
  show Go p e below _ (T.setTop (mkF m 0 #[.val (.int (1 : Int32)), .val (.int (2 : Int32)), .val .null] []))
  refine G.iloadN H D17_0 (pc' := 1) rfl rfl ?_
  refine G.ifNo H D17_1 (pc' := 4) rfl (by decide) ?_
  refine G.iloadN H D17_4 (pc' := 5) rfl rfl ?_
  refine G.iloadN H D17_5 (pc' := 6) rfl rfl ?_
  refine G.icmpYes H D17_6 (by decide) (by decide) (pc' := 16) rfl ?_
  refine G.iloadN H D17_16 (pc' := 17) rfl rfl ?_
  exact G.retI H rfl D17_17 (so := []) all0 (by decide) (by decide) ⟨rfl, rfl, rfl⟩
set_option maxRecDepth 65536 in
set_option maxHeartbeats 40000000 in
theorem m36_checkIndex (V : Env1 Z a0 n0 uu0 uu1 uu2 uu3 uu4 uu5 uu6 uu7 uu8 uu9)  (h0 : Heap) (hO : Old Z n0 h0)  :
    Met Z a0 [] False n0 l (⟨"java/util/Objects", "checkIndex", "(II)I"⟩ : MethodName) jdk_31_method_17_code 2 (Option.some FieldType.int) ({ frames := 1, cells := 0, slots := 0, locals := 14 } : Room) #[(.int (1 : Int32)), (.int (2 : Int32))] h0 [] (fun v h so => (v = some (.int (1 : Int32)) ∧ so = [] ∧ h0 = h)) := by
  refine Met.of (EWl V) (by first | decide +kernel | rfl) hO (L0 := #[.val (.int (1 : Int32)), .val (.int (2 : Int32))]) rfl ?_
  intro p e s m below meth c T H
  show Go p e below _ (T.setTop (mkF m 0 #[.val (.int (1 : Int32)), .val (.int (2 : Int32))] []))
  refine G.iloadN H D5_0 (pc' := 1) rfl rfl ?_
  refine G.iloadN H D5_1 (pc' := 2) rfl rfl ?_
  refine G.aconstNull H D5_2 (pc' := 3) rfl ?_
  refine G.callS H (m35_checkIndex V h0 H.old) (wd157 V) (wd158 V) (wd159 V) (wd160 V) (by decide) (argsL := [(.int (1 : Int32)), (.int (2 : Int32)), .null]) (rest := []) (W := 0) rfl rfl (lenOf (pd_10) rfl) rfl rfl D5_3 (pc' := 6) rfl (by decide) (by decide) (by decide) (by decide) all0 ?_
  intro T1 h1_ v2 s3 H1 Q4
  obtain ⟨rfl, rfl, rfl⟩ := Q4
  show Go p e below _ (T1.setTop (mkF m 6 #[.val (.int (1 : Int32)), .val (.int (2 : Int32))] [(.int (1 : Int32))]))
  exact G.retI H1 rfl D5_6 (so := []) all0 (by decide) (by decide) ⟨rfl, rfl, rfl⟩
set_option maxRecDepth 65536 in
set_option maxHeartbeats 40000000 in
theorem m37_elementData (V : Env1 Z a0 n0 uu0 uu1 uu2 uu3 uu4 uu5 uu6 uu7 uu8 uu9) (p0 : Addr) (p1 : Addr) (c0 : ClassId) (h0 : Heap) (hO : Old Z n0 h0) (f0 : Fld Z h0 p0 "java/util/ArrayList" "elementData" "[Ljava/lang/Object;" (.ref p1)) (f1 : Arv Z h0 p1 c0 (.object "java/lang/Object") (2 : Int32) [.null, .null] .null) :
    Met Z a0 [] False n0 l (⟨"java/util/ArrayList", "elementData", "(I)Ljava/lang/Object;"⟩ : MethodName) jdk_38_method_18_code 2 (Option.some (FieldType.object "java/lang/Object")) ({ frames := 0, cells := 0, slots := 0, locals := 0 } : Room) #[(.ref p0), (.int (1 : Int32))] h0 [] (fun v h so => (v = some .null ∧ so = [] ∧ h0 = h)) := by
  refine Met.of (EWl V) (by first | decide +kernel | rfl) hO (L0 := #[.val (.ref p0), .val (.int (1 : Int32))]) rfl ?_
  intro p e s m below meth c T H
  show Go p e below _ (T.setTop (mkF m 0 #[.val (.ref p0), .val (.int (1 : Int32))] []))
  refine G.aloadN H D6_0 (pc' := 1) rfl rfl rfl ?_
  refine G.getF H (wd128 V) Via.refl f0 D6_1 (pc' := 4) rfl ?_
  intro T1 H2
  refine G.iloadN H2 D6_4 (pc' := 5) rfl rfl ?_
  refine G.aaloadG H2 f1 rfl (j := (1 : Int32)) (v := .null) (by decide) rfl D6_5 (pc' := 6) rfl ?_
  exact G.retA H2 (t := (.object "java/lang/Object")) rfl rfl rfl D6_6 (so := []) all0 (by decide) (by decide) ⟨rfl, rfl, rfl⟩
set_option maxRecDepth 65536 in
set_option maxHeartbeats 40000000 in
theorem m38_get (V : Env1 Z a0 n0 uu0 uu1 uu2 uu3 uu4 uu5 uu6 uu7 uu8 uu9) (p0 : Addr) (p1 : Addr) (c0 : ClassId) (h0 : Heap) (hO : Old Z n0 h0) (f0 : Fld Z h0 p0 "java/util/ArrayList" "size" "I" (.int (2 : Int32))) (f1 : Exa Z h0 p0 "java/util/ArrayList") (f2 : Fld Z h0 p0 "java/util/ArrayList" "elementData" "[Ljava/lang/Object;" (.ref p1)) (f3 : Arv Z h0 p1 c0 (.object "java/lang/Object") (2 : Int32) [.null, .null] .null) :
    Met Z a0 [] False n0 l (⟨"java/util/ArrayList", "get", "(I)Ljava/lang/Object;"⟩ : MethodName) jdk_38_method_20_code 2 (Option.some (FieldType.object "java/lang/Object")) ({ frames := 2, cells := 0, slots := 0, locals := 27 } : Room) #[(.ref p0), (.int (1 : Int32))] h0 [] (fun v h so => (v = some .null ∧ so = [] ∧ h0 = h)) := by
  refine Met.of (EWl V) (by first | decide +kernel | rfl) hO (L0 := #[.val (.ref p0), .val (.int (1 : Int32))]) rfl ?_
  intro p e s m below meth c T H
  show Go p e below _ (T.setTop (mkF m 0 #[.val (.ref p0), .val (.int (1 : Int32))] []))
  refine G.iloadN H D7_0 (pc' := 1) rfl rfl ?_
  refine G.aloadN H D7_1 (pc' := 2) rfl rfl rfl ?_
  refine G.getF H (wd100 V) Via.refl f0 D7_2 (pc' := 5) rfl ?_
  intro T1 H2
  refine G.callS H2 (m36_checkIndex V h0 H2.old) (wd153 V) (wd154 V) (wd155 V) (wd156 V) (by decide) (argsL := [(.int (1 : Int32)), (.int (2 : Int32))]) (rest := []) (W := 0) rfl rfl (lenOf (pd_6) rfl) rfl rfl D7_5 (pc' := 8) rfl (by decide) (by decide) (by decide) (by decide) all0 ?_
  intro T3 h3_ v4 s5 H3 Q6
  obtain ⟨rfl, rfl, rfl⟩ := Q6
  show Go p e below _ (T3.setTop (mkF m 8 #[.val (.ref p0), .val (.int (1 : Int32))] [(.int (1 : Int32))]))
  refine G.pop H3 D7_8 (pc' := 9) rfl rfl ?_
  refine G.aloadN H3 D7_9 (pc' := 10) rfl rfl rfl ?_
  refine G.iloadN H3 D7_10 (pc' := 11) rfl rfl ?_
  refine G.callV H3 (m37_elementData V p0 p1 c0 h0 H3.old f2 f3) (wd161 V) (wd162 V) (nf_sel (wd164 V)) (wd164 V) (wd163 V) (wd50 V) (wd165 V) (by decide) f1 (argsL := [(.int (1 : Int32))]) (rest := []) (W := 0) rfl rfl (lenOf (pd_11) rfl) rfl rfl D7_11 (pc' := 14) rfl (by decide) (by decide) (by decide) (by decide) all0 ?_
  intro T7 h7_ v8 s9 H7 Q10
  obtain ⟨rfl, rfl, rfl⟩ := Q10
  show Go p e below _ (T7.setTop (mkF m 14 #[.val (.ref p0), .val (.int (1 : Int32))] [.null]))
  exact G.retA H7 (t := (.object "java/lang/Object")) rfl rfl rfl D7_14 (so := []) all0 (by decide) (by decide) ⟨rfl, rfl, rfl⟩
set_option maxRecDepth 65536 in
set_option maxHeartbeats 40000000 in
theorem m39_init (V : Env1 Z a0 n0 uu0 uu1 uu2 uu3 uu4 uu5 uu6 uu7 uu8 uu9) (p0 : Addr) (h0 : Heap) (hO : Old Z n0 h0) (f0 : Exa Z h0 p0 "java/util/ArrayList") (f1 : Fld Z h0 p0 "java/util/AbstractList" "modCount" "I" (.int (0 : Int32))) (g2 : n0 ≤ p0) (f3 : Fld Z h0 p0 "java/util/ArrayList" "elementData" "[Ljava/lang/Object;" .null) :
    Met Z a0 [] False n0 l (⟨"java/util/ArrayList", "<init>", "()V"⟩ : MethodName) jdk_38_method_2_code 1 (Option.none : Option FieldType) ({ frames := 3, cells := 0, slots := 0, locals := 36 } : Room) #[(.ref p0)] h0 [] (fun v h so => (v = none ∧ so = [] ∧ Keep h0 h [p0] ∧ (∀ (O n d : String) (w : Value), Fld Z h0 p0 O n d w → RoadKit.slotOf Z O n d ≠ RoadKit.slotOf Z "java/util/AbstractList" "modCount" "I" → RoadKit.slotOf Z O n d ≠ RoadKit.slotOf Z "java/util/ArrayList" "elementData" "[Ljava/lang/Object;" → Fld Z h p0 O n d w) ∧ Exa Z h p0 "java/util/ArrayList" ∧ Fld Z h p0 "java/util/AbstractList" "modCount" "I" (.int (0 : Int32)) ∧ Fld Z h p0 "java/util/ArrayList" "elementData" "[Ljava/lang/Object;" (.ref uu0))) := by
  refine Met.of (EWl V) (by first | decide +kernel | rfl) hO (L0 := #[.val (.ref p0)]) rfl ?_
  intro p e s m below meth c T H
  show Go p e below _ (T.setTop (mkF m 0 #[.val (.ref p0)] []))
  refine G.aloadN H D11_0 (pc' := 1) rfl rfl rfl ?_
  refine G.callI H (m7_init V p0 h0 H.old f0 f1 g2) rfl (wd85 V) (wd63 V) (wd66 V) (wd67 V) (by decide) (a := p0) (argsL := []) (rest := []) (W := 0) rfl rfl (lenOf (pd_2) rfl) rfl rfl D11_1 (pc' := 4) rfl (by decide) (by decide) (by decide) (by decide) all0 ?_
  intro T1 h1_ v2 s3 H1 Q4
  obtain ⟨rfl, rfl, K5, U6, F7, F8⟩ := Q4
  show Go p e below _ (T1.setTop (mkF m 4 #[.val (.ref p0)] []))
  refine G.aloadN H1 D11_4 (pc' := 5) rfl rfl rfl ?_
  refine G.getS H1 (wd273 V) Via.refl (Sta.ext H1.old.2 (hv0 V)) D11_5 (pc' := 8) rfl ?_
  intro T9 H10
  have F11 := (U6 "java/util/ArrayList" "elementData" "[Ljava/lang/Object;" .null f3 (slot_ne (Or.inl (wd129 V)) (Or.inl (wd88 V)) (by decide) (t := (.array (.object "java/lang/Object"))) (t' := .int) (by decide) (by decide)))
  refine G.putF H10 (wd128 V) Via.refl F11 F7 (Or.inl (wd129 V)) (wd49 V) (ty := (.array (.object "java/lang/Object"))) (by decide) rfl rfl g2 (Sf.exa F7) D11_8 (pc' := 11) rfl ?_
  intro T12 h12_ H12 W13
  have F14 : Fld Z h12_ p0 "java/util/ArrayList" "elementData" "[Ljava/lang/Object;" (.ref uu0) := Fld.same W13 F11
  have F15 := (Exa.wr W13 F7)
  have F16 := (Fld.other W13 F8 (Or.inr (slot_ne (Or.inl (wd88 V)) (Or.inl (wd129 V)) (by decide) (t := .int) (t' := (.array (.object "java/lang/Object"))) (by decide) (by decide))))
  have K17 : Keep h0 h12_ [p0] := (Keep.wr (Keep.trans (Keep.refl h0 [p0]) K5 (allS (Or.inl (List.mem_of_getElem? (i := 0) rfl)) all0)) W13 (Or.inl (List.mem_of_getElem? (i := 0) rfl)))
  exact G.retV H12 rfl D11_11 (so := []) all0 (by decide) (by decide) ⟨rfl, rfl, K17, (fun O n d w F hn0 hn1 => (Fld.other W13 (U6 O n d w F hn0) (Or.inr hn1))), F15, F16, F14⟩
set_option maxRecDepth 65536 in
set_option maxHeartbeats 40000000 in
theorem m40_set (V : Env1 Z a0 n0 uu0 uu1 uu2 uu3 uu4 uu5 uu6 uu7 uu8 uu9) (p0 : Addr) (p1 : Addr) (p2 : Addr) (c0 : ClassId) (h0 : Heap) (hO : Old Z n0 h0) (f0 : Fld Z h0 p0 "java/util/ArrayList" "size" "I" (.int (2 : Int32))) (f1 : Exa Z h0 p0 "java/util/ArrayList") (f2 : Fld Z h0 p0 "java/util/ArrayList" "elementData" "[Ljava/lang/Object;" (.ref p2)) (f3 : Arv Z h0 p2 c0 (.object "java/lang/Object") (2 : Int32) [.null, .null] .null) (g4 : n0 ≤ p2) (o5 : Ovr Z c0 "java/lang/Object") (f6 : Exa Z h0 p1 "java/util/ArrayList") :
    Met Z a0 [] False n0 l (⟨"java/util/ArrayList", "set", "(ILjava/lang/Object;)Ljava/lang/Object;"⟩ : MethodName) jdk_38_method_23_code 4 (Option.some (FieldType.object "java/lang/Object")) ({ frames := 2, cells := 0, slots := 0, locals := 27 } : Room) #[(.ref p0), (.int (1 : Int32)), (.ref p1)] h0 [] (fun v h so => (v = some .null ∧ so = [] ∧ Keep h0 h [p2] ∧ Arv Z h p2 c0 (.object "java/lang/Object") (2 : Int32) [.null, (.ref p1)] .null)) := by
  refine Met.of (EWl V) (by first | decide +kernel | rfl) hO (L0 := #[.val (.ref p0), .val (.int (1 : Int32)), .val (.ref p1), .unset]) rfl ?_
  intro p e s m below meth c T H
  show Go p e below _ (T.setTop (mkF m 0 #[.val (.ref p0), .val (.int (1 : Int32)), .val (.ref p1), .unset] []))
  refine G.iloadN H D8_0 (pc' := 1) rfl rfl ?_
  refine G.aloadN H D8_1 (pc' := 2) rfl rfl rfl ?_
  refine G.getF H (wd100 V) Via.refl f0 D8_2 (pc' := 5) rfl ?_
  intro T1 H2
  refine G.callS H2 (m36_checkIndex V h0 H2.old) (wd153 V) (wd154 V) (wd155 V) (wd156 V) (by decide) (argsL := [(.int (1 : Int32)), (.int (2 : Int32))]) (rest := []) (W := 0) rfl rfl (lenOf (pd_6) rfl) rfl rfl D8_5 (pc' := 8) rfl (by decide) (by decide) (by decide) (by decide) all0 ?_
  intro T3 h3_ v4 s5 H3 Q6
  obtain ⟨rfl, rfl, rfl⟩ := Q6
  show Go p e below _ (T3.setTop (mkF m 8 #[.val (.ref p0), .val (.int (1 : Int32)), .val (.ref p1), .unset] [(.int (1 : Int32))]))
  refine G.pop H3 D8_8 (pc' := 9) rfl rfl ?_
  refine G.aloadN H3 D8_9 (pc' := 10) rfl rfl rfl ?_
  refine G.iloadN H3 D8_10 (pc' := 11) rfl rfl ?_
  refine G.callV H3 (m37_elementData V p0 p2 c0 h0 H3.old f2 f3) (wd161 V) (wd162 V) (nf_sel (wd164 V)) (wd164 V) (wd163 V) (wd50 V) (wd165 V) (by decide) f1 (argsL := [(.int (1 : Int32))]) (rest := []) (W := 0) rfl rfl (lenOf (pd_11) rfl) rfl rfl D8_11 (pc' := 14) rfl (by decide) (by decide) (by decide) (by decide) all0 ?_
  intro T7 h7_ v8 s9 H7 Q10
  obtain ⟨rfl, rfl, rfl⟩ := Q10
  show Go p e below _ (T7.setTop (mkF m 14 #[.val (.ref p0), .val (.int (1 : Int32)), .val (.ref p1), .unset] [.null]))
  refine G.astoreN H7 (L' := #[.val (.ref p0), .val (.int (1 : Int32)), .val (.ref p1), .val .null]) D8_14 (pc' := 15) rfl rfl rfl ?_
  refine G.aloadN H7 D8_15 (pc' := 16) rfl rfl rfl ?_
  refine G.getF H7 (wd128 V) Via.refl f2 D8_16 (pc' := 19) rfl ?_
  intro T11 H12
  refine G.iloadN H12 D8_19 (pc' := 20) rfl rfl ?_
  refine G.aloadN H12 D8_20 (pc' := 21) rfl rfl rfl ?_
  refine G.stR H12 f3 rfl (OwnKit.sto_of f3 o5 (Ins.of_exa f6 (wd274 V))) rfl (by decide) (i := 1) rfl (Nat.le_of_ble_eq_true rfl) g4 D8_21 (pc' := 22) rfl ?_
  intro T13 h13_ H13 W14 A15
  replace A15 : Arv Z h13_ p2 c0 (.object "java/lang/Object") (2 : Int32) [.null, (.ref p1)] .null := A15
  refine G.aloadN H13 D8_22 (pc' := 23) rfl rfl rfl ?_
  have K16 : Keep h0 h13_ [p2] := (Keep.wr (Keep.refl h0 [p2]) W14 (Or.inl (List.mem_of_getElem? (i := 0) rfl)))
  exact G.retA H13 (t := (.object "java/lang/Object")) rfl rfl rfl D8_23 (so := []) all0 (by decide) (by decide) ⟨rfl, rfl, K16, A15⟩
set_option maxRecDepth 65536 in
set_option maxHeartbeats 40000000 in
theorem m41_elementData (V : Env1 Z a0 n0 uu0 uu1 uu2 uu3 uu4 uu5 uu6 uu7 uu8 uu9) (p0 : Addr) (p1 : Addr) (c0 : ClassId) (p2 : Addr) (h0 : Heap) (hO : Old Z n0 h0) (f0 : Fld Z h0 p0 "java/util/ArrayList" "elementData" "[Ljava/lang/Object;" (.ref p1)) (f1 : Arv Z h0 p1 c0 (.object "java/lang/Object") (2 : Int32) [.null, (.ref p2)] .null) :
    Met Z a0 [] False n0 l (⟨"java/util/ArrayList", "elementData", "(I)Ljava/lang/Object;"⟩ : MethodName) jdk_38_method_18_code 2 (Option.some (FieldType.object "java/lang/Object")) ({ frames := 0, cells := 0, slots := 0, locals := 0 } : Room) #[(.ref p0), (.int (1 : Int32))] h0 [] (fun v h so => (v = some (.ref p2) ∧ so = [] ∧ h0 = h)) := by
  refine Met.of (EWl V) (by first | decide +kernel | rfl) hO (L0 := #[.val (.ref p0), .val (.int (1 : Int32))]) rfl ?_
  intro p e s m below meth c T H
  show Go p e below _ (T.setTop (mkF m 0 #[.val (.ref p0), .val (.int (1 : Int32))] []))
  refine G.aloadN H D6_0 (pc' := 1) rfl rfl rfl ?_
  refine G.getF H (wd128 V) Via.refl f0 D6_1 (pc' := 4) rfl ?_
  intro T1 H2
  refine G.iloadN H2 D6_4 (pc' := 5) rfl rfl ?_
  refine G.aaloadG H2 f1 rfl (j := (1 : Int32)) (v := (.ref p2)) (by decide) rfl D6_5 (pc' := 6) rfl ?_
  exact G.retA H2 (t := (.object "java/lang/Object")) rfl rfl rfl D6_6 (so := []) all0 (by decide) (by decide) ⟨rfl, rfl, rfl⟩
set_option maxRecDepth 65536 in
set_option maxHeartbeats 40000000 in
theorem m42_get (V : Env1 Z a0 n0 uu0 uu1 uu2 uu3 uu4 uu5 uu6 uu7 uu8 uu9) (p0 : Addr) (p1 : Addr) (c0 : ClassId) (p2 : Addr) (h0 : Heap) (hO : Old Z n0 h0) (f0 : Fld Z h0 p0 "java/util/ArrayList" "size" "I" (.int (2 : Int32))) (f1 : Exa Z h0 p0 "java/util/ArrayList") (f2 : Fld Z h0 p0 "java/util/ArrayList" "elementData" "[Ljava/lang/Object;" (.ref p1)) (f3 : Arv Z h0 p1 c0 (.object "java/lang/Object") (2 : Int32) [.null, (.ref p2)] .null) :
    Met Z a0 [] False n0 l (⟨"java/util/ArrayList", "get", "(I)Ljava/lang/Object;"⟩ : MethodName) jdk_38_method_20_code 2 (Option.some (FieldType.object "java/lang/Object")) ({ frames := 2, cells := 0, slots := 0, locals := 27 } : Room) #[(.ref p0), (.int (1 : Int32))] h0 [] (fun v h so => (v = some (.ref p2) ∧ so = [] ∧ h0 = h)) := by
  refine Met.of (EWl V) (by first | decide +kernel | rfl) hO (L0 := #[.val (.ref p0), .val (.int (1 : Int32))]) rfl ?_
  intro p e s m below meth c T H
  show Go p e below _ (T.setTop (mkF m 0 #[.val (.ref p0), .val (.int (1 : Int32))] []))
  refine G.iloadN H D7_0 (pc' := 1) rfl rfl ?_
  refine G.aloadN H D7_1 (pc' := 2) rfl rfl rfl ?_
  refine G.getF H (wd100 V) Via.refl f0 D7_2 (pc' := 5) rfl ?_
  intro T1 H2
  refine G.callS H2 (m36_checkIndex V h0 H2.old) (wd153 V) (wd154 V) (wd155 V) (wd156 V) (by decide) (argsL := [(.int (1 : Int32)), (.int (2 : Int32))]) (rest := []) (W := 0) rfl rfl (lenOf (pd_6) rfl) rfl rfl D7_5 (pc' := 8) rfl (by decide) (by decide) (by decide) (by decide) all0 ?_
  intro T3 h3_ v4 s5 H3 Q6
  obtain ⟨rfl, rfl, rfl⟩ := Q6
  show Go p e below _ (T3.setTop (mkF m 8 #[.val (.ref p0), .val (.int (1 : Int32))] [(.int (1 : Int32))]))
  refine G.pop H3 D7_8 (pc' := 9) rfl rfl ?_
  refine G.aloadN H3 D7_9 (pc' := 10) rfl rfl rfl ?_
  refine G.iloadN H3 D7_10 (pc' := 11) rfl rfl ?_
  refine G.callV H3 (m41_elementData V p0 p1 c0 p2 h0 H3.old f2 f3) (wd161 V) (wd162 V) (nf_sel (wd164 V)) (wd164 V) (wd163 V) (wd50 V) (wd165 V) (by decide) f1 (argsL := [(.int (1 : Int32))]) (rest := []) (W := 0) rfl rfl (lenOf (pd_11) rfl) rfl rfl D7_11 (pc' := 14) rfl (by decide) (by decide) (by decide) (by decide) all0 ?_
  intro T7 h7_ v8 s9 H7 Q10
  obtain ⟨rfl, rfl, rfl⟩ := Q10
  show Go p e below _ (T7.setTop (mkF m 14 #[.val (.ref p0), .val (.int (1 : Int32))] [(.ref p2)]))
  exact G.retA H7 (t := (.object "java/lang/Object")) rfl rfl rfl D7_14 (so := []) all0 (by decide) (by decide) ⟨rfl, rfl, rfl⟩
set_option maxRecDepth 65536 in
set_option maxHeartbeats 40000000 in
theorem m43_max (V : Env1 Z a0 n0 uu0 uu1 uu2 uu3 uu4 uu5 uu6 uu7 uu8 uu9)  (h0 : Heap) (hO : Old Z n0 h0)  :
    Met Z a0 [] False n0 l (⟨"java/lang/Math", "max", "(II)I"⟩ : MethodName) jdk_29_method_65_code 2 (Option.some FieldType.int) ({ frames := 0, cells := 0, slots := 0, locals := 0 } : Room) #[(.int (10 : Int32)), (.int (1 : Int32))] h0 [] (fun v h so => (v = some (.int (10 : Int32)) ∧ so = [] ∧ h0 = h)) := by
  refine Met.of (EWl V) (by first | decide +kernel | rfl) hO (L0 := #[.val (.int (10 : Int32)), .val (.int (1 : Int32))]) rfl ?_
  intro p e s m below meth c T H
  show Go p e below _ (T.setTop (mkF m 0 #[.val (.int (10 : Int32)), .val (.int (1 : Int32))] []))
  refine G.iloadN H D3_0 (pc' := 1) rfl rfl ?_
  refine G.iloadN H D3_1 (pc' := 2) rfl rfl ?_
  refine G.icmpNo H D3_2 (pc' := 5) rfl (by decide) ?_
  refine G.iloadN H D3_5 (pc' := 6) rfl rfl ?_
  refine G.goto H D3_6 (by decide) (pc' := 10) rfl ?_
  exact G.retI H rfl D3_10 (so := []) all0 (by decide) (by decide) ⟨rfl, rfl, rfl⟩
set_option maxRecDepth 65536 in
set_option maxHeartbeats 40000000 in
theorem m44_grow (V : Env1 Z a0 n0 uu0 uu1 uu2 uu3 uu4 uu5 uu6 uu7 uu8 uu9) (p0 : Addr) (h0 : Heap) (hO : Old Z n0 h0) (f0 : Fld Z h0 p0 "java/util/ArrayList" "elementData" "[Ljava/lang/Object;" (.ref uu0)) (f1 : Exa Z h0 p0 "java/util/ArrayList") (g2 : n0 ≤ p0) :
    Met Z a0 [] False n0 l (⟨"java/util/ArrayList", "grow", "(I)[Ljava/lang/Object;"⟩ : MethodName) jdk_38_method_6_code 4 (Option.some (FieldType.array (FieldType.object "java/lang/Object"))) ({ frames := 1, cells := 1, slots := 10, locals := 14 } : Room) #[(.ref p0), (.int (1 : Int32))] h0 [] (fun v h so => (∃ a13 : Addr, ∃ k16 : ClassId, v = some (.ref a13) ∧ so = [] ∧ Keep h0 h [p0] ∧ h0.size ≤ a13 ∧ (∀ (O n d : String) (w : Value), Fld Z h0 p0 O n d w → RoadKit.slotOf Z O n d ≠ RoadKit.slotOf Z "java/util/ArrayList" "elementData" "[Ljava/lang/Object;" → Fld Z h p0 O n d w) ∧ Ovr Z k16 "java/lang/Object" ∧ Fld Z h p0 "java/util/ArrayList" "elementData" "[Ljava/lang/Object;" (.ref a13) ∧ Exa Z h p0 "java/util/ArrayList" ∧ Arv Z h a13 k16 (.object "java/lang/Object") (10 : Int32) [.null, .null, .null, .null, .null, .null, .null, .null, .null, .null] .null ∧ Exa Z h a13 "[Ljava/lang/Object;")) := by
  refine Met.of (EWl V) (by first | decide +kernel | rfl) hO (L0 := #[.val (.ref p0), .val (.int (1 : Int32)), .unset, .unset]) rfl ?_
  intro p e s m below meth c T H
  show Go p e below _ (T.setTop (mkF m 0 #[.val (.ref p0), .val (.int (1 : Int32)), .unset, .unset] []))
  refine G.aloadN H D13_0 (pc' := 1) rfl rfl rfl ?_
  refine G.getF H (wd128 V) Via.refl f0 D13_1 (pc' := 4) rfl ?_
  intro T1 H2
  have B3 := Arv.ext (hv8 V) H2.old.2
  refine G.arrlen H2 B3 D13_4 (pc' := 5) rfl ?_
  refine G.istoreN H2 (L' := #[.val (.ref p0), .val (.int (1 : Int32)), .val (.int (0 : Int32)), .unset]) D13_5 (pc' := 6) rfl rfl ?_
  refine G.iloadN H2 D13_6 (pc' := 7) rfl rfl ?_
  refine G.ifNo H2 D13_7 (pc' := 10) rfl (by decide) ?_
  refine G.aloadN H2 D13_10 (pc' := 11) rfl rfl rfl ?_
  refine G.getF H2 (wd128 V) Via.refl f0 D13_11 (pc' := 14) rfl ?_
  intro T4 H5
  refine G.getS H5 (wd273 V) Via.refl (Sta.ext H5.old.2 (hv0 V)) D13_14 (pc' := 17) rfl ?_
  intro T6 H7
  refine G.acmpYes H7 D13_17 rfl rfl (XT.aa_eq_t rfl) (by decide) (pc' := 45) rfl ?_
  refine G.aloadN H7 D13_45 (pc' := 46) rfl rfl rfl ?_
  refine G.bipush H7 D13_46 (pc' := 48) rfl (v := (10 : Int32)) rfl ?_
  refine G.iloadN H7 D13_48 (pc' := 49) rfl rfl ?_
  refine G.callS H7 (m43_max V h0 H7.old) (wd301 V) (wd302 V) (wd122 V) (wd303 V) (by decide) (argsL := [(.int (10 : Int32)), (.int (1 : Int32))]) (rest := [(.ref p0)]) (W := 1) rfl rfl (lenOf (pd_6) rfl) rfl rfl D13_49 (pc' := 52) rfl (by decide) (by decide) (by decide) (by decide) all0 ?_
  intro T8 h8_ v9 s10 H8 Q11
  obtain ⟨rfl, rfl, rfl⟩ := Q11
  show Go p e below _ (T8.setTop (mkF m 52 #[.val (.ref p0), .val (.int (1 : Int32)), .val (.int (0 : Int32)), .unset] [(.int (10 : Int32)), (.ref p0)]))
  refine G.newR H8 (wd304 V) (wd99 V) D13_52 (pc' := 55) rfl (by decide) (cap := 10) (by decide) (by decide) (by decide) (by decide) (vs := [.null, .null, .null, .null, .null, .null, .null, .null, .null, .null]) rfl (ad := "[Ljava/lang/Object;") rfl ?_
  intro T12 h12_ a13 k16 ga13 H12 E14 A15 X17 O18
  have na13 := H8.nle ga13
  refine G.dupX1 H12 D13_55 (pc' := 56) rfl rfl rfl ?_
  have F19 := (Exa.ext E14 f1)
  have F20 := (Fld.ext E14 f0)
  refine G.putF H12 (wd128 V) Via.refl F20 F19 (Or.inl (wd129 V)) (wd49 V) (ty := (.array (.object "java/lang/Object"))) (by decide) rfl rfl g2 (Sf.exa F19) D13_56 (pc' := 59) rfl ?_
  intro T21 h21_ H21 W22
  have F23 : Fld Z h21_ p0 "java/util/ArrayList" "elementData" "[Ljava/lang/Object;" (.ref a13) := Fld.same W22 F20
  have F24 := (Exa.wr W22 F19)
  have N25 : a13 ≠ p0 := (Ne.symm (Nat.ne_of_lt (Nat.lt_of_lt_of_le f0.lt (Nat.le_of_eq ga13.symm))))
  have F26 := (Arv.other A15 W22 N25)
  have F27 := (Exa.wr W22 X17)
  have K28 : Keep h0 h21_ [p0] := (Keep.wr (Keep.ext (Keep.refl h0 [p0]) E14) W22 (Or.inl (List.mem_of_getElem? (i := 0) rfl)))
  exact G.retA H21 (t := (.array (.object "java/lang/Object"))) rfl rfl rfl D13_59 (so := []) all0 (by decide) (by decide) ⟨a13, k16, rfl, rfl, K28, (Nat.le_of_eq ga13.symm), (fun O n d w F hn0 => (Fld.other W22 (Fld.ext E14 F) (Or.inr hn0))), O18, F23, F24, F26, F27⟩
set_option maxRecDepth 65536 in
set_option maxHeartbeats 40000000 in
theorem m45_grow (V : Env1 Z a0 n0 uu0 uu1 uu2 uu3 uu4 uu5 uu6 uu7 uu8 uu9) (p0 : Addr) (h0 : Heap) (hO : Old Z n0 h0) (f0 : Fld Z h0 p0 "java/util/ArrayList" "size" "I" (.int (0 : Int32))) (f1 : Exa Z h0 p0 "java/util/ArrayList") (f2 : Fld Z h0 p0 "java/util/ArrayList" "elementData" "[Ljava/lang/Object;" (.ref uu0)) (g3 : n0 ≤ p0) :
    Met Z a0 [] False n0 l (⟨"java/util/ArrayList", "grow", "()[Ljava/lang/Object;"⟩ : MethodName) jdk_38_method_7_code 1 (Option.some (FieldType.array (FieldType.object "java/lang/Object"))) ({ frames := 2, cells := 1, slots := 10, locals := 29 } : Room) #[(.ref p0)] h0 [] (fun v h so => (∃ a7 : Addr, ∃ k8 : ClassId, v = some (.ref a7) ∧ so = [] ∧ Keep h0 h [p0] ∧ h0.size ≤ a7 ∧ (∀ (O n d : String) (w : Value), Fld Z h0 p0 O n d w → RoadKit.slotOf Z O n d ≠ RoadKit.slotOf Z "java/util/ArrayList" "elementData" "[Ljava/lang/Object;" → Fld Z h p0 O n d w) ∧ Ovr Z k8 "java/lang/Object" ∧ Fld Z h p0 "java/util/ArrayList" "size" "I" (.int (0 : Int32)) ∧ Exa Z h p0 "java/util/ArrayList" ∧ Fld Z h p0 "java/util/ArrayList" "elementData" "[Ljava/lang/Object;" (.ref a7) ∧ Arv Z h a7 k8 (.object "java/lang/Object") (10 : Int32) [.null, .null, .null, .null, .null, .null, .null, .null, .null, .null] .null ∧ Exa Z h a7 "[Ljava/lang/Object;")) := by
  refine Met.of (EWl V) (by first | decide +kernel | rfl) hO (L0 := #[.val (.ref p0)]) rfl ?_
  intro p e s m below meth c T H
  show Go p e below _ (T.setTop (mkF m 0 #[.val (.ref p0)] []))
  refine G.aloadN H D14_0 (pc' := 1) rfl rfl rfl ?_
  refine G.aloadN H D14_1 (pc' := 2) rfl rfl rfl ?_
  refine G.getF H (wd100 V) Via.refl f0 D14_2 (pc' := 5) rfl ?_
  intro T1 H2
  refine G.iconst H2 D14_5 (pc' := 6) rfl (v := (1 : Int32)) rfl ?_
  refine G.iadd H2 D14_6 (pc' := 7) rfl ?_
  show Go p e below _ (T1.setTop (mkF m 7 #[.val (.ref p0)] [(.int (1 : Int32)), (.ref p0)]))
  refine G.callP H2 (m44_grow V p0 h0 H2.old f2 f1 g3) (wd296 V) (wd297 V) (wd299 V) (wd298 V) (wd50 V) (wd300 V) (by decide) f1 (argsL := [(.int (1 : Int32))]) (rest := []) (W := 0) rfl rfl (lenOf (pd_21) rfl) rfl rfl D14_7 (pc' := 10) rfl (by decide) (by decide) (by decide) (by decide) all0 ?_
  intro T3 h3_ v4 s5 H3 Q6
  obtain ⟨a7, k8, rfl, rfl, K9, g10, U11, O12, F13, F14, F15, F16⟩ := Q6
  have na7 : n0 ≤ a7 := Nat.le_trans H.le g10
  show Go p e below _ (T3.setTop (mkF m 10 #[.val (.ref p0)] [(.ref a7)]))
  have F17 := (U11 "java/util/ArrayList" "size" "I" (.int (0 : Int32)) f0 (slot_ne (Or.inl (wd101 V)) (Or.inl (wd129 V)) (by decide) (t := .int) (t' := (.array (.object "java/lang/Object"))) (by decide) (by decide)))
  have K18 : Keep h0 h3_ [p0] := (Keep.trans (Keep.refl h0 [p0]) K9 (allS (Or.inl (List.mem_of_getElem? (i := 0) rfl)) all0))
  exact G.retA H3 (t := (.array (.object "java/lang/Object"))) rfl rfl rfl D14_10 (so := []) all0 (by decide) (by decide) ⟨a7, k8, rfl, rfl, K18, g10, (fun O n d w F hn0 => (U11 O n d w F hn0)), O12, F17, F14, F13, F15, F16⟩
set_option maxRecDepth 65536 in
set_option maxHeartbeats 40000000 in
theorem m46_add (V : Env1 Z a0 n0 uu0 uu1 uu2 uu3 uu4 uu5 uu6 uu7 uu8 uu9) (p0 : Addr) (h0 : Heap) (hO : Old Z n0 h0) (f0 : Exa Z h0 p0 "java/util/ArrayList") (f1 : Fld Z h0 p0 "java/util/ArrayList" "size" "I" (.int (0 : Int32))) (f2 : Fld Z h0 p0 "java/util/ArrayList" "elementData" "[Ljava/lang/Object;" (.ref uu0)) (g3 : n0 ≤ p0) :
    Met Z a0 [] False n0 l (⟨"java/util/ArrayList", "add", "(Ljava/lang/Object;[Ljava/lang/Object;I)V"⟩ : MethodName) jdk_38_method_24_code 4 (Option.none : Option FieldType) ({ frames := 3, cells := 1, slots := 10, locals := 41 } : Room) #[(.ref p0), .null, (.ref uu0), (.int (0 : Int32))] h0 [] (fun v h so => (∃ a6 : Addr, ∃ k7 : ClassId, v = none ∧ so = [] ∧ Keep h0 h [p0] ∧ h0.size ≤ a6 ∧ (∀ (O n d : String) (w : Value), Fld Z h0 p0 O n d w → RoadKit.slotOf Z O n d ≠ RoadKit.slotOf Z "java/util/ArrayList" "elementData" "[Ljava/lang/Object;" → RoadKit.slotOf Z O n d ≠ RoadKit.slotOf Z "java/util/ArrayList" "size" "I" → Fld Z h p0 O n d w) ∧ Ovr Z k7 "java/lang/Object" ∧ Exa Z h p0 "java/util/ArrayList" ∧ Fld Z h p0 "java/util/ArrayList" "size" "I" (.int (1 : Int32)) ∧ Fld Z h p0 "java/util/ArrayList" "elementData" "[Ljava/lang/Object;" (.ref a6) ∧ Arv Z h a6 k7 (.object "java/lang/Object") (10 : Int32) [.null, .null, .null, .null, .null, .null, .null, .null, .null, .null] .null ∧ Exa Z h a6 "[Ljava/lang/Object;")) := by
  refine Met.of (EWl V) (by first | decide +kernel | rfl) hO (L0 := #[.val (.ref p0), .val .null, .val (.ref uu0), .val (.int (0 : Int32))]) rfl ?_
  intro p e s m below meth c T H
  show Go p e below _ (T.setTop (mkF m 0 #[.val (.ref p0), .val .null, .val (.ref uu0), .val (.int (0 : Int32))] []))
  refine G.iloadN H D9_0 (pc' := 1) rfl rfl ?_
  refine G.aloadN H D9_1 (pc' := 2) rfl rfl rfl ?_
  have B1 := Arv.ext (hv8 V) H.old.2
  refine G.arrlen H B1 D9_2 (pc' := 3) rfl ?_
  refine G.icmpNo H D9_3 (pc' := 6) rfl (by decide) ?_
  refine G.aloadN H D9_6 (pc' := 7) rfl rfl rfl ?_
  refine G.callP H (m45_grow V p0 h0 H.old f1 f0 f2 g3) (wd291 V) (wd292 V) (wd294 V) (wd293 V) (wd50 V) (wd295 V) (by decide) f0 (argsL := []) (rest := []) (W := 0) rfl rfl (lenOf (pd_5) rfl) rfl rfl D9_7 (pc' := 10) rfl (by decide) (by decide) (by decide) (by decide) all0 ?_
  intro T2 h2_ v3 s4 H2 Q5
  obtain ⟨a6, k7, rfl, rfl, K8, g9, U10, O11, F12, F13, F14, F15, F16⟩ := Q5
  have na6 : n0 ≤ a6 := Nat.le_trans H.le g9
  show Go p e below _ (T2.setTop (mkF m 10 #[.val (.ref p0), .val .null, .val (.ref uu0), .val (.int (0 : Int32))] [(.ref a6)]))
  refine G.astoreN H2 (L' := #[.val (.ref p0), .val .null, .val (.ref a6), .val (.int (0 : Int32))]) D9_10 (pc' := 11) rfl rfl rfl ?_
  refine G.aloadN H2 D9_11 (pc' := 12) rfl rfl rfl ?_
  refine G.iloadN H2 D9_12 (pc' := 13) rfl rfl ?_
  refine G.aloadN H2 D9_13 (pc' := 14) rfl rfl rfl ?_
  refine G.stR H2 F15 rfl (Or.inl rfl) rfl (by decide) (i := 0) rfl (Nat.le_of_ble_eq_true rfl) na6 D9_14 (pc' := 15) rfl ?_
  intro T17 h17_ H17 W18 A19
  replace A19 : Arv Z h17_ a6 k7 (.object "java/lang/Object") (10 : Int32) [.null, .null, .null, .null, .null, .null, .null, .null, .null, .null] .null := A19
  refine G.aloadN H17 D9_15 (pc' := 16) rfl rfl rfl ?_
  refine G.iloadN H17 D9_16 (pc' := 17) rfl rfl ?_
  refine G.iconst H17 D9_17 (pc' := 18) rfl (v := (1 : Int32)) rfl ?_
  refine G.iadd H17 D9_18 (pc' := 19) rfl ?_
  show Go p e below _ (T17.setTop (mkF m 19 #[.val (.ref p0), .val .null, .val (.ref a6), .val (.int (0 : Int32))] [(.int (1 : Int32)), (.ref p0)]))
  have F20 := (Exa.wr W18 F13)
  have N21 : p0 ≠ a6 := Exa.neArv F20 A19 (wd49 V)
  have F22 := (Fld.other W18 F12 (Or.inl N21))
  refine G.putF H17 (wd100 V) Via.refl F22 F20 (Or.inl (wd101 V)) (wd49 V) (ty := .int) (by decide) rfl rfl g3 (Sf.exa F20) D9_19 (pc' := 22) rfl ?_
  intro T23 h23_ H23 W24
  have F25 : Fld Z h23_ p0 "java/util/ArrayList" "size" "I" (.int (1 : Int32)) := Fld.same W24 F22
  have F26 := (Exa.wr W24 F20)
  have F27 := (Fld.other W24 (Fld.other W18 F14 (Or.inl N21)) (Or.inr (slot_ne (Or.inl (wd129 V)) (Or.inl (wd101 V)) (by decide) (t := (.array (.object "java/lang/Object"))) (t' := .int) (by decide) (by decide))))
  have F28 := (Arv.other A19 W24 (Ne.symm N21))
  have K29 : Keep h2_ h23_ [a6, p0] := (Keep.wr (Keep.wr (Keep.refl h2_ [a6, p0]) W18 (Or.inl (List.mem_of_getElem? (i := 0) rfl))) W24 (Or.inl (List.mem_of_getElem? (i := 1) rfl)))
  have F30 := (Exa.keep F16 K29)
  have K31 : Keep h0 h23_ [p0] := (Keep.wr (Keep.wr (Keep.trans (Keep.refl h0 [p0]) K8 (allS (Or.inl (List.mem_of_getElem? (i := 0) rfl)) all0)) W18 (Or.inr g9)) W24 (Or.inl (List.mem_of_getElem? (i := 0) rfl)))
  exact G.retV H23 rfl D9_22 (so := []) all0 (by decide) (by decide) ⟨a6, k7, rfl, rfl, K31, g9, (fun O n d w F hn0 hn1 => (Fld.other W24 (Fld.other W18 (U10 O n d w F hn0) (Or.inl N21)) (Or.inr hn1))), O11, F26, F25, F27, F28, F30⟩
set_option maxRecDepth 65536 in
set_option maxHeartbeats 40000000 in
theorem m47_add (V : Env1 Z a0 n0 uu0 uu1 uu2 uu3 uu4 uu5 uu6 uu7 uu8 uu9) (p0 : Addr) (h0 : Heap) (hO : Old Z n0 h0) (f0 : Fld Z h0 p0 "java/util/AbstractList" "modCount" "I" (.int (0 : Int32))) (f1 : Exa Z h0 p0 "java/util/ArrayList") (g2 : n0 ≤ p0) (f3 : Fld Z h0 p0 "java/util/ArrayList" "elementData" "[Ljava/lang/Object;" (.ref uu0)) (f4 : Fld Z h0 p0 "java/util/ArrayList" "size" "I" (.int (0 : Int32))) :
    Met Z a0 [] False n0 l (⟨"java/util/ArrayList", "add", "(Ljava/lang/Object;)Z"⟩ : MethodName) jdk_38_method_25_code 2 (Option.some FieldType.boolean) ({ frames := 4, cells := 1, slots := 10, locals := 56 } : Room) #[(.ref p0), .null] h0 [] (fun v h so => (∃ a17 : Addr, ∃ k18 : ClassId, v = some (.int (1 : Int32)) ∧ so = [] ∧ Keep h0 h [p0] ∧ h0.size ≤ a17 ∧ (∀ (O n d : String) (w : Value), Fld Z h0 p0 O n d w → RoadKit.slotOf Z O n d ≠ RoadKit.slotOf Z "java/util/AbstractList" "modCount" "I" → RoadKit.slotOf Z O n d ≠ RoadKit.slotOf Z "java/util/ArrayList" "elementData" "[Ljava/lang/Object;" → RoadKit.slotOf Z O n d ≠ RoadKit.slotOf Z "java/util/ArrayList" "size" "I" → Fld Z h p0 O n d w) ∧ Ovr Z k18 "java/lang/Object" ∧ Fld Z h p0 "java/util/AbstractList" "modCount" "I" (.int (1 : Int32)) ∧ Exa Z h p0 "java/util/ArrayList" ∧ Fld Z h p0 "java/util/ArrayList" "elementData" "[Ljava/lang/Object;" (.ref a17) ∧ Fld Z h p0 "java/util/ArrayList" "size" "I" (.int (1 : Int32)) ∧ Arv Z h a17 k18 (.object "java/lang/Object") (10 : Int32) [.null, .null, .null, .null, .null, .null, .null, .null, .null, .null] .null ∧ Exa Z h a17 "[Ljava/lang/Object;")) := by
  refine Met.of (EWl V) (by first | decide +kernel | rfl) hO (L0 := #[.val (.ref p0), .val .null]) rfl ?_
  intro p e s m below meth c T H
  show Go p e below _ (T.setTop (mkF m 0 #[.val (.ref p0), .val .null] []))
  refine G.aloadN H D10_0 (pc' := 1) rfl rfl rfl ?_
  refine G.dup H D10_1 (pc' := 2) rfl rfl ?_
  refine G.getF H (wd284 V) (Via.of (wd285 V)) f0 D10_2 (pc' := 5) rfl ?_
  intro T1 H2
  refine G.iconst H2 D10_5 (pc' := 6) rfl (v := (1 : Int32)) rfl ?_
  refine G.iadd H2 D10_6 (pc' := 7) rfl ?_
  show Go p e below _ (T1.setTop (mkF m 7 #[.val (.ref p0), .val .null] [(.int (1 : Int32)), (.ref p0)]))
  refine G.putF H2 (wd284 V) (Via.of (wd285 V)) f0 f1 (Or.inl (wd88 V)) (wd49 V) (ty := .int) (by decide) rfl rfl g2 (Sf.exa f1) D10_7 (pc' := 10) rfl ?_
  intro T3 h3_ H3 W4
  have F5 : Fld Z h3_ p0 "java/util/AbstractList" "modCount" "I" (.int (1 : Int32)) := Fld.same W4 f0
  refine G.aloadN H3 D10_10 (pc' := 11) rfl rfl rfl ?_
  refine G.aloadN H3 D10_11 (pc' := 12) rfl rfl rfl ?_
  refine G.aloadN H3 D10_12 (pc' := 13) rfl rfl rfl ?_
  have F6 := (Fld.other W4 f3 (Or.inr (slot_ne (Or.inl (wd129 V)) (Or.inl (wd88 V)) (by decide) (t := (.array (.object "java/lang/Object"))) (t' := .int) (by decide) (by decide))))
  refine G.getF H3 (wd128 V) Via.refl F6 D10_13 (pc' := 16) rfl ?_
  intro T7 H8
  refine G.aloadN H8 D10_16 (pc' := 17) rfl rfl rfl ?_
  have F9 := (Fld.other W4 f4 (Or.inr (slot_ne (Or.inl (wd101 V)) (Or.inl (wd88 V)) (by decide) (t := .int) (t' := .int) (by decide) (by decide))))
  refine G.getF H8 (wd100 V) Via.refl F9 D10_17 (pc' := 20) rfl ?_
  intro T10 H11
  have F12 := (Exa.wr W4 f1)
  refine G.callP H11 (m46_add V p0 h3_ H11.old F12 F9 F6 g2) (wd286 V) (wd287 V) (wd289 V) (wd288 V) (wd50 V) (wd290 V) (by decide) F12 (argsL := [.null, (.ref uu0), (.int (0 : Int32))]) (rest := []) (W := 0) rfl rfl (lenOf (pd_22) rfl) rfl rfl D10_20 (pc' := 23) rfl (by decide) (by decide) (by decide) (by decide) all0 ?_
  intro T13 h13_ v14 s15 H13 Q16
  obtain ⟨a17, k18, rfl, rfl, K19, g20, U21, O22, F23, F24, F25, F26, F27⟩ := Q16
  have na17 : n0 ≤ a17 := Nat.le_trans H3.le g20
  show Go p e below _ (T13.setTop (mkF m 23 #[.val (.ref p0), .val .null] []))
  refine G.iconst H13 D10_23 (pc' := 24) rfl (v := (1 : Int32)) rfl ?_
  have F28 := (U21 "java/util/AbstractList" "modCount" "I" (.int (1 : Int32)) F5 (slot_ne (Or.inl (wd88 V)) (Or.inl (wd129 V)) (by decide) (t := .int) (t' := (.array (.object "java/lang/Object"))) (by decide) (by decide)) (slot_ne (Or.inl (wd88 V)) (Or.inl (wd101 V)) (by decide) (t := .int) (t' := .int) (by decide) (by decide)))
  have K29 : Keep h0 h13_ [p0] := (Keep.trans (Keep.wr (Keep.refl h0 [p0]) W4 (Or.inl (List.mem_of_getElem? (i := 0) rfl))) K19 (allS (Or.inl (List.mem_of_getElem? (i := 0) rfl)) all0))
  have K30 : Keep h0 h3_ [p0] := (Keep.wr (Keep.refl h0 [p0]) W4 (Or.inl (List.mem_of_getElem? (i := 0) rfl)))
  exact G.retN H13 (t := .boolean) rfl (by decide) D10_24 (so := []) all0 (by decide) (by decide) ⟨a17, k18, rfl, rfl, K29, (Nat.le_trans K30.1 g20), (fun O n d w F hn0 hn1 hn2 => (U21 O n d w (Fld.other W4 F (Or.inr hn0)) hn1 hn2)), O22, F28, F23, F25, F24, F26, F27⟩
set_option maxRecDepth 65536 in
set_option maxHeartbeats 40000000 in
theorem m48_add (V : Env1 Z a0 n0 uu0 uu1 uu2 uu3 uu4 uu5 uu6 uu7 uu8 uu9) (p0 : Addr) (p1 : Addr) (c0 : ClassId) (h0 : Heap) (hO : Old Z n0 h0) (f0 : Exa Z h0 p0 "java/util/ArrayList") (f1 : Fld Z h0 p0 "java/util/ArrayList" "size" "I" (.int (2 : Int32))) (f2 : Fld Z h0 p0 "java/util/ArrayList" "elementData" "[Ljava/lang/Object;" (.ref p1)) (f3 : Arv Z h0 p1 c0 (.object "java/lang/Object") (2 : Int32) [.null, .null] .null) (g4 : n0 ≤ p1) (o5 : Ovr Z c0 "java/lang/Object") :
    Met Z a0 [] False n0 l (⟨"com/example/passenger_flow_sim/passengerflowsim/simulation/Vehicle", "add", "(Ljava/util/List;ILcom/example/passenger_flow_sim/passengerflowsim/simulation/Traveller;)V"⟩ : MethodName) prog_32_method_15_code 3 (Option.none : Option FieldType) ({ frames := 5, cells := 2, slots := 13, locals := 69 } : Room) #[(.ref p0), (.int (1 : Int32)), .null] h0 [] (fun v h so => (∃ a6 a52 : Addr, ∃ k53 : ClassId, v = none ∧ so = [] ∧ Keep h0 h [p1] ∧ h0.size ≤ a6 ∧ a6 < a52 ∧ Ovr Z k53 "java/lang/Object" ∧ Arv Z h p1 c0 (.object "java/lang/Object") (2 : Int32) [.null, (.ref a6)] .null ∧ Exa Z h a6 "java/util/ArrayList" ∧ Fld Z h a6 "java/util/AbstractList" "modCount" "I" (.int (1 : Int32)) ∧ Fld Z h a6 "java/util/ArrayList" "elementData" "[Ljava/lang/Object;" (.ref a52) ∧ Fld Z h a6 "java/util/ArrayList" "size" "I" (.int (1 : Int32)) ∧ Arv Z h a52 k53 (.object "java/lang/Object") (10 : Int32) [.null, .null, .null, .null, .null, .null, .null, .null, .null, .null] .null ∧ Exa Z h a52 "[Ljava/lang/Object;")) := by
  refine Met.of (EWl V) (by first | decide +kernel | rfl) hO (L0 := #[.val (.ref p0), .val (.int (1 : Int32)), .val .null]) rfl ?_
  intro p e s m below meth c T H
  show Go p e below _ (T.setTop (mkF m 0 #[.val (.ref p0), .val (.int (1 : Int32)), .val .null] []))
  refine G.aloadN H D29_0 (pc' := 1) rfl rfl rfl ?_
  refine G.iloadN H D29_1 (pc' := 2) rfl rfl ?_
  refine G.callF H (m38_get V p0 p1 c0 h0 H.old f1 f0 f2 f3) (wd144 V) (wd145 V) (fun s2 aa hZ => Jvm.Free.ULB.iface_rides (U := s2) hZ.alike (wd146 V)) (wd147 V) (wd148 V) (wd149 V) (wd150 V) (wd151 V) (wd50 V) (wd152 V) (by decide) f0 (argsL := [(.int (1 : Int32))]) (rest := []) (W := 0) rfl rfl (lenOf (pd_11) rfl) rfl rfl D29_2 (pc' := 7) rfl (by decide) (by decide) (by decide) (by decide) all0 ?_
  intro T1 h1_ v2 s3 H1 Q4
  obtain ⟨rfl, rfl, rfl⟩ := Q4
  show Go p e below _ (T1.setTop (mkF m 7 #[.val (.ref p0), .val (.int (1 : Int32)), .val .null] [.null]))
  refine G.ifnonnullNo H1 D29_7 (pc' := 10) rfl ?_
  refine G.aloadN H1 D29_10 (pc' := 11) rfl rfl rfl ?_
  refine G.iloadN H1 D29_11 (pc' := 12) rfl rfl ?_
  refine G.new H1 (wd48 V) (wd49 V) (wd50 V) D29_12 (pc' := 15) rfl (by decide) (by decide) ?_
  intro T5 h5_ a6 ga6 H5 E7 A8 D9
  have na6 := H1.nle ga6
  refine G.dup H5 D29_15 (pc' := 16) rfl rfl ?_
  have F10 : Fld Z h5_ a6 "java/util/AbstractList" "modCount" "I" (.int (0 : Int32)) := D9 (Or.inl (wd88 V)) (ty := .int) (by decide)
  have F11 : Fld Z h5_ a6 "java/util/ArrayList" "elementData" "[Ljava/lang/Object;" .null := D9 (Or.inl (wd129 V)) (ty := (.array (.object "java/lang/Object"))) (by decide)
  refine G.callI H5 (m39_init V a6 h5_ H5.old A8 F10 na6 F11) rfl (wd270 V) (wd271 V) (wd50 V) (wd272 V) (by decide) (a := a6) (argsL := []) (rest := [(.ref a6), (.int (1 : Int32)), (.ref p0)]) (W := 3) rfl rfl (lenOf (pd_2) rfl) rfl rfl D29_16 (pc' := 19) rfl (by decide) (by decide) (by decide) (by decide) all0 ?_
  intro T12 h12_ v13 s14 H12 Q15
  obtain ⟨rfl, rfl, K16, U17, F18, F19, F20⟩ := Q15
  show Go p e below _ (T12.setTop (mkF m 19 #[.val (.ref p0), .val (.int (1 : Int32)), .val .null] [(.ref a6), (.int (1 : Int32)), (.ref p0)]))
  have K21 : Keep h0 h12_ [] := (Keep.trans (Keep.ext (Keep.refl h0 []) E7) K16 (allS (Or.inr (Nat.le_of_eq ga6.symm)) all0))
  have F22 := (Exa.keep f0 K21)
  have F23 := (Fld.keep f1 K21 nin0)
  have F24 := (Fld.keep f2 K21 nin0)
  have F25 := (Arv.keep f3 K21 nin0)
  refine G.callF H12 (m40_set V p0 a6 p1 c0 h12_ H12.old F23 F22 F24 F25 g4 o5 F18) (wd166 V) (wd167 V) (fun s2 aa hZ => Jvm.Free.ULB.iface_rides (U := s2) hZ.alike (wd168 V)) (wd169 V) (wd170 V) (wd171 V) (wd172 V) (wd151 V) (wd50 V) (wd173 V) (by decide) F22 (argsL := [(.int (1 : Int32)), (.ref a6)]) (rest := []) (W := 0) rfl rfl (lenOf (pd_12) rfl) rfl rfl D29_19 (pc' := 24) rfl (by decide) (by decide) (by decide) (by decide) all0 ?_
  intro T26 h26_ v27 s28 H26 Q29
  obtain ⟨rfl, rfl, K30, F31⟩ := Q29
  show Go p e below _ (T26.setTop (mkF m 24 #[.val (.ref p0), .val (.int (1 : Int32)), .val .null] [.null]))
  refine G.pop H26 D29_24 (pc' := 25) rfl rfl ?_
  refine G.aloadN H26 D29_25 (pc' := 26) rfl rfl rfl ?_
  refine G.iloadN H26 D29_26 (pc' := 27) rfl rfl ?_
  have F32 := (Exa.keep F22 K30)
  have N33 : p0 ≠ p1 := Exa.neArv F32 F31 (wd49 V)
  have F34 := (Fld.keep F23 K30 (ninS N33 nin0))
  have F35 := (Fld.keep F24 K30 (ninS N33 nin0))
  refine G.callF H26 (m42_get V p0 p1 c0 a6 h26_ H26.old F34 F32 F35 F31) (wd144 V) (wd145 V) (fun s2 aa hZ => Jvm.Free.ULB.iface_rides (U := s2) hZ.alike (wd146 V)) (wd147 V) (wd148 V) (wd149 V) (wd150 V) (wd151 V) (wd50 V) (wd152 V) (by decide) F32 (argsL := [(.int (1 : Int32))]) (rest := []) (W := 0) rfl rfl (lenOf (pd_11) rfl) rfl rfl D29_27 (pc' := 32) rfl (by decide) (by decide) (by decide) (by decide) all0 ?_
  intro T36 h36_ v37 s38 H36 Q39
  obtain ⟨rfl, rfl, rfl⟩ := Q39
  show Go p e below _ (T36.setTop (mkF m 32 #[.val (.ref p0), .val (.int (1 : Int32)), .val .null] [(.ref a6)]))
  have F42 := (Exa.keep F18 K30)
  refine G.castY H36 (wd275 V) (Ins.of_exa F42 (wd151 V)) D29_32 (pc' := 35) rfl ?_
  intro T40 H41
  refine G.aloadN H41 D29_35 (pc' := 36) rfl rfl rfl ?_
  have N43 : a6 ≠ p1 := Exa.neArv F42 F31 (wd49 V)
  have F44 := (Fld.keep F19 K30 (ninS N43 nin0))
  have F45 := (Fld.keep F20 K30 (ninS N43 nin0))
  have F46 : Fld Z h5_ a6 "java/util/ArrayList" "size" "I" (.int (0 : Int32)) := D9 (Or.inl (wd101 V)) (ty := .int) (by decide)
  have F47 := (Fld.keep (U17 "java/util/ArrayList" "size" "I" (.int (0 : Int32)) F46 (slot_ne (Or.inl (wd101 V)) (Or.inl (wd88 V)) (by decide) (t := .int) (t' := .int) (by decide) (by decide)) (slot_ne (Or.inl (wd101 V)) (Or.inl (wd129 V)) (by decide) (t := .int) (t' := (.array (.object "java/lang/Object"))) (by decide) (by decide))) K30 (ninS N43 nin0))
  refine G.callF H41 (m47_add V a6 h26_ H41.old F44 F42 na6 F45 F47) (wd276 V) (wd277 V) (fun s2 aa hZ => Jvm.Free.ULB.iface_rides (U := s2) hZ.alike (wd278 V)) (wd279 V) (wd280 V) (wd281 V) (wd282 V) (wd151 V) (wd50 V) (wd283 V) (by decide) F42 (argsL := [.null]) (rest := []) (W := 0) rfl rfl (lenOf (pd_23) rfl) rfl rfl D29_36 (pc' := 41) rfl (by decide) (by decide) (by decide) (by decide) all0 ?_
  intro T48 h48_ v49 s50 H48 Q51
  obtain ⟨a52, k53, rfl, rfl, K54, g55, U56, O57, F58, F59, F60, F61, F62, F63⟩ := Q51
  have na52 : n0 ≤ a52 := Nat.le_trans H36.le g55
  show Go p e below _ (T48.setTop (mkF m 41 #[.val (.ref p0), .val (.int (1 : Int32)), .val .null] [(.int (1 : Int32))]))
  refine G.pop H48 D29_41 (pc' := 42) rfl rfl ?_
  have F64 := (Arv.keep F31 K54 (ninS (Ne.symm N43) nin0))
  have K65 : Keep h0 h48_ [p1] := (Keep.trans (Keep.trans (Keep.trans (Keep.ext (Keep.refl h0 [p1]) E7) K16 (allS (Or.inr (Nat.le_of_eq ga6.symm)) all0)) K30 (allS (Or.inl (List.mem_of_getElem? (i := 0) rfl)) all0)) K54 (allS (Or.inr (Nat.le_of_eq ga6.symm)) all0))
  have K66 : Keep h5_ h26_ [a6, p1] := (Keep.trans (Keep.trans (Keep.refl h5_ [a6, p1]) K16 (allS (Or.inl (List.mem_of_getElem? (i := 0) rfl)) all0)) K30 (allS (Or.inl (List.mem_of_getElem? (i := 1) rfl)) all0))
  exact G.retV H48 rfl D29_42 (so := []) all0 (by decide) (by decide) ⟨a6, a52, k53, rfl, rfl, K65, (Nat.le_of_eq ga6.symm), (Nat.lt_of_lt_of_le (Nat.lt_of_lt_of_le A8.lt K66.1) g55), O57, F64, F59, F58, F60, F61, F62, F63⟩
set_option maxRecDepth 65536 in
set_option maxHeartbeats 40000000 in
theorem m49_board (V : Env1 Z a0 n0 uu0 uu1 uu2 uu3 uu4 uu5 uu6 uu7 uu8 uu9) (p0 : Addr) (p1 : Addr) (p2 : Addr) (c0 : ClassId) (h0 : Heap) (hO : Old Z n0 h0) (f0 : Fld Z h0 p0 "com/example/passenger_flow_sim/passengerflowsim/simulation/Vehicle" "load" "I" (.int (0 : Int32))) (f1 : Exa Z h0 p0 "com/example/passenger_flow_sim/passengerflowsim/simulation/Vehicle") (g2 : n0 ≤ p0) (f3 : Fld Z h0 p0 "com/example/passenger_flow_sim/passengerflowsim/simulation/Vehicle" "alighting" "Ljava/util/List;" (.ref p1)) (f4 : Exa Z h0 p1 "java/util/ArrayList") (f5 : Fld Z h0 p1 "java/util/ArrayList" "size" "I" (.int (2 : Int32))) (f6 : Fld Z h0 p1 "java/util/ArrayList" "elementData" "[Ljava/lang/Object;" (.ref p2)) (f7 : Arv Z h0 p2 c0 (.object "java/lang/Object") (2 : Int32) [.null, .null] .null) (q8 : p2 ≠ p0) (g9 : n0 ≤ p2) (o10 : Ovr Z c0 "java/lang/Object") :
    Met Z a0 [] False n0 l (⟨"com/example/passenger_flow_sim/passengerflowsim/simulation/Vehicle", "board", "(Lcom/example/passenger_flow_sim/passengerflowsim/simulation/Traveller;I)V"⟩ : MethodName) prog_32_method_12_code 3 (Option.none : Option FieldType) ({ frames := 6, cells := 2, slots := 13, locals := 83 } : Room) #[(.ref p0), .null, (.int (1 : Int32))] h0 [] (fun v h so => (∃ a19 a20 : Addr, ∃ k21 : ClassId, v = none ∧ so = [] ∧ Keep h0 h [p0, p2] ∧ h0.size ≤ a19 ∧ a19 < a20 ∧ (∀ (O n d : String) (w : Value), Fld Z h0 p0 O n d w → RoadKit.slotOf Z O n d ≠ RoadKit.slotOf Z "com/example/passenger_flow_sim/passengerflowsim/simulation/Vehicle" "load" "I" → Fld Z h p0 O n d w) ∧ Ovr Z k21 "java/lang/Object" ∧ Fld Z h p0 "com/example/passenger_flow_sim/passengerflowsim/simulation/Vehicle" "load" "I" (.int (1 : Int32)) ∧ Exa Z h p0 "com/example/passenger_flow_sim/passengerflowsim/simulation/Vehicle" ∧ Fld Z h p0 "com/example/passenger_flow_sim/passengerflowsim/simulation/Vehicle" "alighting" "Ljava/util/List;" (.ref p1) ∧ Arv Z h p2 c0 (.object "java/lang/Object") (2 : Int32) [.null, (.ref a19)] .null ∧ Exa Z h a19 "java/util/ArrayList" ∧ Fld Z h a19 "java/util/AbstractList" "modCount" "I" (.int (1 : Int32)) ∧ Fld Z h a19 "java/util/ArrayList" "elementData" "[Ljava/lang/Object;" (.ref a20) ∧ Fld Z h a19 "java/util/ArrayList" "size" "I" (.int (1 : Int32)) ∧ Arv Z h a20 k21 (.object "java/lang/Object") (10 : Int32) [.null, .null, .null, .null, .null, .null, .null, .null, .null, .null] .null ∧ Exa Z h a20 "[Ljava/lang/Object;")) := by
  refine Met.of (EWl V) (by first | decide +kernel | rfl) hO (L0 := #[.val (.ref p0), .val .null, .val (.int (1 : Int32))]) rfl ?_
  intro p e s m below meth c T H
  show Go p e below _ (T.setTop (mkF m 0 #[.val (.ref p0), .val .null, .val (.int (1 : Int32))] []))
  refine G.aloadN H D26_0 (pc' := 1) rfl rfl rfl ?_
  refine G.dup H D26_1 (pc' := 2) rfl rfl ?_
  refine G.getF H (wd180 V) Via.refl f0 D26_2 (pc' := 5) rfl ?_
  intro T1 H2
  refine G.iconst H2 D26_5 (pc' := 6) rfl (v := (1 : Int32)) rfl ?_
  refine G.iadd H2 D26_6 (pc' := 7) rfl ?_
  show Go p e below _ (T1.setTop (mkF m 7 #[.val (.ref p0), .val .null, .val (.int (1 : Int32))] [(.int (1 : Int32)), (.ref p0)]))
  refine G.putF H2 (wd180 V) Via.refl f0 f1 (Or.inl (wd181 V)) (wd31 V) (ty := .int) (by decide) rfl rfl g2 (Sf.exa f1) D26_7 (pc' := 10) rfl ?_
  intro T3 h3_ H3 W4
  have F5 : Fld Z h3_ p0 "com/example/passenger_flow_sim/passengerflowsim/simulation/Vehicle" "load" "I" (.int (1 : Int32)) := Fld.same W4 f0
  refine G.aloadN H3 D26_10 (pc' := 11) rfl rfl rfl ?_
  have F6 := (Fld.other W4 f3 (Or.inr (slot_ne (Or.inr (wd133 V)) (Or.inl (wd181 V)) (by decide) (t := (.object "java/util/List")) (t' := .int) (by decide) (by decide))))
  refine G.getF H3 (wd132 V) Via.refl F6 D26_11 (pc' := 14) rfl ?_
  intro T7 H8
  refine G.iloadN H8 D26_14 (pc' := 15) rfl rfl ?_
  refine G.aloadN H8 D26_15 (pc' := 16) rfl rfl rfl ?_
  have F9 := (Exa.wr W4 f4)
  have F10 := (Exa.wr W4 f1)
  have N11 : p1 ≠ p0 := Exa.ne F9 F10 (by decide)
  have F12 := (Fld.other W4 f5 (Or.inl N11))
  have F13 := (Fld.other W4 f6 (Or.inl N11))
  have F14 := (Arv.other f7 W4 q8)
  refine G.callS H8 (m48_add V p1 p2 c0 h3_ H8.old F9 F12 F13 F14 g9 o10) (wd267 V) (wd268 V) (wd32 V) (wd269 V) (by decide) (argsL := [(.ref p1), (.int (1 : Int32)), .null]) (rest := []) (W := 0) rfl rfl (lenOf (pd_24) rfl) rfl rfl D26_16 (pc' := 19) rfl (by decide) (by decide) (by decide) (by decide) all0 ?_
  intro T15 h15_ v16 s17 H15 Q18
  obtain ⟨a19, a20, k21, rfl, rfl, K22, g23, g24, O25, F26, F27, F28, F29, F30, F31, F32⟩ := Q18
  have na19 : n0 ≤ a19 := Nat.le_trans H3.le g23
  have na20 : n0 ≤ a20 := Nat.le_trans H3.le (Nat.le_of_lt (Nat.lt_of_le_of_lt g23 g24))
  show Go p e below _ (T15.setTop (mkF m 19 #[.val (.ref p0), .val .null, .val (.int (1 : Int32))] []))
  have F33 := (Fld.keep F5 K22 (ninS (Ne.symm q8) nin0))
  have F34 := (Exa.keep F10 K22)
  have F35 := (Fld.keep F6 K22 (ninS (Ne.symm q8) nin0))
  have K36 : Keep h0 h15_ [p0, p2] := (Keep.trans (Keep.wr (Keep.refl h0 [p0, p2]) W4 (Or.inl (List.mem_of_getElem? (i := 0) rfl))) K22 (allS (Or.inl (List.mem_of_getElem? (i := 1) rfl)) all0))
  have K37 : Keep h0 h3_ [p0] := (Keep.wr (Keep.refl h0 [p0]) W4 (Or.inl (List.mem_of_getElem? (i := 0) rfl)))
  exact G.retV H15 rfl D26_19 (so := []) all0 (by decide) (by decide) ⟨a19, a20, k21, rfl, rfl, K36, (Nat.le_trans K37.1 g23), g24, (fun O n d w F hn0 => (Fld.keep (Fld.other W4 F (Or.inr hn0)) K22 (ninS (Ne.symm q8) nin0))), O25, F33, F34, F35, F26, F27, F28, F29, F30, F31, F32⟩
set_option maxRecDepth 65536 in
set_option maxHeartbeats 40000000 in
theorem m50_boardSome (V : Env1 Z a0 n0 uu0 uu1 uu2 uu3 uu4 uu5 uu6 uu7 uu8 uu9) (p0 : Addr) (p1 : Addr) (p2 : Addr) (c0 : ClassId) (h0 : Heap) (hO : Old Z n0 h0) (f0 : Exa Z h0 p0 "com/example/passenger_flow_sim/passengerflowsim/simulation/Vehicle") (f1 : Fld Z h0 p0 "com/example/passenger_flow_sim/passengerflowsim/simulation/Vehicle" "load" "I" (.int (0 : Int32))) (g2 : n0 ≤ p0) (f3 : Fld Z h0 p0 "com/example/passenger_flow_sim/passengerflowsim/simulation/Vehicle" "alighting" "Ljava/util/List;" (.ref p1)) (f4 : Exa Z h0 p1 "java/util/ArrayList") (f5 : Fld Z h0 p1 "java/util/ArrayList" "size" "I" (.int (2 : Int32))) (f6 : Fld Z h0 p1 "java/util/ArrayList" "elementData" "[Ljava/lang/Object;" (.ref p2)) (f7 : Arv Z h0 p2 c0 (.object "java/lang/Object") (2 : Int32) [.null, .null] .null) (g8 : n0 ≤ p2) (o9 : Ovr Z c0 "java/lang/Object") :
    Met Z a0 [] False n0 l (⟨"com/example/passenger_flow_sim/passengerflowsim/simulation/VehicleLeavePinLaw", "boardSome", "(Lcom/example/passenger_flow_sim/passengerflowsim/simulation/Vehicle;I)V"⟩ : MethodName) method_3_code 2 (Option.none : Option FieldType) ({ frames := 7, cells := 2, slots := 13, locals := 97 } : Room) #[(.ref p0), (.int (1 : Int32))] h0 [] (fun v h so => (∃ a6 a7 : Addr, ∃ k8 : ClassId, v = none ∧ so = [] ∧ Keep h0 h [p0, p2] ∧ h0.size ≤ a6 ∧ a6 < a7 ∧ (∀ (O n d : String) (w : Value), Fld Z h0 p0 O n d w → RoadKit.slotOf Z O n d ≠ RoadKit.slotOf Z "com/example/passenger_flow_sim/passengerflowsim/simulation/Vehicle" "load" "I" → Fld Z h p0 O n d w) ∧ Ovr Z k8 "java/lang/Object" ∧ Exa Z h p0 "com/example/passenger_flow_sim/passengerflowsim/simulation/Vehicle" ∧ Fld Z h p0 "com/example/passenger_flow_sim/passengerflowsim/simulation/Vehicle" "load" "I" (.int (1 : Int32)) ∧ Fld Z h p0 "com/example/passenger_flow_sim/passengerflowsim/simulation/Vehicle" "alighting" "Ljava/util/List;" (.ref p1) ∧ Arv Z h p2 c0 (.object "java/lang/Object") (2 : Int32) [.null, (.ref a6)] .null ∧ Exa Z h a6 "java/util/ArrayList" ∧ Fld Z h a6 "java/util/AbstractList" "modCount" "I" (.int (1 : Int32)) ∧ Fld Z h a6 "java/util/ArrayList" "elementData" "[Ljava/lang/Object;" (.ref a7) ∧ Fld Z h a6 "java/util/ArrayList" "size" "I" (.int (1 : Int32)) ∧ Arv Z h a7 k8 (.object "java/lang/Object") (10 : Int32) [.null, .null, .null, .null, .null, .null, .null, .null, .null, .null] .null ∧ Exa Z h a7 "[Ljava/lang/Object;")) := by
  refine Met.of (EWl V) (by first | decide +kernel | rfl) hO (L0 := #[.val (.ref p0), .val (.int (1 : Int32))]) rfl ?_
  intro p e s m below meth c T H
  show Go p e below _ (T.setTop (mkF m 0 #[.val (.ref p0), .val (.int (1 : Int32))] []))
  refine G.iloadN H D21_0 (pc' := 1) rfl rfl ?_
  refine G.iconst H D21_1 (pc' := 2) rfl (v := (1 : Int32)) rfl ?_
  refine G.icmpNo H D21_2 (pc' := 5) rfl (by decide) ?_
  refine G.aloadN H D21_5 (pc' := 6) rfl rfl rfl ?_
  refine G.aconstNull H D21_6 (pc' := 7) rfl ?_
  refine G.iconst H D21_7 (pc' := 8) rfl (v := (1 : Int32)) rfl ?_
  have N1 : p2 ≠ p0 := Ne.symm (Exa.neArv f0 f7 (wd31 V))
  refine G.callV H (m49_board V p0 p1 p2 c0 h0 H.old f1 f0 g2 f3 f4 f5 f6 f7 N1 g8 o9) (wd262 V) (wd263 V) (nf_sel (wd265 V)) (wd265 V) (wd264 V) (wd32 V) (wd266 V) (by decide) f0 (argsL := [.null, (.int (1 : Int32))]) (rest := []) (W := 0) rfl rfl (lenOf (pd_25) rfl) rfl rfl D21_8 (pc' := 11) rfl (by decide) (by decide) (by decide) (by decide) all0 ?_
  intro T2 h2_ v3 s4 H2 Q5
  obtain ⟨a6, a7, k8, rfl, rfl, K9, g10, g11, U12, O13, F14, F15, F16, F17, F18, F19, F20, F21, F22, F23⟩ := Q5
  have na6 : n0 ≤ a6 := Nat.le_trans H.le g10
  have na7 : n0 ≤ a7 := Nat.le_trans H.le (Nat.le_of_lt (Nat.lt_of_le_of_lt g10 g11))
  show Go p e below _ (T2.setTop (mkF m 11 #[.val (.ref p0), .val (.int (1 : Int32))] []))
  refine G.iloadN H2 D21_11 (pc' := 12) rfl rfl ?_
  refine G.iconst H2 D21_12 (pc' := 13) rfl (v := (2 : Int32)) rfl ?_
  refine G.icmpYes H2 D21_13 (by decide) (by decide) (pc' := 22) rfl ?_
  refine G.iloadN H2 D21_22 (pc' := 23) rfl rfl ?_
  refine G.iconst H2 D21_23 (pc' := 24) rfl (v := (3 : Int32)) rfl ?_
  refine G.icmpYes H2 D21_24 (by decide) (by decide) (pc' := 33) rfl ?_
  have K24 : Keep h0 h2_ [p0, p2] := (Keep.trans (Keep.refl h0 [p0, p2]) K9 (allS (Or.inl (List.mem_of_getElem? (i := 0) rfl)) (allS (Or.inl (List.mem_of_getElem? (i := 1) rfl)) all0)))
  exact G.retV H2 rfl D21_33 (so := []) all0 (by decide) (by decide) ⟨a6, a7, k8, rfl, rfl, K24, g10, g11, (fun O n d w F hn0 => (U12 O n d w F hn0)), O13, F15, F14, F16, F17, F18, F19, F20, F21, F22, F23⟩
set_option maxRecDepth 65536 in
set_option maxHeartbeats 40000000 in
theorem m51_leave (V : Env1 Z a0 n0 uu0 uu1 uu2 uu3 uu4 uu5 uu6 uu7 uu8 uu9) (p0 : Addr) (p1 : Addr) (c0 : ClassId) (h0 : Heap) (hO : Old Z n0 h0) (f0 : Fld Z h0 p0 "com/example/passenger_flow_sim/passengerflowsim/simulation/Vehicle" "step" "I" (.int (1 : Int32))) (f1 : Fld Z h0 p0 "com/example/passenger_flow_sim/passengerflowsim/simulation/Vehicle" "loads" "[I" (.ref p1)) (f2 : Arv Z h0 p1 c0 .int (1 : Int32) [(.int (0 : Int32))] (.int 0)) (f3 : Fld Z h0 p0 "com/example/passenger_flow_sim/passengerflowsim/simulation/Vehicle" "load" "I" (.int (1 : Int32))) (g4 : n0 ≤ p1) (q5 : p0 ≠ p1) (f6 : Exa Z h0 p0 "com/example/passenger_flow_sim/passengerflowsim/simulation/Vehicle") (g7 : n0 ≤ p0) :
    Met Z a0 [] False n0 l (⟨"com/example/passenger_flow_sim/passengerflowsim/simulation/Vehicle", "leave", "()V"⟩ : MethodName) prog_32_method_13_code 2 (Option.none : Option FieldType) ({ frames := 0, cells := 0, slots := 0, locals := 0 } : Room) #[(.ref p0)] h0 [] (fun v h so => (v = none ∧ so = [] ∧ Keep h0 h [p1, p0] ∧ (∀ (O n d : String) (w : Value), Fld Z h0 p0 O n d w → RoadKit.slotOf Z O n d ≠ RoadKit.slotOf Z "com/example/passenger_flow_sim/passengerflowsim/simulation/Vehicle" "step" "I" → Fld Z h p0 O n d w) ∧ Arv Z h p1 c0 .int (1 : Int32) [(.int (1 : Int32))] (.int 0) ∧ Fld Z h p0 "com/example/passenger_flow_sim/passengerflowsim/simulation/Vehicle" "step" "I" (.int (2 : Int32)) ∧ Fld Z h p0 "com/example/passenger_flow_sim/passengerflowsim/simulation/Vehicle" "loads" "[I" (.ref p1) ∧ Fld Z h p0 "com/example/passenger_flow_sim/passengerflowsim/simulation/Vehicle" "load" "I" (.int (1 : Int32)) ∧ Exa Z h p0 "com/example/passenger_flow_sim/passengerflowsim/simulation/Vehicle")) := by
  refine Met.of (EWl V) (by first | decide +kernel | rfl) hO (L0 := #[.val (.ref p0), .unset]) rfl ?_
  intro p e s m below meth c T H
  show Go p e below _ (T.setTop (mkF m 0 #[.val (.ref p0), .unset] []))
  refine G.aloadN H D27_0 (pc' := 1) rfl rfl rfl ?_
  refine G.getF H (wd139 V) Via.refl f0 D27_1 (pc' := 4) rfl ?_
  intro T1 H2
  refine G.iconst H2 D27_4 (pc' := 5) rfl (v := (2 : Int32)) rfl ?_
  refine G.idiv H2 D27_5 (pc' := 6) rfl (by decide) ?_
  show Go p e below _ (T1.setTop (mkF m 6 #[.val (.ref p0), .unset] [(.int (0 : Int32))]))
  refine G.istoreN H2 (L' := #[.val (.ref p0), .val (.int (0 : Int32))]) D27_6 (pc' := 7) rfl rfl ?_
  refine G.iloadN H2 D27_7 (pc' := 8) rfl rfl ?_
  refine G.aloadN H2 D27_8 (pc' := 9) rfl rfl rfl ?_
  refine G.getF H2 (wd46 V) Via.refl f1 D27_9 (pc' := 12) rfl ?_
  intro T3 H4
  refine G.arrlen H4 f2 D27_12 (pc' := 13) rfl ?_
  refine G.icmpNo H4 D27_13 (pc' := 16) rfl (by decide) ?_
  refine G.aloadN H4 D27_16 (pc' := 17) rfl rfl rfl ?_
  refine G.getF H4 (wd46 V) Via.refl f1 D27_17 (pc' := 20) rfl ?_
  intro T5 H6
  refine G.iloadN H6 D27_20 (pc' := 21) rfl rfl ?_
  refine G.aloadN H6 D27_21 (pc' := 22) rfl rfl rfl ?_
  refine G.getF H6 (wd180 V) Via.refl f3 D27_22 (pc' := 25) rfl ?_
  intro T7 H8
  refine G.stI H8 f2 (by decide) (i := 0) rfl (Nat.le_of_ble_eq_true rfl) g4 D27_25 (pc' := 26) rfl ?_
  intro T9 h9_ H9 W10 A11
  replace A11 : Arv Z h9_ p1 c0 .int (1 : Int32) [(.int (1 : Int32))] (.int 0) := A11
  refine G.aloadN H9 D27_26 (pc' := 27) rfl rfl rfl ?_
  refine G.dup H9 D27_27 (pc' := 28) rfl rfl ?_
  have F12 := (Fld.other W10 f0 (Or.inl q5))
  refine G.getF H9 (wd139 V) Via.refl F12 D27_28 (pc' := 31) rfl ?_
  intro T13 H14
  refine G.iconst H14 D27_31 (pc' := 32) rfl (v := (1 : Int32)) rfl ?_
  refine G.iadd H14 D27_32 (pc' := 33) rfl ?_
  show Go p e below _ (T13.setTop (mkF m 33 #[.val (.ref p0), .val (.int (0 : Int32))] [(.int (2 : Int32)), (.ref p0)]))
  have F15 := (Exa.wr W10 f6)
  refine G.putF H14 (wd139 V) Via.refl F12 F15 (Or.inl (wd140 V)) (wd31 V) (ty := .int) (by decide) rfl rfl g7 (Sf.exa F15) D27_33 (pc' := 36) rfl ?_
  intro T16 h16_ H16 W17
  have F18 : Fld Z h16_ p0 "com/example/passenger_flow_sim/passengerflowsim/simulation/Vehicle" "step" "I" (.int (2 : Int32)) := Fld.same W17 F12
  have F19 := (Arv.other A11 W17 (Ne.symm q5))
  have F20 := (Fld.other W17 (Fld.other W10 f1 (Or.inl q5)) (Or.inr (slot_ne (Or.inr (wd47 V)) (Or.inl (wd140 V)) (by decide) (t := (.array .int)) (t' := .int) (by decide) (by decide))))
  have F21 := (Fld.other W17 (Fld.other W10 f3 (Or.inl q5)) (Or.inr (slot_ne (Or.inl (wd181 V)) (Or.inl (wd140 V)) (by decide) (t := .int) (t' := .int) (by decide) (by decide))))
  have F22 := (Exa.wr W17 F15)
  have K23 : Keep h0 h16_ [p1, p0] := (Keep.wr (Keep.wr (Keep.refl h0 [p1, p0]) W10 (Or.inl (List.mem_of_getElem? (i := 0) rfl))) W17 (Or.inl (List.mem_of_getElem? (i := 1) rfl)))
  exact G.retV H16 rfl D27_36 (so := []) all0 (by decide) (by decide) ⟨rfl, rfl, K23, (fun O n d w F hn0 => (Fld.other W17 (Fld.other W10 F (Or.inl q5)) (Or.inr hn0))), F19, F18, F20, F21, F22⟩
set_option maxRecDepth 65536 in
set_option maxHeartbeats 40000000 in
theorem m52_loads (V : Env1 Z a0 n0 uu0 uu1 uu2 uu3 uu4 uu5 uu6 uu7 uu8 uu9) (p0 : Addr) (p1 : Addr) (p2 : Addr) (c0 : ClassId) (h0 : Heap) (hO : Old Z n0 h0) (f0 : Fld Z h0 p0 "com/example/passenger_flow_sim/passengerflowsim/simulation/Vehicle" "trip" "Lcom/example/passenger_flow_sim/passengerflowsim/timetable/Trip;" (.ref p1)) (f1 : Fld Z h0 p0 "com/example/passenger_flow_sim/passengerflowsim/simulation/Vehicle" "loads" "[I" (.ref p2)) (f2 : Exa Z h0 p2 "[I") (f3 : Arv Z h0 p2 c0 .int (1 : Int32) [(.int (1 : Int32))] (.int 0)) :
    Met Z a0 [] False n0 l (⟨"com/example/passenger_flow_sim/passengerflowsim/simulation/Vehicle", "loads", "()Lcom/example/passenger_flow_sim/passengerflowsim/simulation/TripLoads;"⟩ : MethodName) prog_32_method_14_code 1 (Option.some (FieldType.object "com/example/passenger_flow_sim/passengerflowsim/simulation/TripLoads")) ({ frames := 2, cells := 2, slots := 3, locals := 27 } : Room) #[(.ref p0)] h0 [] (fun v h so => (∃ a2 a15 : Addr, v = some (.ref a2) ∧ so = [] ∧ Keep h0 h [] ∧ h0.size ≤ a2 ∧ a2 < a15 ∧ Exa Z h a2 "com/example/passenger_flow_sim/passengerflowsim/simulation/TripLoads" ∧ Fld Z h a2 "com/example/passenger_flow_sim/passengerflowsim/simulation/TripLoads" "trip" "Lcom/example/passenger_flow_sim/passengerflowsim/timetable/Trip;" (.ref p1) ∧ Fld Z h a2 "com/example/passenger_flow_sim/passengerflowsim/simulation/TripLoads" "loads" "[I" (.ref a15) ∧ Arv Z h a15 c0 .int (1 : Int32) [(.int (1 : Int32))] (.int 0) ∧ Exa Z h a15 "[I")) := by
  refine Met.of (EWl V) (by first | decide +kernel | rfl) hO (L0 := #[.val (.ref p0)]) rfl ?_
  intro p e s m below meth c T H
  show Go p e below _ (T.setTop (mkF m 0 #[.val (.ref p0)] []))
  refine G.new H (wd208 V) (wd209 V) (wd210 V) D28_0 (pc' := 3) rfl (by decide) (by decide) ?_
  intro T1 h1_ a2 ga2 H1 E3 A4 D5
  have na2 := H.nle ga2
  refine G.dup H1 D28_3 (pc' := 4) rfl rfl ?_
  refine G.aloadN H1 D28_4 (pc' := 5) rfl rfl rfl ?_
  have F6 := (Fld.ext E3 f0)
  refine G.getF H1 (wd37 V) Via.refl F6 D28_5 (pc' := 8) rfl ?_
  intro T7 H8
  refine G.aloadN H8 D28_8 (pc' := 9) rfl rfl rfl ?_
  have F9 := (Fld.ext E3 f1)
  refine G.getF H8 (wd46 V) Via.refl F9 D28_9 (pc' := 12) rfl ?_
  intro T10 H11
  have F12 := (Exa.ext E3 f2)
  have F13 := (Arv.ext f3 E3)
  refine G.clone H11 (wd211 V) (wd16 V) (wd20 V) (wd18 V) (wd19 V) (wd21 V) F13 F12 (st := [(.ref p1), (.ref a2), (.ref a2)]) (W := 3) (cap := 1) rfl rfl D28_12 (pc' := 15) rfl (by decide) (by decide) (by decide) (by decide) (by decide) ?_
  intro T14 h14_ a15 ga15 H14 E16 A17 X18
  have na15 := H11.nle ga15
  refine G.castY H14 (wd212 V) (Ins.self X18) D28_15 (pc' := 18) rfl ?_
  intro T19 H20
  have F21 := (Exa.ext E16 A4)
  have F22 : Fld Z h1_ a2 "com/example/passenger_flow_sim/passengerflowsim/simulation/TripLoads" "trip" "Lcom/example/passenger_flow_sim/passengerflowsim/timetable/Trip;" .null := D5 (Or.inr (wd218 V)) (ty := (.object "com/example/passenger_flow_sim/passengerflowsim/timetable/Trip")) (by decide)
  have F23 := (Fld.ext E16 F22)
  have F24 : Fld Z h1_ a2 "com/example/passenger_flow_sim/passengerflowsim/simulation/TripLoads" "loads" "[I" .null := D5 (Or.inr (wd220 V)) (ty := (.array .int)) (by decide)
  have F25 := (Fld.ext E16 F24)
  refine G.callI H20 (m24_init V a2 p1 a15 h14_ H20.old F21 F23 na2 F25) rfl (wd213 V) (wd214 V) (wd210 V) (wd215 V) (by decide) (a := a2) (argsL := [(.ref p1), (.ref a15)]) (rest := [(.ref a2)]) (W := 1) rfl rfl (lenOf (pd_16) rfl) rfl rfl D28_18 (pc' := 21) rfl (by decide) (by decide) (by decide) (by decide) all0 ?_
  intro T26 h26_ v27 s28 H26 Q29
  obtain ⟨rfl, rfl, K30, U31, F32, F33, F34⟩ := Q29
  show Go p e below _ (T26.setTop (mkF m 21 #[.val (.ref p0)] [(.ref a2)]))
  have N35 : a15 ≠ a2 := (Ne.symm (Nat.ne_of_lt (Nat.lt_of_lt_of_le A4.lt (Nat.le_of_eq ga15.symm))))
  have F36 := (Arv.keep A17 K30 (ninS N35 nin0))
  have F37 := (Exa.keep X18 K30)
  have K38 : Keep h0 h26_ [] := (Keep.trans (Keep.ext (Keep.ext (Keep.refl h0 []) E3) E16) K30 (allS (Or.inr (Nat.le_of_eq ga2.symm)) all0))
  exact G.retA H26 (t := (.object "com/example/passenger_flow_sim/passengerflowsim/simulation/TripLoads")) rfl rfl rfl D28_21 (so := []) all0 (by decide) (by decide) ⟨a2, a15, rfl, rfl, K38, (Nat.le_of_eq ga2.symm), (Nat.lt_of_lt_of_le A4.lt (Nat.le_of_eq ga15.symm)), F32, F33, F34, F36, F37⟩
set_option maxRecDepth 65536 in
set_option maxHeartbeats 40000000 in
theorem m53_linkCount (V : Env1 Z a0 n0 uu0 uu1 uu2 uu3 uu4 uu5 uu6 uu7 uu8 uu9) (p0 : Addr) (p1 : Addr) (c0 : ClassId) (h0 : Heap) (hO : Old Z n0 h0) (f0 : Fld Z h0 p0 "com/example/passenger_flow_sim/passengerflowsim/simulation/TripLoads" "loads" "[I" (.ref p1)) (f1 : Arv Z h0 p1 c0 .int (1 : Int32) [(.int (1 : Int32))] (.int 0)) :
    Met Z a0 [] False n0 l (⟨"com/example/passenger_flow_sim/passengerflowsim/simulation/TripLoads", "linkCount", "()I"⟩ : MethodName) prog_31_method_3_code 1 (Option.some FieldType.int) ({ frames := 0, cells := 0, slots := 0, locals := 0 } : Room) #[(.ref p0)] h0 [] (fun v h so => (v = some (.int (1 : Int32)) ∧ so = [] ∧ h0 = h)) := by
  refine Met.of (EWl V) (by first | decide +kernel | rfl) hO (L0 := #[.val (.ref p0)]) rfl ?_
  intro p e s m below meth c T H
  show Go p e below _ (T.setTop (mkF m 0 #[.val (.ref p0)] []))
  refine G.aloadN H D23_0 (pc' := 1) rfl rfl rfl ?_
  refine G.getF H (wd219 V) Via.refl f0 D23_1 (pc' := 4) rfl ?_
  intro T1 H2
  refine G.arrlen H2 f1 D23_4 (pc' := 5) rfl ?_
  exact G.retI H2 rfl D23_5 (so := []) all0 (by decide) (by decide) ⟨rfl, rfl, rfl⟩
set_option maxRecDepth 65536 in
set_option maxHeartbeats 40000000 in
theorem m54_load (V : Env1 Z a0 n0 uu0 uu1 uu2 uu3 uu4 uu5 uu6 uu7 uu8 uu9) (p0 : Addr) (h0 : Heap) (hO : Old Z n0 h0) (f0 : Fld Z h0 p0 "com/example/passenger_flow_sim/passengerflowsim/simulation/Vehicle" "load" "I" (.int (1 : Int32))) :
    Met Z a0 [] False n0 l (⟨"com/example/passenger_flow_sim/passengerflowsim/simulation/Vehicle", "load", "()I"⟩ : MethodName) prog_32_method_4_code 1 (Option.some FieldType.int) ({ frames := 0, cells := 0, slots := 0, locals := 0 } : Room) #[(.ref p0)] h0 [] (fun v h so => (v = some (.int (1 : Int32)) ∧ so = [] ∧ h0 = h)) := by
  refine Met.of (EWl V) (by first | decide +kernel | rfl) hO (L0 := #[.val (.ref p0)]) rfl ?_
  intro p e s m below meth c T H
  show Go p e below _ (T.setTop (mkF m 0 #[.val (.ref p0)] []))
  refine G.aloadN H D32_0 (pc' := 1) rfl rfl rfl ?_
  refine G.getF H (wd180 V) Via.refl f0 D32_1 (pc' := 4) rfl ?_
  intro T1 H2
  exact G.retI H2 rfl D32_4 (so := []) all0 (by decide) (by decide) ⟨rfl, rfl, rfl⟩
set_option maxRecDepth 65536 in
set_option maxHeartbeats 40000000 in
theorem m55_load (V : Env1 Z a0 n0 uu0 uu1 uu2 uu3 uu4 uu5 uu6 uu7 uu8 uu9) (p0 : Addr) (p1 : Addr) (c0 : ClassId) (h0 : Heap) (hO : Old Z n0 h0) (f0 : Fld Z h0 p0 "com/example/passenger_flow_sim/passengerflowsim/simulation/TripLoads" "loads" "[I" (.ref p1)) (f1 : Arv Z h0 p1 c0 .int (1 : Int32) [(.int (1 : Int32))] (.int 0)) :
    Met Z a0 [] False n0 l (⟨"com/example/passenger_flow_sim/passengerflowsim/simulation/TripLoads", "load", "(I)I"⟩ : MethodName) prog_31_method_4_code 2 (Option.some FieldType.int) ({ frames := 0, cells := 0, slots := 0, locals := 0 } : Room) #[(.ref p0), (.int (0 : Int32))] h0 [] (fun v h so => (v = some (.int (1 : Int32)) ∧ so = [] ∧ h0 = h)) := by
  refine Met.of (EWl V) (by first | decide +kernel | rfl) hO (L0 := #[.val (.ref p0), .val (.int (0 : Int32))]) rfl ?_
  intro p e s m below meth c T H
  show Go p e below _ (T.setTop (mkF m 0 #[.val (.ref p0), .val (.int (0 : Int32))] []))
  refine G.aloadN H D24_0 (pc' := 1) rfl rfl rfl ?_
  refine G.getF H (wd219 V) Via.refl f0 D24_1 (pc' := 4) rfl ?_
  intro T1 H2
  refine G.iloadN H2 D24_4 (pc' := 5) rfl rfl ?_
  refine G.ialoadG H2 f1 (j := (0 : Int32)) (v := (.int (1 : Int32))) (by decide) rfl D24_5 (pc' := 6) rfl ?_
  exact G.retI H2 rfl D24_6 (so := []) all0 (by decide) (by decide) ⟨rfl, rfl, rfl⟩
set_option maxRecDepth 65536 in
set_option maxHeartbeats 40000000 in
theorem m56_add (V : Env1 Z a0 n0 uu0 uu1 uu2 uu3 uu4 uu5 uu6 uu7 uu8 uu9) (p0 : Addr) (p1 : Addr) (c0 : ClassId) (h0 : Heap) (hO : Old Z n0 h0) (f0 : Arv Z h0 p1 c0 (.object "java/lang/Object") (10 : Int32) [.null, .null, .null, .null, .null, .null, .null, .null, .null, .null] .null) (g1 : n0 ≤ p1) (f2 : Exa Z h0 p0 "java/util/ArrayList") (f3 : Fld Z h0 p0 "java/util/ArrayList" "size" "I" (.int (1 : Int32))) (g4 : n0 ≤ p0) :
    Met Z a0 [] False n0 l (⟨"java/util/ArrayList", "add", "(Ljava/lang/Object;[Ljava/lang/Object;I)V"⟩ : MethodName) jdk_38_method_24_code 4 (Option.none : Option FieldType) ({ frames := 0, cells := 0, slots := 0, locals := 0 } : Room) #[(.ref p0), .null, (.ref p1), (.int (1 : Int32))] h0 [] (fun v h so => (v = none ∧ so = [] ∧ Keep h0 h [p1, p0] ∧ (∀ (O n d : String) (w : Value), Fld Z h0 p0 O n d w → RoadKit.slotOf Z O n d ≠ RoadKit.slotOf Z "java/util/ArrayList" "size" "I" → Fld Z h p0 O n d w) ∧ Arv Z h p1 c0 (.object "java/lang/Object") (10 : Int32) [.null, .null, .null, .null, .null, .null, .null, .null, .null, .null] .null ∧ Exa Z h p0 "java/util/ArrayList" ∧ Fld Z h p0 "java/util/ArrayList" "size" "I" (.int (2 : Int32)))) := by
  refine Met.of (EWl V) (by first | decide +kernel | rfl) hO (L0 := #[.val (.ref p0), .val .null, .val (.ref p1), .val (.int (1 : Int32))]) rfl ?_
  intro p e s m below meth c T H
  show Go p e below _ (T.setTop (mkF m 0 #[.val (.ref p0), .val .null, .val (.ref p1), .val (.int (1 : Int32))] []))
  refine G.iloadN H D9_0 (pc' := 1) rfl rfl ?_
  refine G.aloadN H D9_1 (pc' := 2) rfl rfl rfl ?_
  refine G.arrlen H f0 D9_2 (pc' := 3) rfl ?_
  refine G.icmpYes H D9_3 (by decide) (by decide) (pc' := 11) rfl ?_
  refine G.aloadN H D9_11 (pc' := 12) rfl rfl rfl ?_
  refine G.iloadN H D9_12 (pc' := 13) rfl rfl ?_
  refine G.aloadN H D9_13 (pc' := 14) rfl rfl rfl ?_
  refine G.stR H f0 rfl (Or.inl rfl) rfl (by decide) (i := 1) rfl (Nat.le_of_ble_eq_true rfl) g1 D9_14 (pc' := 15) rfl ?_
  intro T1 h1_ H1 W2 A3
  replace A3 : Arv Z h1_ p1 c0 (.object "java/lang/Object") (10 : Int32) [.null, .null, .null, .null, .null, .null, .null, .null, .null, .null] .null := A3
  refine G.aloadN H1 D9_15 (pc' := 16) rfl rfl rfl ?_
  refine G.iloadN H1 D9_16 (pc' := 17) rfl rfl ?_
  refine G.iconst H1 D9_17 (pc' := 18) rfl (v := (1 : Int32)) rfl ?_
  refine G.iadd H1 D9_18 (pc' := 19) rfl ?_
  show Go p e below _ (T1.setTop (mkF m 19 #[.val (.ref p0), .val .null, .val (.ref p1), .val (.int (1 : Int32))] [(.int (2 : Int32)), (.ref p0)]))
  have F4 := (Exa.wr W2 f2)
  have N5 : p0 ≠ p1 := Exa.neArv F4 A3 (wd49 V)
  have F6 := (Fld.other W2 f3 (Or.inl N5))
  refine G.putF H1 (wd100 V) Via.refl F6 F4 (Or.inl (wd101 V)) (wd49 V) (ty := .int) (by decide) rfl rfl g4 (Sf.exa F4) D9_19 (pc' := 22) rfl ?_
  intro T7 h7_ H7 W8
  have F9 : Fld Z h7_ p0 "java/util/ArrayList" "size" "I" (.int (2 : Int32)) := Fld.same W8 F6
  have F10 := (Arv.other A3 W8 (Ne.symm N5))
  have F11 := (Exa.wr W8 F4)
  have K12 : Keep h0 h7_ [p1, p0] := (Keep.wr (Keep.wr (Keep.refl h0 [p1, p0]) W2 (Or.inl (List.mem_of_getElem? (i := 0) rfl))) W8 (Or.inl (List.mem_of_getElem? (i := 1) rfl)))
  exact G.retV H7 rfl D9_22 (so := []) all0 (by decide) (by decide) ⟨rfl, rfl, K12, (fun O n d w F hn0 => (Fld.other W8 (Fld.other W2 F (Or.inl N5)) (Or.inr hn0))), F10, F11, F9⟩
set_option maxRecDepth 65536 in
set_option maxHeartbeats 40000000 in
theorem m57_add (V : Env1 Z a0 n0 uu0 uu1 uu2 uu3 uu4 uu5 uu6 uu7 uu8 uu9) (p0 : Addr) (p1 : Addr) (c0 : ClassId) (h0 : Heap) (hO : Old Z n0 h0) (f0 : Fld Z h0 p0 "java/util/AbstractList" "modCount" "I" (.int (1 : Int32))) (f1 : Exa Z h0 p0 "java/util/ArrayList") (g2 : n0 ≤ p0) (f3 : Fld Z h0 p0 "java/util/ArrayList" "elementData" "[Ljava/lang/Object;" (.ref p1)) (f4 : Fld Z h0 p0 "java/util/ArrayList" "size" "I" (.int (1 : Int32))) (f5 : Arv Z h0 p1 c0 (.object "java/lang/Object") (10 : Int32) [.null, .null, .null, .null, .null, .null, .null, .null, .null, .null] .null) (q6 : p1 ≠ p0) (g7 : n0 ≤ p1) :
    Met Z a0 [] False n0 l (⟨"java/util/ArrayList", "add", "(Ljava/lang/Object;)Z"⟩ : MethodName) jdk_38_method_25_code 2 (Option.some FieldType.boolean) ({ frames := 1, cells := 0, slots := 0, locals := 15 } : Room) #[(.ref p0), .null] h0 [] (fun v h so => (v = some (.int (1 : Int32)) ∧ so = [] ∧ Keep h0 h [p0, p1] ∧ (∀ (O n d : String) (w : Value), Fld Z h0 p0 O n d w → RoadKit.slotOf Z O n d ≠ RoadKit.slotOf Z "java/util/AbstractList" "modCount" "I" → RoadKit.slotOf Z O n d ≠ RoadKit.slotOf Z "java/util/ArrayList" "size" "I" → Fld Z h p0 O n d w) ∧ Fld Z h p0 "java/util/AbstractList" "modCount" "I" (.int (2 : Int32)) ∧ Exa Z h p0 "java/util/ArrayList" ∧ Fld Z h p0 "java/util/ArrayList" "elementData" "[Ljava/lang/Object;" (.ref p1) ∧ Fld Z h p0 "java/util/ArrayList" "size" "I" (.int (2 : Int32)) ∧ Arv Z h p1 c0 (.object "java/lang/Object") (10 : Int32) [.null, .null, .null, .null, .null, .null, .null, .null, .null, .null] .null)) := by
  refine Met.of (EWl V) (by first | decide +kernel | rfl) hO (L0 := #[.val (.ref p0), .val .null]) rfl ?_
  intro p e s m below meth c T H
  show Go p e below _ (T.setTop (mkF m 0 #[.val (.ref p0), .val .null] []))
  refine G.aloadN H D10_0 (pc' := 1) rfl rfl rfl ?_
  refine G.dup H D10_1 (pc' := 2) rfl rfl ?_
  refine G.getF H (wd284 V) (Via.of (wd285 V)) f0 D10_2 (pc' := 5) rfl ?_
  intro T1 H2
  refine G.iconst H2 D10_5 (pc' := 6) rfl (v := (1 : Int32)) rfl ?_
  refine G.iadd H2 D10_6 (pc' := 7) rfl ?_
  show Go p e below _ (T1.setTop (mkF m 7 #[.val (.ref p0), .val .null] [(.int (2 : Int32)), (.ref p0)]))
  refine G.putF H2 (wd284 V) (Via.of (wd285 V)) f0 f1 (Or.inl (wd88 V)) (wd49 V) (ty := .int) (by decide) rfl rfl g2 (Sf.exa f1) D10_7 (pc' := 10) rfl ?_
  intro T3 h3_ H3 W4
  have F5 : Fld Z h3_ p0 "java/util/AbstractList" "modCount" "I" (.int (2 : Int32)) := Fld.same W4 f0
  refine G.aloadN H3 D10_10 (pc' := 11) rfl rfl rfl ?_
  refine G.aloadN H3 D10_11 (pc' := 12) rfl rfl rfl ?_
  refine G.aloadN H3 D10_12 (pc' := 13) rfl rfl rfl ?_
  have F6 := (Fld.other W4 f3 (Or.inr (slot_ne (Or.inl (wd129 V)) (Or.inl (wd88 V)) (by decide) (t := (.array (.object "java/lang/Object"))) (t' := .int) (by decide) (by decide))))
  refine G.getF H3 (wd128 V) Via.refl F6 D10_13 (pc' := 16) rfl ?_
  intro T7 H8
  refine G.aloadN H8 D10_16 (pc' := 17) rfl rfl rfl ?_
  have F9 := (Fld.other W4 f4 (Or.inr (slot_ne (Or.inl (wd101 V)) (Or.inl (wd88 V)) (by decide) (t := .int) (t' := .int) (by decide) (by decide))))
  refine G.getF H8 (wd100 V) Via.refl F9 D10_17 (pc' := 20) rfl ?_
  intro T10 H11
  have F12 := (Exa.wr W4 f1)
  have F13 := (Arv.other f5 W4 q6)
  refine G.callP H11 (m56_add V p0 p1 c0 h3_ H11.old F13 g7 F12 F9 g2) (wd286 V) (wd287 V) (wd289 V) (wd288 V) (wd50 V) (wd290 V) (by decide) F12 (argsL := [.null, (.ref p1), (.int (1 : Int32))]) (rest := []) (W := 0) rfl rfl (lenOf (pd_22) rfl) rfl rfl D10_20 (pc' := 23) rfl (by decide) (by decide) (by decide) (by decide) all0 ?_
  intro T14 h14_ v15 s16 H14 Q17
  obtain ⟨rfl, rfl, K18, U19, F20, F21, F22⟩ := Q17
  show Go p e below _ (T14.setTop (mkF m 23 #[.val (.ref p0), .val .null] []))
  refine G.iconst H14 D10_23 (pc' := 24) rfl (v := (1 : Int32)) rfl ?_
  have F23 := (U19 "java/util/AbstractList" "modCount" "I" (.int (2 : Int32)) F5 (slot_ne (Or.inl (wd88 V)) (Or.inl (wd101 V)) (by decide) (t := .int) (t' := .int) (by decide) (by decide)))
  have F24 := (U19 "java/util/ArrayList" "elementData" "[Ljava/lang/Object;" (.ref p1) F6 (slot_ne (Or.inl (wd129 V)) (Or.inl (wd101 V)) (by decide) (t := (.array (.object "java/lang/Object"))) (t' := .int) (by decide) (by decide)))
  have K25 : Keep h0 h14_ [p0, p1] := (Keep.trans (Keep.wr (Keep.refl h0 [p0, p1]) W4 (Or.inl (List.mem_of_getElem? (i := 0) rfl))) K18 (allS (Or.inl (List.mem_of_getElem? (i := 1) rfl)) (allS (Or.inl (List.mem_of_getElem? (i := 0) rfl)) all0)))
  exact G.retN H14 (t := .boolean) rfl (by decide) D10_24 (so := []) all0 (by decide) (by decide) ⟨rfl, rfl, K25, (fun O n d w F hn0 hn1 => (U19 O n d w (Fld.other W4 F (Or.inr hn0)) hn1)), F23, F21, F24, F22, F20⟩
set_option maxRecDepth 65536 in
set_option maxHeartbeats 40000000 in
theorem m58_add (V : Env1 Z a0 n0 uu0 uu1 uu2 uu3 uu4 uu5 uu6 uu7 uu8 uu9) (p0 : Addr) (p1 : Addr) (c0 : ClassId) (p2 : Addr) (p3 : Addr) (c1 : ClassId) (h0 : Heap) (hO : Old Z n0 h0) (f0 : Exa Z h0 p0 "java/util/ArrayList") (f1 : Fld Z h0 p0 "java/util/ArrayList" "size" "I" (.int (2 : Int32))) (f2 : Fld Z h0 p0 "java/util/ArrayList" "elementData" "[Ljava/lang/Object;" (.ref p1)) (f3 : Arv Z h0 p1 c0 (.object "java/lang/Object") (2 : Int32) [.null, (.ref p2)] .null) (f4 : Exa Z h0 p2 "java/util/ArrayList") (f5 : Fld Z h0 p2 "java/util/AbstractList" "modCount" "I" (.int (1 : Int32))) (g6 : n0 ≤ p2) (f7 : Fld Z h0 p2 "java/util/ArrayList" "elementData" "[Ljava/lang/Object;" (.ref p3)) (f8 : Fld Z h0 p2 "java/util/ArrayList" "size" "I" (.int (1 : Int32))) (f9 : Arv Z h0 p3 c1 (.object "java/lang/Object") (10 : Int32) [.null, .null, .null, .null, .null, .null, .null, .null, .null, .null] .null) (g10 : n0 ≤ p3) :
    Met Z a0 [] False n0 l (⟨"com/example/passenger_flow_sim/passengerflowsim/simulation/Vehicle", "add", "(Ljava/util/List;ILcom/example/passenger_flow_sim/passengerflowsim/simulation/Traveller;)V"⟩ : MethodName) prog_32_method_15_code 3 (Option.none : Option FieldType) ({ frames := 3, cells := 0, slots := 0, locals := 40 } : Room) #[(.ref p0), (.int (1 : Int32)), .null] h0 [] (fun v h so => (v = none ∧ so = [] ∧ Keep h0 h [p2, p3] ∧ (∀ (O n d : String) (w : Value), Fld Z h0 p2 O n d w → RoadKit.slotOf Z O n d ≠ RoadKit.slotOf Z "java/util/AbstractList" "modCount" "I" → RoadKit.slotOf Z O n d ≠ RoadKit.slotOf Z "java/util/ArrayList" "size" "I" → Fld Z h p2 O n d w) ∧ Exa Z h p2 "java/util/ArrayList" ∧ Fld Z h p2 "java/util/AbstractList" "modCount" "I" (.int (2 : Int32)) ∧ Fld Z h p2 "java/util/ArrayList" "elementData" "[Ljava/lang/Object;" (.ref p3) ∧ Fld Z h p2 "java/util/ArrayList" "size" "I" (.int (2 : Int32)) ∧ Arv Z h p3 c1 (.object "java/lang/Object") (10 : Int32) [.null, .null, .null, .null, .null, .null, .null, .null, .null, .null] .null)) := by
  refine Met.of (EWl V) (by first | decide +kernel | rfl) hO (L0 := #[.val (.ref p0), .val (.int (1 : Int32)), .val .null]) rfl ?_
  intro p e s m below meth c T H
  show Go p e below _ (T.setTop (mkF m 0 #[.val (.ref p0), .val (.int (1 : Int32)), .val .null] []))
  refine G.aloadN H D29_0 (pc' := 1) rfl rfl rfl ?_
  refine G.iloadN H D29_1 (pc' := 2) rfl rfl ?_
  refine G.callF H (m42_get V p0 p1 c0 p2 h0 H.old f1 f0 f2 f3) (wd144 V) (wd145 V) (fun s2 aa hZ => Jvm.Free.ULB.iface_rides (U := s2) hZ.alike (wd146 V)) (wd147 V) (wd148 V) (wd149 V) (wd150 V) (wd151 V) (wd50 V) (wd152 V) (by decide) f0 (argsL := [(.int (1 : Int32))]) (rest := []) (W := 0) rfl rfl (lenOf (pd_11) rfl) rfl rfl D29_2 (pc' := 7) rfl (by decide) (by decide) (by decide) (by decide) all0 ?_
  intro T1 h1_ v2 s3 H1 Q4
  obtain ⟨rfl, rfl, rfl⟩ := Q4
  show Go p e below _ (T1.setTop (mkF m 7 #[.val (.ref p0), .val (.int (1 : Int32)), .val .null] [(.ref p2)]))
  refine G.ifnonnullYes H1 D29_7 (by decide) (pc' := 25) rfl ?_
  refine G.aloadN H1 D29_25 (pc' := 26) rfl rfl rfl ?_
  refine G.iloadN H1 D29_26 (pc' := 27) rfl rfl ?_
  refine G.callF H1 (m42_get V p0 p1 c0 p2 h0 H1.old f1 f0 f2 f3) (wd144 V) (wd145 V) (fun s2 aa hZ => Jvm.Free.ULB.iface_rides (U := s2) hZ.alike (wd146 V)) (wd147 V) (wd148 V) (wd149 V) (wd150 V) (wd151 V) (wd50 V) (wd152 V) (by decide) f0 (argsL := [(.int (1 : Int32))]) (rest := []) (W := 0) rfl rfl (lenOf (pd_11) rfl) rfl rfl D29_27 (pc' := 32) rfl (by decide) (by decide) (by decide) (by decide) all0 ?_
  intro T5 h5_ v6 s7 H5 Q8
  obtain ⟨rfl, rfl, rfl⟩ := Q8
  show Go p e below _ (T5.setTop (mkF m 32 #[.val (.ref p0), .val (.int (1 : Int32)), .val .null] [(.ref p2)]))
  refine G.castY H5 (wd275 V) (Ins.of_exa f4 (wd151 V)) D29_32 (pc' := 35) rfl ?_
  intro T9 H10
  refine G.aloadN H10 D29_35 (pc' := 36) rfl rfl rfl ?_
  have N11 : p3 ≠ p2 := Ne.symm (Exa.neArv f4 f9 (wd49 V))
  refine G.callF H10 (m57_add V p2 p3 c1 h0 H10.old f5 f4 g6 f7 f8 f9 N11 g10) (wd276 V) (wd277 V) (fun s2 aa hZ => Jvm.Free.ULB.iface_rides (U := s2) hZ.alike (wd278 V)) (wd279 V) (wd280 V) (wd281 V) (wd282 V) (wd151 V) (wd50 V) (wd283 V) (by decide) f4 (argsL := [.null]) (rest := []) (W := 0) rfl rfl (lenOf (pd_23) rfl) rfl rfl D29_36 (pc' := 41) rfl (by decide) (by decide) (by decide) (by decide) all0 ?_
  intro T12 h12_ v13 s14 H12 Q15
  obtain ⟨rfl, rfl, K16, U17, F18, F19, F20, F21, F22⟩ := Q15
  show Go p e below _ (T12.setTop (mkF m 41 #[.val (.ref p0), .val (.int (1 : Int32)), .val .null] [(.int (1 : Int32))]))
  refine G.pop H12 D29_41 (pc' := 42) rfl rfl ?_
  have K23 : Keep h0 h12_ [p2, p3] := (Keep.trans (Keep.refl h0 [p2, p3]) K16 (allS (Or.inl (List.mem_of_getElem? (i := 0) rfl)) (allS (Or.inl (List.mem_of_getElem? (i := 1) rfl)) all0)))
  exact G.retV H12 rfl D29_42 (so := []) all0 (by decide) (by decide) ⟨rfl, rfl, K23, (fun O n d w F hn0 hn1 => (U17 O n d w F hn0 hn1)), F19, F18, F20, F21, F22⟩
set_option maxRecDepth 65536 in
set_option maxHeartbeats 40000000 in
theorem m59_board (V : Env1 Z a0 n0 uu0 uu1 uu2 uu3 uu4 uu5 uu6 uu7 uu8 uu9) (p0 : Addr) (p1 : Addr) (p2 : Addr) (c0 : ClassId) (p3 : Addr) (p4 : Addr) (c1 : ClassId) (h0 : Heap) (hO : Old Z n0 h0) (f0 : Fld Z h0 p0 "com/example/passenger_flow_sim/passengerflowsim/simulation/Vehicle" "load" "I" (.int (1 : Int32))) (f1 : Exa Z h0 p0 "com/example/passenger_flow_sim/passengerflowsim/simulation/Vehicle") (g2 : n0 ≤ p0) (f3 : Fld Z h0 p0 "com/example/passenger_flow_sim/passengerflowsim/simulation/Vehicle" "alighting" "Ljava/util/List;" (.ref p1)) (f4 : Exa Z h0 p1 "java/util/ArrayList") (f5 : Fld Z h0 p1 "java/util/ArrayList" "size" "I" (.int (2 : Int32))) (f6 : Fld Z h0 p1 "java/util/ArrayList" "elementData" "[Ljava/lang/Object;" (.ref p2)) (f7 : Arv Z h0 p2 c0 (.object "java/lang/Object") (2 : Int32) [.null, (.ref p3)] .null) (q8 : p2 ≠ p0) (f9 : Exa Z h0 p3 "java/util/ArrayList") (f10 : Fld Z h0 p3 "java/util/AbstractList" "modCount" "I" (.int (1 : Int32))) (g11 : n0 ≤ p3) (f12 : Fld Z h0 p3 "java/util/ArrayList" "elementData" "[Ljava/lang/Object;" (.ref p4)) (f13 : Fld Z h0 p3 "java/util/ArrayList" "size" "I" (.int (1 : Int32))) (f14 : Arv Z h0 p4 c1 (.object "java/lang/Object") (10 : Int32) [.null, .null, .null, .null, .null, .null, .null, .null, .null, .null] .null) (q15 : p4 ≠ p0) (g16 : n0 ≤ p4) :
    Met Z a0 [] False n0 l (⟨"com/example/passenger_flow_sim/passengerflowsim/simulation/Vehicle", "board", "(Lcom/example/passenger_flow_sim/passengerflowsim/simulation/Traveller;I)V"⟩ : MethodName) prog_32_method_12_code 3 (Option.none : Option FieldType) ({ frames := 4, cells := 0, slots := 0, locals := 54 } : Room) #[(.ref p0), .null, (.int (1 : Int32))] h0 [] (fun v h so => (v = none ∧ so = [] ∧ Keep h0 h [p0, p3, p4] ∧ (∀ (O n d : String) (w : Value), Fld Z h0 p0 O n d w → RoadKit.slotOf Z O n d ≠ RoadKit.slotOf Z "com/example/passenger_flow_sim/passengerflowsim/simulation/Vehicle" "load" "I" → Fld Z h p0 O n d w) ∧ (∀ (O n d : String) (w : Value), Fld Z h0 p3 O n d w → RoadKit.slotOf Z O n d ≠ RoadKit.slotOf Z "java/util/AbstractList" "modCount" "I" → RoadKit.slotOf Z O n d ≠ RoadKit.slotOf Z "java/util/ArrayList" "size" "I" → Fld Z h p3 O n d w) ∧ Fld Z h p0 "com/example/passenger_flow_sim/passengerflowsim/simulation/Vehicle" "load" "I" (.int (2 : Int32)) ∧ Exa Z h p0 "com/example/passenger_flow_sim/passengerflowsim/simulation/Vehicle" ∧ Fld Z h p0 "com/example/passenger_flow_sim/passengerflowsim/simulation/Vehicle" "alighting" "Ljava/util/List;" (.ref p1) ∧ Exa Z h p3 "java/util/ArrayList" ∧ Fld Z h p3 "java/util/AbstractList" "modCount" "I" (.int (2 : Int32)) ∧ Fld Z h p3 "java/util/ArrayList" "elementData" "[Ljava/lang/Object;" (.ref p4) ∧ Fld Z h p3 "java/util/ArrayList" "size" "I" (.int (2 : Int32)) ∧ Arv Z h p4 c1 (.object "java/lang/Object") (10 : Int32) [.null, .null, .null, .null, .null, .null, .null, .null, .null, .null] .null)) := by
  refine Met.of (EWl V) (by first | decide +kernel | rfl) hO (L0 := #[.val (.ref p0), .val .null, .val (.int (1 : Int32))]) rfl ?_
  intro p e s m below meth c T H
  show Go p e below _ (T.setTop (mkF m 0 #[.val (.ref p0), .val .null, .val (.int (1 : Int32))] []))
  refine G.aloadN H D26_0 (pc' := 1) rfl rfl rfl ?_
  refine G.dup H D26_1 (pc' := 2) rfl rfl ?_
  refine G.getF H (wd180 V) Via.refl f0 D26_2 (pc' := 5) rfl ?_
  intro T1 H2
  refine G.iconst H2 D26_5 (pc' := 6) rfl (v := (1 : Int32)) rfl ?_
  refine G.iadd H2 D26_6 (pc' := 7) rfl ?_
  show Go p e below _ (T1.setTop (mkF m 7 #[.val (.ref p0), .val .null, .val (.int (1 : Int32))] [(.int (2 : Int32)), (.ref p0)]))
  refine G.putF H2 (wd180 V) Via.refl f0 f1 (Or.inl (wd181 V)) (wd31 V) (ty := .int) (by decide) rfl rfl g2 (Sf.exa f1) D26_7 (pc' := 10) rfl ?_
  intro T3 h3_ H3 W4
  have F5 : Fld Z h3_ p0 "com/example/passenger_flow_sim/passengerflowsim/simulation/Vehicle" "load" "I" (.int (2 : Int32)) := Fld.same W4 f0
  refine G.aloadN H3 D26_10 (pc' := 11) rfl rfl rfl ?_
  have F6 := (Fld.other W4 f3 (Or.inr (slot_ne (Or.inr (wd133 V)) (Or.inl (wd181 V)) (by decide) (t := (.object "java/util/List")) (t' := .int) (by decide) (by decide))))
  refine G.getF H3 (wd132 V) Via.refl F6 D26_11 (pc' := 14) rfl ?_
  intro T7 H8
  refine G.iloadN H8 D26_14 (pc' := 15) rfl rfl ?_
  refine G.aloadN H8 D26_15 (pc' := 16) rfl rfl rfl ?_
  have F9 := (Exa.wr W4 f4)
  have F10 := (Exa.wr W4 f1)
  have N11 : p1 ≠ p0 := Exa.ne F9 F10 (by decide)
  have F12 := (Fld.other W4 f5 (Or.inl N11))
  have F13 := (Fld.other W4 f6 (Or.inl N11))
  have F14 := (Arv.other f7 W4 q8)
  have F15 := (Exa.wr W4 f9)
  have N16 : p3 ≠ p0 := Exa.ne F15 F10 (by decide)
  have F17 := (Fld.other W4 f10 (Or.inl N16))
  have F18 := (Fld.other W4 f12 (Or.inl N16))
  have F19 := (Fld.other W4 f13 (Or.inl N16))
  have F20 := (Arv.other f14 W4 q15)
  refine G.callS H8 (m58_add V p1 p2 c0 p3 p4 c1 h3_ H8.old F9 F12 F13 F14 F15 F17 g11 F18 F19 F20 g16) (wd267 V) (wd268 V) (wd32 V) (wd269 V) (by decide) (argsL := [(.ref p1), (.int (1 : Int32)), .null]) (rest := []) (W := 0) rfl rfl (lenOf (pd_24) rfl) rfl rfl D26_16 (pc' := 19) rfl (by decide) (by decide) (by decide) (by decide) all0 ?_
  intro T21 h21_ v22 s23 H21 Q24
  obtain ⟨rfl, rfl, K25, U26, F27, F28, F29, F30, F31⟩ := Q24
  show Go p e below _ (T21.setTop (mkF m 19 #[.val (.ref p0), .val .null, .val (.int (1 : Int32))] []))
  have F32 := (Fld.keep F5 K25 (ninS (Ne.symm N16) (ninS (Ne.symm q15) nin0)))
  have F33 := (Exa.keep F10 K25)
  have F34 := (Fld.keep F6 K25 (ninS (Ne.symm N16) (ninS (Ne.symm q15) nin0)))
  have K35 : Keep h0 h21_ [p0, p3, p4] := (Keep.trans (Keep.wr (Keep.refl h0 [p0, p3, p4]) W4 (Or.inl (List.mem_of_getElem? (i := 0) rfl))) K25 (allS (Or.inl (List.mem_of_getElem? (i := 1) rfl)) (allS (Or.inl (List.mem_of_getElem? (i := 2) rfl)) all0)))
  exact G.retV H21 rfl D26_19 (so := []) all0 (by decide) (by decide) ⟨rfl, rfl, K35, (fun O n d w F hn0 => (Fld.keep (Fld.other W4 F (Or.inr hn0)) K25 (ninS (Ne.symm N16) (ninS (Ne.symm q15) nin0)))), (fun O n d w F hn0 hn1 => (U26 O n d w (Fld.other W4 F (Or.inl N16)) hn0 hn1)), F32, F33, F34, F27, F28, F29, F30, F31⟩
set_option maxRecDepth 65536 in
set_option maxHeartbeats 40000000 in
theorem m60_boardSome (V : Env1 Z a0 n0 uu0 uu1 uu2 uu3 uu4 uu5 uu6 uu7 uu8 uu9) (p0 : Addr) (p1 : Addr) (p2 : Addr) (c0 : ClassId) (h0 : Heap) (hO : Old Z n0 h0) (f0 : Exa Z h0 p0 "com/example/passenger_flow_sim/passengerflowsim/simulation/Vehicle") (f1 : Fld Z h0 p0 "com/example/passenger_flow_sim/passengerflowsim/simulation/Vehicle" "load" "I" (.int (0 : Int32))) (g2 : n0 ≤ p0) (f3 : Fld Z h0 p0 "com/example/passenger_flow_sim/passengerflowsim/simulation/Vehicle" "alighting" "Ljava/util/List;" (.ref p1)) (f4 : Exa Z h0 p1 "java/util/ArrayList") (f5 : Fld Z h0 p1 "java/util/ArrayList" "size" "I" (.int (2 : Int32))) (f6 : Fld Z h0 p1 "java/util/ArrayList" "elementData" "[Ljava/lang/Object;" (.ref p2)) (f7 : Arv Z h0 p2 c0 (.object "java/lang/Object") (2 : Int32) [.null, .null] .null) (g8 : n0 ≤ p2) (o9 : Ovr Z c0 "java/lang/Object") :
    Met Z a0 [] False n0 l (⟨"com/example/passenger_flow_sim/passengerflowsim/simulation/VehicleLeavePinLaw", "boardSome", "(Lcom/example/passenger_flow_sim/passengerflowsim/simulation/Vehicle;I)V"⟩ : MethodName) method_3_code 2 (Option.none : Option FieldType) ({ frames := 7, cells := 2, slots := 13, locals := 97 } : Room) #[(.ref p0), (.int (2 : Int32))] h0 [] (fun v h so => (∃ a6 a7 : Addr, ∃ k8 : ClassId, v = none ∧ so = [] ∧ Keep h0 h [p0, p2] ∧ h0.size ≤ a6 ∧ a6 < a7 ∧ (∀ (O n d : String) (w : Value), Fld Z h0 p0 O n d w → RoadKit.slotOf Z O n d ≠ RoadKit.slotOf Z "com/example/passenger_flow_sim/passengerflowsim/simulation/Vehicle" "load" "I" → Fld Z h p0 O n d w) ∧ Ovr Z k8 "java/lang/Object" ∧ Exa Z h p0 "com/example/passenger_flow_sim/passengerflowsim/simulation/Vehicle" ∧ Fld Z h p0 "com/example/passenger_flow_sim/passengerflowsim/simulation/Vehicle" "load" "I" (.int (2 : Int32)) ∧ Fld Z h p0 "com/example/passenger_flow_sim/passengerflowsim/simulation/Vehicle" "alighting" "Ljava/util/List;" (.ref p1) ∧ Arv Z h p2 c0 (.object "java/lang/Object") (2 : Int32) [.null, (.ref a6)] .null ∧ Exa Z h a6 "java/util/ArrayList" ∧ Fld Z h a6 "java/util/AbstractList" "modCount" "I" (.int (2 : Int32)) ∧ Fld Z h a6 "java/util/ArrayList" "elementData" "[Ljava/lang/Object;" (.ref a7) ∧ Fld Z h a6 "java/util/ArrayList" "size" "I" (.int (2 : Int32)) ∧ Arv Z h a7 k8 (.object "java/lang/Object") (10 : Int32) [.null, .null, .null, .null, .null, .null, .null, .null, .null, .null] .null ∧ Exa Z h a7 "[Ljava/lang/Object;")) := by
  refine Met.of (EWl V) (by first | decide +kernel | rfl) hO (L0 := #[.val (.ref p0), .val (.int (2 : Int32))]) rfl ?_
  intro p e s m below meth c T H
  show Go p e below _ (T.setTop (mkF m 0 #[.val (.ref p0), .val (.int (2 : Int32))] []))
  refine G.iloadN H D21_0 (pc' := 1) rfl rfl ?_
  refine G.iconst H D21_1 (pc' := 2) rfl (v := (1 : Int32)) rfl ?_
  refine G.icmpNo H D21_2 (pc' := 5) rfl (by decide) ?_
  refine G.aloadN H D21_5 (pc' := 6) rfl rfl rfl ?_
  refine G.aconstNull H D21_6 (pc' := 7) rfl ?_
  refine G.iconst H D21_7 (pc' := 8) rfl (v := (1 : Int32)) rfl ?_
  have N1 : p2 ≠ p0 := Ne.symm (Exa.neArv f0 f7 (wd31 V))
  refine G.callV H (m49_board V p0 p1 p2 c0 h0 H.old f1 f0 g2 f3 f4 f5 f6 f7 N1 g8 o9) (wd262 V) (wd263 V) (nf_sel (wd265 V)) (wd265 V) (wd264 V) (wd32 V) (wd266 V) (by decide) f0 (argsL := [.null, (.int (1 : Int32))]) (rest := []) (W := 0) rfl rfl (lenOf (pd_25) rfl) rfl rfl D21_8 (pc' := 11) rfl (by decide) (by decide) (by decide) (by decide) all0 ?_
  intro T2 h2_ v3 s4 H2 Q5
  obtain ⟨a6, a7, k8, rfl, rfl, K9, g10, g11, U12, O13, F14, F15, F16, F17, F18, F19, F20, F21, F22, F23⟩ := Q5
  have na6 : n0 ≤ a6 := Nat.le_trans H.le g10
  have na7 : n0 ≤ a7 := Nat.le_trans H.le (Nat.le_of_lt (Nat.lt_of_le_of_lt g10 g11))
  show Go p e below _ (T2.setTop (mkF m 11 #[.val (.ref p0), .val (.int (2 : Int32))] []))
  refine G.iloadN H2 D21_11 (pc' := 12) rfl rfl ?_
  refine G.iconst H2 D21_12 (pc' := 13) rfl (v := (2 : Int32)) rfl ?_
  refine G.icmpNo H2 D21_13 (pc' := 16) rfl (by decide) ?_
  refine G.aloadN H2 D21_16 (pc' := 17) rfl rfl rfl ?_
  refine G.aconstNull H2 D21_17 (pc' := 18) rfl ?_
  refine G.iconst H2 D21_18 (pc' := 19) rfl (v := (1 : Int32)) rfl ?_
  have F24 := (Exa.keep f4 K9)
  have N25 : p1 ≠ p2 := Exa.neArv F24 F17 (wd49 V)
  have N26 : p1 ≠ p0 := Exa.ne F24 F15 (by decide)
  have F27 := (Fld.keep f5 K9 (ninS N26 (ninS N25 nin0)))
  have F28 := (Fld.keep f6 K9 (ninS N26 (ninS N25 nin0)))
  have N29 : a7 ≠ p0 := Ne.symm (Exa.neArv F15 F22 (wd31 V))
  refine G.callV H2 (m59_board V p0 p1 p2 c0 a6 a7 k8 h2_ H2.old F14 F15 g2 F16 F24 F27 F28 F17 N1 F18 F19 na6 F20 F21 F22 N29 na7) (wd262 V) (wd263 V) (nf_sel (wd265 V)) (wd265 V) (wd264 V) (wd32 V) (wd266 V) (by decide) F15 (argsL := [.null, (.int (1 : Int32))]) (rest := []) (W := 0) rfl rfl (lenOf (pd_25) rfl) rfl rfl D21_19 (pc' := 22) rfl (by decide) (by decide) (by decide) (by decide) all0 ?_
  intro T30 h30_ v31 s32 H30 Q33
  obtain ⟨rfl, rfl, K34, U35, U36, F37, F38, F39, F40, F41, F42, F43, F44⟩ := Q33
  show Go p e below _ (T30.setTop (mkF m 22 #[.val (.ref p0), .val (.int (2 : Int32))] []))
  refine G.iloadN H30 D21_22 (pc' := 23) rfl rfl ?_
  refine G.iconst H30 D21_23 (pc' := 24) rfl (v := (3 : Int32)) rfl ?_
  refine G.icmpYes H30 D21_24 (by decide) (by decide) (pc' := 33) rfl ?_
  have N45 : p2 ≠ a7 := (Nat.ne_of_lt (Nat.lt_of_lt_of_le f7.lt (Nat.le_of_lt (Nat.lt_of_le_of_lt g10 g11))))
  have N46 : p2 ≠ a6 := (Nat.ne_of_lt (Nat.lt_of_lt_of_le f7.lt g10))
  have F47 := (Arv.keep F17 K34 (ninS N1 (ninS N46 (ninS N45 nin0))))
  have F48 := (Exa.keep F23 K34)
  have K49 : Keep h0 h30_ [p0, p2] := (Keep.trans (Keep.trans (Keep.refl h0 [p0, p2]) K9 (allS (Or.inl (List.mem_of_getElem? (i := 0) rfl)) (allS (Or.inl (List.mem_of_getElem? (i := 1) rfl)) all0))) K34 (allS (Or.inl (List.mem_of_getElem? (i := 0) rfl)) (allS (Or.inr g10) (allS (Or.inr (Nat.le_of_lt (Nat.lt_of_le_of_lt g10 g11))) all0))))
  exact G.retV H30 rfl D21_33 (so := []) all0 (by decide) (by decide) ⟨a6, a7, k8, rfl, rfl, K49, g10, g11, (fun O n d w F hn0 => (U35 O n d w (U12 O n d w F hn0) hn0)), O13, F38, F37, F39, F47, F40, F41, F42, F43, F44, F48⟩
set_option maxRecDepth 65536 in
set_option maxHeartbeats 40000000 in
theorem m61_leave (V : Env1 Z a0 n0 uu0 uu1 uu2 uu3 uu4 uu5 uu6 uu7 uu8 uu9) (p0 : Addr) (p1 : Addr) (c0 : ClassId) (h0 : Heap) (hO : Old Z n0 h0) (f0 : Fld Z h0 p0 "com/example/passenger_flow_sim/passengerflowsim/simulation/Vehicle" "step" "I" (.int (1 : Int32))) (f1 : Fld Z h0 p0 "com/example/passenger_flow_sim/passengerflowsim/simulation/Vehicle" "loads" "[I" (.ref p1)) (f2 : Arv Z h0 p1 c0 .int (1 : Int32) [(.int (0 : Int32))] (.int 0)) (f3 : Fld Z h0 p0 "com/example/passenger_flow_sim/passengerflowsim/simulation/Vehicle" "load" "I" (.int (2 : Int32))) (g4 : n0 ≤ p1) (q5 : p0 ≠ p1) (f6 : Exa Z h0 p0 "com/example/passenger_flow_sim/passengerflowsim/simulation/Vehicle") (g7 : n0 ≤ p0) :
    Met Z a0 [] False n0 l (⟨"com/example/passenger_flow_sim/passengerflowsim/simulation/Vehicle", "leave", "()V"⟩ : MethodName) prog_32_method_13_code 2 (Option.none : Option FieldType) ({ frames := 0, cells := 0, slots := 0, locals := 0 } : Room) #[(.ref p0)] h0 [] (fun v h so => (v = none ∧ so = [] ∧ Keep h0 h [p1, p0] ∧ (∀ (O n d : String) (w : Value), Fld Z h0 p0 O n d w → RoadKit.slotOf Z O n d ≠ RoadKit.slotOf Z "com/example/passenger_flow_sim/passengerflowsim/simulation/Vehicle" "step" "I" → Fld Z h p0 O n d w) ∧ Arv Z h p1 c0 .int (1 : Int32) [(.int (2 : Int32))] (.int 0) ∧ Fld Z h p0 "com/example/passenger_flow_sim/passengerflowsim/simulation/Vehicle" "step" "I" (.int (2 : Int32)) ∧ Fld Z h p0 "com/example/passenger_flow_sim/passengerflowsim/simulation/Vehicle" "loads" "[I" (.ref p1) ∧ Fld Z h p0 "com/example/passenger_flow_sim/passengerflowsim/simulation/Vehicle" "load" "I" (.int (2 : Int32)) ∧ Exa Z h p0 "com/example/passenger_flow_sim/passengerflowsim/simulation/Vehicle")) := by
  refine Met.of (EWl V) (by first | decide +kernel | rfl) hO (L0 := #[.val (.ref p0), .unset]) rfl ?_
  intro p e s m below meth c T H
  show Go p e below _ (T.setTop (mkF m 0 #[.val (.ref p0), .unset] []))
  refine G.aloadN H D27_0 (pc' := 1) rfl rfl rfl ?_
  refine G.getF H (wd139 V) Via.refl f0 D27_1 (pc' := 4) rfl ?_
  intro T1 H2
  refine G.iconst H2 D27_4 (pc' := 5) rfl (v := (2 : Int32)) rfl ?_
  refine G.idiv H2 D27_5 (pc' := 6) rfl (by decide) ?_
  show Go p e below _ (T1.setTop (mkF m 6 #[.val (.ref p0), .unset] [(.int (0 : Int32))]))
  refine G.istoreN H2 (L' := #[.val (.ref p0), .val (.int (0 : Int32))]) D27_6 (pc' := 7) rfl rfl ?_
  refine G.iloadN H2 D27_7 (pc' := 8) rfl rfl ?_
  refine G.aloadN H2 D27_8 (pc' := 9) rfl rfl rfl ?_
  refine G.getF H2 (wd46 V) Via.refl f1 D27_9 (pc' := 12) rfl ?_
  intro T3 H4
  refine G.arrlen H4 f2 D27_12 (pc' := 13) rfl ?_
  refine G.icmpNo H4 D27_13 (pc' := 16) rfl (by decide) ?_
  refine G.aloadN H4 D27_16 (pc' := 17) rfl rfl rfl ?_
  refine G.getF H4 (wd46 V) Via.refl f1 D27_17 (pc' := 20) rfl ?_
  intro T5 H6
  refine G.iloadN H6 D27_20 (pc' := 21) rfl rfl ?_
  refine G.aloadN H6 D27_21 (pc' := 22) rfl rfl rfl ?_
  refine G.getF H6 (wd180 V) Via.refl f3 D27_22 (pc' := 25) rfl ?_
  intro T7 H8
  refine G.stI H8 f2 (by decide) (i := 0) rfl (Nat.le_of_ble_eq_true rfl) g4 D27_25 (pc' := 26) rfl ?_
  intro T9 h9_ H9 W10 A11
  replace A11 : Arv Z h9_ p1 c0 .int (1 : Int32) [(.int (2 : Int32))] (.int 0) := A11
  refine G.aloadN H9 D27_26 (pc' := 27) rfl rfl rfl ?_
  refine G.dup H9 D27_27 (pc' := 28) rfl rfl ?_
  have F12 := (Fld.other W10 f0 (Or.inl q5))
  refine G.getF H9 (wd139 V) Via.refl F12 D27_28 (pc' := 31) rfl ?_
  intro T13 H14
  refine G.iconst H14 D27_31 (pc' := 32) rfl (v := (1 : Int32)) rfl ?_
  refine G.iadd H14 D27_32 (pc' := 33) rfl ?_
  show Go p e below _ (T13.setTop (mkF m 33 #[.val (.ref p0), .val (.int (0 : Int32))] [(.int (2 : Int32)), (.ref p0)]))
  have F15 := (Exa.wr W10 f6)
  refine G.putF H14 (wd139 V) Via.refl F12 F15 (Or.inl (wd140 V)) (wd31 V) (ty := .int) (by decide) rfl rfl g7 (Sf.exa F15) D27_33 (pc' := 36) rfl ?_
  intro T16 h16_ H16 W17
  have F18 : Fld Z h16_ p0 "com/example/passenger_flow_sim/passengerflowsim/simulation/Vehicle" "step" "I" (.int (2 : Int32)) := Fld.same W17 F12
  have F19 := (Arv.other A11 W17 (Ne.symm q5))
  have F20 := (Fld.other W17 (Fld.other W10 f1 (Or.inl q5)) (Or.inr (slot_ne (Or.inr (wd47 V)) (Or.inl (wd140 V)) (by decide) (t := (.array .int)) (t' := .int) (by decide) (by decide))))
  have F21 := (Fld.other W17 (Fld.other W10 f3 (Or.inl q5)) (Or.inr (slot_ne (Or.inl (wd181 V)) (Or.inl (wd140 V)) (by decide) (t := .int) (t' := .int) (by decide) (by decide))))
  have F22 := (Exa.wr W17 F15)
  have K23 : Keep h0 h16_ [p1, p0] := (Keep.wr (Keep.wr (Keep.refl h0 [p1, p0]) W10 (Or.inl (List.mem_of_getElem? (i := 0) rfl))) W17 (Or.inl (List.mem_of_getElem? (i := 1) rfl)))
  exact G.retV H16 rfl D27_36 (so := []) all0 (by decide) (by decide) ⟨rfl, rfl, K23, (fun O n d w F hn0 => (Fld.other W17 (Fld.other W10 F (Or.inl q5)) (Or.inr hn0))), F19, F18, F20, F21, F22⟩
set_option maxRecDepth 65536 in
set_option maxHeartbeats 40000000 in
theorem m62_loads (V : Env1 Z a0 n0 uu0 uu1 uu2 uu3 uu4 uu5 uu6 uu7 uu8 uu9) (p0 : Addr) (p1 : Addr) (p2 : Addr) (c0 : ClassId) (h0 : Heap) (hO : Old Z n0 h0) (f0 : Fld Z h0 p0 "com/example/passenger_flow_sim/passengerflowsim/simulation/Vehicle" "trip" "Lcom/example/passenger_flow_sim/passengerflowsim/timetable/Trip;" (.ref p1)) (f1 : Fld Z h0 p0 "com/example/passenger_flow_sim/passengerflowsim/simulation/Vehicle" "loads" "[I" (.ref p2)) (f2 : Exa Z h0 p2 "[I") (f3 : Arv Z h0 p2 c0 .int (1 : Int32) [(.int (2 : Int32))] (.int 0)) :
    Met Z a0 [] False n0 l (⟨"com/example/passenger_flow_sim/passengerflowsim/simulation/Vehicle", "loads", "()Lcom/example/passenger_flow_sim/passengerflowsim/simulation/TripLoads;"⟩ : MethodName) prog_32_method_14_code 1 (Option.some (FieldType.object "com/example/passenger_flow_sim/passengerflowsim/simulation/TripLoads")) ({ frames := 2, cells := 2, slots := 3, locals := 27 } : Room) #[(.ref p0)] h0 [] (fun v h so => (∃ a2 a15 : Addr, v = some (.ref a2) ∧ so = [] ∧ Keep h0 h [] ∧ h0.size ≤ a2 ∧ a2 < a15 ∧ Exa Z h a2 "com/example/passenger_flow_sim/passengerflowsim/simulation/TripLoads" ∧ Fld Z h a2 "com/example/passenger_flow_sim/passengerflowsim/simulation/TripLoads" "trip" "Lcom/example/passenger_flow_sim/passengerflowsim/timetable/Trip;" (.ref p1) ∧ Fld Z h a2 "com/example/passenger_flow_sim/passengerflowsim/simulation/TripLoads" "loads" "[I" (.ref a15) ∧ Arv Z h a15 c0 .int (1 : Int32) [(.int (2 : Int32))] (.int 0) ∧ Exa Z h a15 "[I")) := by
  refine Met.of (EWl V) (by first | decide +kernel | rfl) hO (L0 := #[.val (.ref p0)]) rfl ?_
  intro p e s m below meth c T H
  show Go p e below _ (T.setTop (mkF m 0 #[.val (.ref p0)] []))
  refine G.new H (wd208 V) (wd209 V) (wd210 V) D28_0 (pc' := 3) rfl (by decide) (by decide) ?_
  intro T1 h1_ a2 ga2 H1 E3 A4 D5
  have na2 := H.nle ga2
  refine G.dup H1 D28_3 (pc' := 4) rfl rfl ?_
  refine G.aloadN H1 D28_4 (pc' := 5) rfl rfl rfl ?_
  have F6 := (Fld.ext E3 f0)
  refine G.getF H1 (wd37 V) Via.refl F6 D28_5 (pc' := 8) rfl ?_
  intro T7 H8
  refine G.aloadN H8 D28_8 (pc' := 9) rfl rfl rfl ?_
  have F9 := (Fld.ext E3 f1)
  refine G.getF H8 (wd46 V) Via.refl F9 D28_9 (pc' := 12) rfl ?_
  intro T10 H11
  have F12 := (Exa.ext E3 f2)
  have F13 := (Arv.ext f3 E3)
  refine G.clone H11 (wd211 V) (wd16 V) (wd20 V) (wd18 V) (wd19 V) (wd21 V) F13 F12 (st := [(.ref p1), (.ref a2), (.ref a2)]) (W := 3) (cap := 1) rfl rfl D28_12 (pc' := 15) rfl (by decide) (by decide) (by decide) (by decide) (by decide) ?_
  intro T14 h14_ a15 ga15 H14 E16 A17 X18
  have na15 := H11.nle ga15
  refine G.castY H14 (wd212 V) (Ins.self X18) D28_15 (pc' := 18) rfl ?_
  intro T19 H20
  have F21 := (Exa.ext E16 A4)
  have F22 : Fld Z h1_ a2 "com/example/passenger_flow_sim/passengerflowsim/simulation/TripLoads" "trip" "Lcom/example/passenger_flow_sim/passengerflowsim/timetable/Trip;" .null := D5 (Or.inr (wd218 V)) (ty := (.object "com/example/passenger_flow_sim/passengerflowsim/timetable/Trip")) (by decide)
  have F23 := (Fld.ext E16 F22)
  have F24 : Fld Z h1_ a2 "com/example/passenger_flow_sim/passengerflowsim/simulation/TripLoads" "loads" "[I" .null := D5 (Or.inr (wd220 V)) (ty := (.array .int)) (by decide)
  have F25 := (Fld.ext E16 F24)
  refine G.callI H20 (m24_init V a2 p1 a15 h14_ H20.old F21 F23 na2 F25) rfl (wd213 V) (wd214 V) (wd210 V) (wd215 V) (by decide) (a := a2) (argsL := [(.ref p1), (.ref a15)]) (rest := [(.ref a2)]) (W := 1) rfl rfl (lenOf (pd_16) rfl) rfl rfl D28_18 (pc' := 21) rfl (by decide) (by decide) (by decide) (by decide) all0 ?_
  intro T26 h26_ v27 s28 H26 Q29
  obtain ⟨rfl, rfl, K30, U31, F32, F33, F34⟩ := Q29
  show Go p e below _ (T26.setTop (mkF m 21 #[.val (.ref p0)] [(.ref a2)]))
  have N35 : a15 ≠ a2 := (Ne.symm (Nat.ne_of_lt (Nat.lt_of_lt_of_le A4.lt (Nat.le_of_eq ga15.symm))))
  have F36 := (Arv.keep A17 K30 (ninS N35 nin0))
  have F37 := (Exa.keep X18 K30)
  have K38 : Keep h0 h26_ [] := (Keep.trans (Keep.ext (Keep.ext (Keep.refl h0 []) E3) E16) K30 (allS (Or.inr (Nat.le_of_eq ga2.symm)) all0))
  exact G.retA H26 (t := (.object "com/example/passenger_flow_sim/passengerflowsim/simulation/TripLoads")) rfl rfl rfl D28_21 (so := []) all0 (by decide) (by decide) ⟨a2, a15, rfl, rfl, K38, (Nat.le_of_eq ga2.symm), (Nat.lt_of_lt_of_le A4.lt (Nat.le_of_eq ga15.symm)), F32, F33, F34, F36, F37⟩
set_option maxRecDepth 65536 in
set_option maxHeartbeats 40000000 in
theorem m63_linkCount (V : Env1 Z a0 n0 uu0 uu1 uu2 uu3 uu4 uu5 uu6 uu7 uu8 uu9) (p0 : Addr) (p1 : Addr) (c0 : ClassId) (h0 : Heap) (hO : Old Z n0 h0) (f0 : Fld Z h0 p0 "com/example/passenger_flow_sim/passengerflowsim/simulation/TripLoads" "loads" "[I" (.ref p1)) (f1 : Arv Z h0 p1 c0 .int (1 : Int32) [(.int (2 : Int32))] (.int 0)) :
    Met Z a0 [] False n0 l (⟨"com/example/passenger_flow_sim/passengerflowsim/simulation/TripLoads", "linkCount", "()I"⟩ : MethodName) prog_31_method_3_code 1 (Option.some FieldType.int) ({ frames := 0, cells := 0, slots := 0, locals := 0 } : Room) #[(.ref p0)] h0 [] (fun v h so => (v = some (.int (1 : Int32)) ∧ so = [] ∧ h0 = h)) := by
  refine Met.of (EWl V) (by first | decide +kernel | rfl) hO (L0 := #[.val (.ref p0)]) rfl ?_
  intro p e s m below meth c T H
  show Go p e below _ (T.setTop (mkF m 0 #[.val (.ref p0)] []))
  refine G.aloadN H D23_0 (pc' := 1) rfl rfl rfl ?_
  refine G.getF H (wd219 V) Via.refl f0 D23_1 (pc' := 4) rfl ?_
  intro T1 H2
  refine G.arrlen H2 f1 D23_4 (pc' := 5) rfl ?_
  exact G.retI H2 rfl D23_5 (so := []) all0 (by decide) (by decide) ⟨rfl, rfl, rfl⟩
set_option maxRecDepth 65536 in
set_option maxHeartbeats 40000000 in
theorem m64_load (V : Env1 Z a0 n0 uu0 uu1 uu2 uu3 uu4 uu5 uu6 uu7 uu8 uu9) (p0 : Addr) (h0 : Heap) (hO : Old Z n0 h0) (f0 : Fld Z h0 p0 "com/example/passenger_flow_sim/passengerflowsim/simulation/Vehicle" "load" "I" (.int (2 : Int32))) :
    Met Z a0 [] False n0 l (⟨"com/example/passenger_flow_sim/passengerflowsim/simulation/Vehicle", "load", "()I"⟩ : MethodName) prog_32_method_4_code 1 (Option.some FieldType.int) ({ frames := 0, cells := 0, slots := 0, locals := 0 } : Room) #[(.ref p0)] h0 [] (fun v h so => (v = some (.int (2 : Int32)) ∧ so = [] ∧ h0 = h)) := by
  refine Met.of (EWl V) (by first | decide +kernel | rfl) hO (L0 := #[.val (.ref p0)]) rfl ?_
  intro p e s m below meth c T H
  show Go p e below _ (T.setTop (mkF m 0 #[.val (.ref p0)] []))
  refine G.aloadN H D32_0 (pc' := 1) rfl rfl rfl ?_
  refine G.getF H (wd180 V) Via.refl f0 D32_1 (pc' := 4) rfl ?_
  intro T1 H2
  exact G.retI H2 rfl D32_4 (so := []) all0 (by decide) (by decide) ⟨rfl, rfl, rfl⟩
set_option maxRecDepth 65536 in
set_option maxHeartbeats 40000000 in
theorem m65_load (V : Env1 Z a0 n0 uu0 uu1 uu2 uu3 uu4 uu5 uu6 uu7 uu8 uu9) (p0 : Addr) (p1 : Addr) (c0 : ClassId) (h0 : Heap) (hO : Old Z n0 h0) (f0 : Fld Z h0 p0 "com/example/passenger_flow_sim/passengerflowsim/simulation/TripLoads" "loads" "[I" (.ref p1)) (f1 : Arv Z h0 p1 c0 .int (1 : Int32) [(.int (2 : Int32))] (.int 0)) :
    Met Z a0 [] False n0 l (⟨"com/example/passenger_flow_sim/passengerflowsim/simulation/TripLoads", "load", "(I)I"⟩ : MethodName) prog_31_method_4_code 2 (Option.some FieldType.int) ({ frames := 0, cells := 0, slots := 0, locals := 0 } : Room) #[(.ref p0), (.int (0 : Int32))] h0 [] (fun v h so => (v = some (.int (2 : Int32)) ∧ so = [] ∧ h0 = h)) := by
  refine Met.of (EWl V) (by first | decide +kernel | rfl) hO (L0 := #[.val (.ref p0), .val (.int (0 : Int32))]) rfl ?_
  intro p e s m below meth c T H
  show Go p e below _ (T.setTop (mkF m 0 #[.val (.ref p0), .val (.int (0 : Int32))] []))
  refine G.aloadN H D24_0 (pc' := 1) rfl rfl rfl ?_
  refine G.getF H (wd219 V) Via.refl f0 D24_1 (pc' := 4) rfl ?_
  intro T1 H2
  refine G.iloadN H2 D24_4 (pc' := 5) rfl rfl ?_
  refine G.ialoadG H2 f1 (j := (0 : Int32)) (v := (.int (2 : Int32))) (by decide) rfl D24_5 (pc' := 6) rfl ?_
  exact G.retI H2 rfl D24_6 (so := []) all0 (by decide) (by decide) ⟨rfl, rfl, rfl⟩
set_option maxRecDepth 65536 in
set_option maxHeartbeats 40000000 in
theorem m66_add (V : Env1 Z a0 n0 uu0 uu1 uu2 uu3 uu4 uu5 uu6 uu7 uu8 uu9) (p0 : Addr) (p1 : Addr) (c0 : ClassId) (h0 : Heap) (hO : Old Z n0 h0) (f0 : Arv Z h0 p1 c0 (.object "java/lang/Object") (10 : Int32) [.null, .null, .null, .null, .null, .null, .null, .null, .null, .null] .null) (g1 : n0 ≤ p1) (f2 : Exa Z h0 p0 "java/util/ArrayList") (f3 : Fld Z h0 p0 "java/util/ArrayList" "size" "I" (.int (2 : Int32))) (g4 : n0 ≤ p0) :
    Met Z a0 [] False n0 l (⟨"java/util/ArrayList", "add", "(Ljava/lang/Object;[Ljava/lang/Object;I)V"⟩ : MethodName) jdk_38_method_24_code 4 (Option.none : Option FieldType) ({ frames := 0, cells := 0, slots := 0, locals := 0 } : Room) #[(.ref p0), .null, (.ref p1), (.int (2 : Int32))] h0 [] (fun v h so => (v = none ∧ so = [] ∧ Keep h0 h [p1, p0] ∧ (∀ (O n d : String) (w : Value), Fld Z h0 p0 O n d w → RoadKit.slotOf Z O n d ≠ RoadKit.slotOf Z "java/util/ArrayList" "size" "I" → Fld Z h p0 O n d w) ∧ Arv Z h p1 c0 (.object "java/lang/Object") (10 : Int32) [.null, .null, .null, .null, .null, .null, .null, .null, .null, .null] .null ∧ Exa Z h p0 "java/util/ArrayList" ∧ Fld Z h p0 "java/util/ArrayList" "size" "I" (.int (3 : Int32)))) := by
  refine Met.of (EWl V) (by first | decide +kernel | rfl) hO (L0 := #[.val (.ref p0), .val .null, .val (.ref p1), .val (.int (2 : Int32))]) rfl ?_
  intro p e s m below meth c T H
  show Go p e below _ (T.setTop (mkF m 0 #[.val (.ref p0), .val .null, .val (.ref p1), .val (.int (2 : Int32))] []))
  refine G.iloadN H D9_0 (pc' := 1) rfl rfl ?_
  refine G.aloadN H D9_1 (pc' := 2) rfl rfl rfl ?_
  refine G.arrlen H f0 D9_2 (pc' := 3) rfl ?_
  refine G.icmpYes H D9_3 (by decide) (by decide) (pc' := 11) rfl ?_
  refine G.aloadN H D9_11 (pc' := 12) rfl rfl rfl ?_
  refine G.iloadN H D9_12 (pc' := 13) rfl rfl ?_
  refine G.aloadN H D9_13 (pc' := 14) rfl rfl rfl ?_
  refine G.stR H f0 rfl (Or.inl rfl) rfl (by decide) (i := 2) rfl (Nat.le_of_ble_eq_true rfl) g1 D9_14 (pc' := 15) rfl ?_
  intro T1 h1_ H1 W2 A3
  replace A3 : Arv Z h1_ p1 c0 (.object "java/lang/Object") (10 : Int32) [.null, .null, .null, .null, .null, .null, .null, .null, .null, .null] .null := A3
  refine G.aloadN H1 D9_15 (pc' := 16) rfl rfl rfl ?_
  refine G.iloadN H1 D9_16 (pc' := 17) rfl rfl ?_
  refine G.iconst H1 D9_17 (pc' := 18) rfl (v := (1 : Int32)) rfl ?_
  refine G.iadd H1 D9_18 (pc' := 19) rfl ?_
  show Go p e below _ (T1.setTop (mkF m 19 #[.val (.ref p0), .val .null, .val (.ref p1), .val (.int (2 : Int32))] [(.int (3 : Int32)), (.ref p0)]))
  have F4 := (Exa.wr W2 f2)
  have N5 : p0 ≠ p1 := Exa.neArv F4 A3 (wd49 V)
  have F6 := (Fld.other W2 f3 (Or.inl N5))
  refine G.putF H1 (wd100 V) Via.refl F6 F4 (Or.inl (wd101 V)) (wd49 V) (ty := .int) (by decide) rfl rfl g4 (Sf.exa F4) D9_19 (pc' := 22) rfl ?_
  intro T7 h7_ H7 W8
  have F9 : Fld Z h7_ p0 "java/util/ArrayList" "size" "I" (.int (3 : Int32)) := Fld.same W8 F6
  have F10 := (Arv.other A3 W8 (Ne.symm N5))
  have F11 := (Exa.wr W8 F4)
  have K12 : Keep h0 h7_ [p1, p0] := (Keep.wr (Keep.wr (Keep.refl h0 [p1, p0]) W2 (Or.inl (List.mem_of_getElem? (i := 0) rfl))) W8 (Or.inl (List.mem_of_getElem? (i := 1) rfl)))
  exact G.retV H7 rfl D9_22 (so := []) all0 (by decide) (by decide) ⟨rfl, rfl, K12, (fun O n d w F hn0 => (Fld.other W8 (Fld.other W2 F (Or.inl N5)) (Or.inr hn0))), F10, F11, F9⟩
set_option maxRecDepth 65536 in
set_option maxHeartbeats 40000000 in
theorem m67_add (V : Env1 Z a0 n0 uu0 uu1 uu2 uu3 uu4 uu5 uu6 uu7 uu8 uu9) (p0 : Addr) (p1 : Addr) (c0 : ClassId) (h0 : Heap) (hO : Old Z n0 h0) (f0 : Fld Z h0 p0 "java/util/AbstractList" "modCount" "I" (.int (2 : Int32))) (f1 : Exa Z h0 p0 "java/util/ArrayList") (g2 : n0 ≤ p0) (f3 : Fld Z h0 p0 "java/util/ArrayList" "elementData" "[Ljava/lang/Object;" (.ref p1)) (f4 : Fld Z h0 p0 "java/util/ArrayList" "size" "I" (.int (2 : Int32))) (f5 : Arv Z h0 p1 c0 (.object "java/lang/Object") (10 : Int32) [.null, .null, .null, .null, .null, .null, .null, .null, .null, .null] .null) (q6 : p1 ≠ p0) (g7 : n0 ≤ p1) :
    Met Z a0 [] False n0 l (⟨"java/util/ArrayList", "add", "(Ljava/lang/Object;)Z"⟩ : MethodName) jdk_38_method_25_code 2 (Option.some FieldType.boolean) ({ frames := 1, cells := 0, slots := 0, locals := 15 } : Room) #[(.ref p0), .null] h0 [] (fun v h so => (v = some (.int (1 : Int32)) ∧ so = [] ∧ Keep h0 h [p0, p1] ∧ (∀ (O n d : String) (w : Value), Fld Z h0 p0 O n d w → RoadKit.slotOf Z O n d ≠ RoadKit.slotOf Z "java/util/AbstractList" "modCount" "I" → RoadKit.slotOf Z O n d ≠ RoadKit.slotOf Z "java/util/ArrayList" "size" "I" → Fld Z h p0 O n d w) ∧ Fld Z h p0 "java/util/AbstractList" "modCount" "I" (.int (3 : Int32)) ∧ Exa Z h p0 "java/util/ArrayList" ∧ Fld Z h p0 "java/util/ArrayList" "elementData" "[Ljava/lang/Object;" (.ref p1) ∧ Fld Z h p0 "java/util/ArrayList" "size" "I" (.int (3 : Int32)) ∧ Arv Z h p1 c0 (.object "java/lang/Object") (10 : Int32) [.null, .null, .null, .null, .null, .null, .null, .null, .null, .null] .null)) := by
  refine Met.of (EWl V) (by first | decide +kernel | rfl) hO (L0 := #[.val (.ref p0), .val .null]) rfl ?_
  intro p e s m below meth c T H
  show Go p e below _ (T.setTop (mkF m 0 #[.val (.ref p0), .val .null] []))
  refine G.aloadN H D10_0 (pc' := 1) rfl rfl rfl ?_
  refine G.dup H D10_1 (pc' := 2) rfl rfl ?_
  refine G.getF H (wd284 V) (Via.of (wd285 V)) f0 D10_2 (pc' := 5) rfl ?_
  intro T1 H2
  refine G.iconst H2 D10_5 (pc' := 6) rfl (v := (1 : Int32)) rfl ?_
  refine G.iadd H2 D10_6 (pc' := 7) rfl ?_
  show Go p e below _ (T1.setTop (mkF m 7 #[.val (.ref p0), .val .null] [(.int (3 : Int32)), (.ref p0)]))
  refine G.putF H2 (wd284 V) (Via.of (wd285 V)) f0 f1 (Or.inl (wd88 V)) (wd49 V) (ty := .int) (by decide) rfl rfl g2 (Sf.exa f1) D10_7 (pc' := 10) rfl ?_
  intro T3 h3_ H3 W4
  have F5 : Fld Z h3_ p0 "java/util/AbstractList" "modCount" "I" (.int (3 : Int32)) := Fld.same W4 f0
  refine G.aloadN H3 D10_10 (pc' := 11) rfl rfl rfl ?_
  refine G.aloadN H3 D10_11 (pc' := 12) rfl rfl rfl ?_
  refine G.aloadN H3 D10_12 (pc' := 13) rfl rfl rfl ?_
  have F6 := (Fld.other W4 f3 (Or.inr (slot_ne (Or.inl (wd129 V)) (Or.inl (wd88 V)) (by decide) (t := (.array (.object "java/lang/Object"))) (t' := .int) (by decide) (by decide))))
  refine G.getF H3 (wd128 V) Via.refl F6 D10_13 (pc' := 16) rfl ?_
  intro T7 H8
  refine G.aloadN H8 D10_16 (pc' := 17) rfl rfl rfl ?_
  have F9 := (Fld.other W4 f4 (Or.inr (slot_ne (Or.inl (wd101 V)) (Or.inl (wd88 V)) (by decide) (t := .int) (t' := .int) (by decide) (by decide))))
  refine G.getF H8 (wd100 V) Via.refl F9 D10_17 (pc' := 20) rfl ?_
  intro T10 H11
  have F12 := (Exa.wr W4 f1)
  have F13 := (Arv.other f5 W4 q6)
  refine G.callP H11 (m66_add V p0 p1 c0 h3_ H11.old F13 g7 F12 F9 g2) (wd286 V) (wd287 V) (wd289 V) (wd288 V) (wd50 V) (wd290 V) (by decide) F12 (argsL := [.null, (.ref p1), (.int (2 : Int32))]) (rest := []) (W := 0) rfl rfl (lenOf (pd_22) rfl) rfl rfl D10_20 (pc' := 23) rfl (by decide) (by decide) (by decide) (by decide) all0 ?_
  intro T14 h14_ v15 s16 H14 Q17
  obtain ⟨rfl, rfl, K18, U19, F20, F21, F22⟩ := Q17
  show Go p e below _ (T14.setTop (mkF m 23 #[.val (.ref p0), .val .null] []))
  refine G.iconst H14 D10_23 (pc' := 24) rfl (v := (1 : Int32)) rfl ?_
  have F23 := (U19 "java/util/AbstractList" "modCount" "I" (.int (3 : Int32)) F5 (slot_ne (Or.inl (wd88 V)) (Or.inl (wd101 V)) (by decide) (t := .int) (t' := .int) (by decide) (by decide)))
  have F24 := (U19 "java/util/ArrayList" "elementData" "[Ljava/lang/Object;" (.ref p1) F6 (slot_ne (Or.inl (wd129 V)) (Or.inl (wd101 V)) (by decide) (t := (.array (.object "java/lang/Object"))) (t' := .int) (by decide) (by decide)))
  have K25 : Keep h0 h14_ [p0, p1] := (Keep.trans (Keep.wr (Keep.refl h0 [p0, p1]) W4 (Or.inl (List.mem_of_getElem? (i := 0) rfl))) K18 (allS (Or.inl (List.mem_of_getElem? (i := 1) rfl)) (allS (Or.inl (List.mem_of_getElem? (i := 0) rfl)) all0)))
  exact G.retN H14 (t := .boolean) rfl (by decide) D10_24 (so := []) all0 (by decide) (by decide) ⟨rfl, rfl, K25, (fun O n d w F hn0 hn1 => (U19 O n d w (Fld.other W4 F (Or.inr hn0)) hn1)), F23, F21, F24, F22, F20⟩
set_option maxRecDepth 65536 in
set_option maxHeartbeats 40000000 in
theorem m68_add (V : Env1 Z a0 n0 uu0 uu1 uu2 uu3 uu4 uu5 uu6 uu7 uu8 uu9) (p0 : Addr) (p1 : Addr) (c0 : ClassId) (p2 : Addr) (p3 : Addr) (c1 : ClassId) (h0 : Heap) (hO : Old Z n0 h0) (f0 : Exa Z h0 p0 "java/util/ArrayList") (f1 : Fld Z h0 p0 "java/util/ArrayList" "size" "I" (.int (2 : Int32))) (f2 : Fld Z h0 p0 "java/util/ArrayList" "elementData" "[Ljava/lang/Object;" (.ref p1)) (f3 : Arv Z h0 p1 c0 (.object "java/lang/Object") (2 : Int32) [.null, (.ref p2)] .null) (f4 : Exa Z h0 p2 "java/util/ArrayList") (f5 : Fld Z h0 p2 "java/util/AbstractList" "modCount" "I" (.int (2 : Int32))) (g6 : n0 ≤ p2) (f7 : Fld Z h0 p2 "java/util/ArrayList" "elementData" "[Ljava/lang/Object;" (.ref p3)) (f8 : Fld Z h0 p2 "java/util/ArrayList" "size" "I" (.int (2 : Int32))) (f9 : Arv Z h0 p3 c1 (.object "java/lang/Object") (10 : Int32) [.null, .null, .null, .null, .null, .null, .null, .null, .null, .null] .null) (g10 : n0 ≤ p3) :
    Met Z a0 [] False n0 l (⟨"com/example/passenger_flow_sim/passengerflowsim/simulation/Vehicle", "add", "(Ljava/util/List;ILcom/example/passenger_flow_sim/passengerflowsim/simulation/Traveller;)V"⟩ : MethodName) prog_32_method_15_code 3 (Option.none : Option FieldType) ({ frames := 3, cells := 0, slots := 0, locals := 40 } : Room) #[(.ref p0), (.int (1 : Int32)), .null] h0 [] (fun v h so => (v = none ∧ so = [] ∧ Keep h0 h [p2, p3] ∧ (∀ (O n d : String) (w : Value), Fld Z h0 p2 O n d w → RoadKit.slotOf Z O n d ≠ RoadKit.slotOf Z "java/util/AbstractList" "modCount" "I" → RoadKit.slotOf Z O n d ≠ RoadKit.slotOf Z "java/util/ArrayList" "size" "I" → Fld Z h p2 O n d w) ∧ Exa Z h p2 "java/util/ArrayList" ∧ Fld Z h p2 "java/util/AbstractList" "modCount" "I" (.int (3 : Int32)) ∧ Fld Z h p2 "java/util/ArrayList" "elementData" "[Ljava/lang/Object;" (.ref p3) ∧ Fld Z h p2 "java/util/ArrayList" "size" "I" (.int (3 : Int32)) ∧ Arv Z h p3 c1 (.object "java/lang/Object") (10 : Int32) [.null, .null, .null, .null, .null, .null, .null, .null, .null, .null] .null)) := by
  refine Met.of (EWl V) (by first | decide +kernel | rfl) hO (L0 := #[.val (.ref p0), .val (.int (1 : Int32)), .val .null]) rfl ?_
  intro p e s m below meth c T H
  show Go p e below _ (T.setTop (mkF m 0 #[.val (.ref p0), .val (.int (1 : Int32)), .val .null] []))
  refine G.aloadN H D29_0 (pc' := 1) rfl rfl rfl ?_
  refine G.iloadN H D29_1 (pc' := 2) rfl rfl ?_
  refine G.callF H (m42_get V p0 p1 c0 p2 h0 H.old f1 f0 f2 f3) (wd144 V) (wd145 V) (fun s2 aa hZ => Jvm.Free.ULB.iface_rides (U := s2) hZ.alike (wd146 V)) (wd147 V) (wd148 V) (wd149 V) (wd150 V) (wd151 V) (wd50 V) (wd152 V) (by decide) f0 (argsL := [(.int (1 : Int32))]) (rest := []) (W := 0) rfl rfl (lenOf (pd_11) rfl) rfl rfl D29_2 (pc' := 7) rfl (by decide) (by decide) (by decide) (by decide) all0 ?_
  intro T1 h1_ v2 s3 H1 Q4
  obtain ⟨rfl, rfl, rfl⟩ := Q4
  show Go p e below _ (T1.setTop (mkF m 7 #[.val (.ref p0), .val (.int (1 : Int32)), .val .null] [(.ref p2)]))
  refine G.ifnonnullYes H1 D29_7 (by decide) (pc' := 25) rfl ?_
  refine G.aloadN H1 D29_25 (pc' := 26) rfl rfl rfl ?_
  refine G.iloadN H1 D29_26 (pc' := 27) rfl rfl ?_
  refine G.callF H1 (m42_get V p0 p1 c0 p2 h0 H1.old f1 f0 f2 f3) (wd144 V) (wd145 V) (fun s2 aa hZ => Jvm.Free.ULB.iface_rides (U := s2) hZ.alike (wd146 V)) (wd147 V) (wd148 V) (wd149 V) (wd150 V) (wd151 V) (wd50 V) (wd152 V) (by decide) f0 (argsL := [(.int (1 : Int32))]) (rest := []) (W := 0) rfl rfl (lenOf (pd_11) rfl) rfl rfl D29_27 (pc' := 32) rfl (by decide) (by decide) (by decide) (by decide) all0 ?_
  intro T5 h5_ v6 s7 H5 Q8
  obtain ⟨rfl, rfl, rfl⟩ := Q8
  show Go p e below _ (T5.setTop (mkF m 32 #[.val (.ref p0), .val (.int (1 : Int32)), .val .null] [(.ref p2)]))
  refine G.castY H5 (wd275 V) (Ins.of_exa f4 (wd151 V)) D29_32 (pc' := 35) rfl ?_
  intro T9 H10
  refine G.aloadN H10 D29_35 (pc' := 36) rfl rfl rfl ?_
  have N11 : p3 ≠ p2 := Ne.symm (Exa.neArv f4 f9 (wd49 V))
  refine G.callF H10 (m67_add V p2 p3 c1 h0 H10.old f5 f4 g6 f7 f8 f9 N11 g10) (wd276 V) (wd277 V) (fun s2 aa hZ => Jvm.Free.ULB.iface_rides (U := s2) hZ.alike (wd278 V)) (wd279 V) (wd280 V) (wd281 V) (wd282 V) (wd151 V) (wd50 V) (wd283 V) (by decide) f4 (argsL := [.null]) (rest := []) (W := 0) rfl rfl (lenOf (pd_23) rfl) rfl rfl D29_36 (pc' := 41) rfl (by decide) (by decide) (by decide) (by decide) all0 ?_
  intro T12 h12_ v13 s14 H12 Q15
  obtain ⟨rfl, rfl, K16, U17, F18, F19, F20, F21, F22⟩ := Q15
  show Go p e below _ (T12.setTop (mkF m 41 #[.val (.ref p0), .val (.int (1 : Int32)), .val .null] [(.int (1 : Int32))]))
  refine G.pop H12 D29_41 (pc' := 42) rfl rfl ?_
  have K23 : Keep h0 h12_ [p2, p3] := (Keep.trans (Keep.refl h0 [p2, p3]) K16 (allS (Or.inl (List.mem_of_getElem? (i := 0) rfl)) (allS (Or.inl (List.mem_of_getElem? (i := 1) rfl)) all0)))
  exact G.retV H12 rfl D29_42 (so := []) all0 (by decide) (by decide) ⟨rfl, rfl, K23, (fun O n d w F hn0 hn1 => (U17 O n d w F hn0 hn1)), F19, F18, F20, F21, F22⟩
set_option maxRecDepth 65536 in
set_option maxHeartbeats 40000000 in
theorem m69_board (V : Env1 Z a0 n0 uu0 uu1 uu2 uu3 uu4 uu5 uu6 uu7 uu8 uu9) (p0 : Addr) (p1 : Addr) (p2 : Addr) (c0 : ClassId) (p3 : Addr) (p4 : Addr) (c1 : ClassId) (h0 : Heap) (hO : Old Z n0 h0) (f0 : Fld Z h0 p0 "com/example/passenger_flow_sim/passengerflowsim/simulation/Vehicle" "load" "I" (.int (2 : Int32))) (f1 : Exa Z h0 p0 "com/example/passenger_flow_sim/passengerflowsim/simulation/Vehicle") (g2 : n0 ≤ p0) (f3 : Fld Z h0 p0 "com/example/passenger_flow_sim/passengerflowsim/simulation/Vehicle" "alighting" "Ljava/util/List;" (.ref p1)) (f4 : Exa Z h0 p1 "java/util/ArrayList") (f5 : Fld Z h0 p1 "java/util/ArrayList" "size" "I" (.int (2 : Int32))) (f6 : Fld Z h0 p1 "java/util/ArrayList" "elementData" "[Ljava/lang/Object;" (.ref p2)) (f7 : Arv Z h0 p2 c0 (.object "java/lang/Object") (2 : Int32) [.null, (.ref p3)] .null) (q8 : p2 ≠ p0) (f9 : Exa Z h0 p3 "java/util/ArrayList") (f10 : Fld Z h0 p3 "java/util/AbstractList" "modCount" "I" (.int (2 : Int32))) (g11 : n0 ≤ p3) (f12 : Fld Z h0 p3 "java/util/ArrayList" "elementData" "[Ljava/lang/Object;" (.ref p4)) (f13 : Fld Z h0 p3 "java/util/ArrayList" "size" "I" (.int (2 : Int32))) (f14 : Arv Z h0 p4 c1 (.object "java/lang/Object") (10 : Int32) [.null, .null, .null, .null, .null, .null, .null, .null, .null, .null] .null) (q15 : p4 ≠ p0) (g16 : n0 ≤ p4) :
    Met Z a0 [] False n0 l (⟨"com/example/passenger_flow_sim/passengerflowsim/simulation/Vehicle", "board", "(Lcom/example/passenger_flow_sim/passengerflowsim/simulation/Traveller;I)V"⟩ : MethodName) prog_32_method_12_code 3 (Option.none : Option FieldType) ({ frames := 4, cells := 0, slots := 0, locals := 54 } : Room) #[(.ref p0), .null, (.int (1 : Int32))] h0 [] (fun v h so => (v = none ∧ so = [] ∧ Keep h0 h [p0, p3, p4] ∧ (∀ (O n d : String) (w : Value), Fld Z h0 p0 O n d w → RoadKit.slotOf Z O n d ≠ RoadKit.slotOf Z "com/example/passenger_flow_sim/passengerflowsim/simulation/Vehicle" "load" "I" → Fld Z h p0 O n d w) ∧ (∀ (O n d : String) (w : Value), Fld Z h0 p3 O n d w → RoadKit.slotOf Z O n d ≠ RoadKit.slotOf Z "java/util/AbstractList" "modCount" "I" → RoadKit.slotOf Z O n d ≠ RoadKit.slotOf Z "java/util/ArrayList" "size" "I" → Fld Z h p3 O n d w) ∧ Fld Z h p0 "com/example/passenger_flow_sim/passengerflowsim/simulation/Vehicle" "load" "I" (.int (3 : Int32)) ∧ Exa Z h p0 "com/example/passenger_flow_sim/passengerflowsim/simulation/Vehicle" ∧ Fld Z h p0 "com/example/passenger_flow_sim/passengerflowsim/simulation/Vehicle" "alighting" "Ljava/util/List;" (.ref p1) ∧ Exa Z h p3 "java/util/ArrayList" ∧ Fld Z h p3 "java/util/AbstractList" "modCount" "I" (.int (3 : Int32)) ∧ Fld Z h p3 "java/util/ArrayList" "elementData" "[Ljava/lang/Object;" (.ref p4) ∧ Fld Z h p3 "java/util/ArrayList" "size" "I" (.int (3 : Int32)) ∧ Arv Z h p4 c1 (.object "java/lang/Object") (10 : Int32) [.null, .null, .null, .null, .null, .null, .null, .null, .null, .null] .null)) := by
  refine Met.of (EWl V) (by first | decide +kernel | rfl) hO (L0 := #[.val (.ref p0), .val .null, .val (.int (1 : Int32))]) rfl ?_
  intro p e s m below meth c T H
  show Go p e below _ (T.setTop (mkF m 0 #[.val (.ref p0), .val .null, .val (.int (1 : Int32))] []))
  refine G.aloadN H D26_0 (pc' := 1) rfl rfl rfl ?_
  refine G.dup H D26_1 (pc' := 2) rfl rfl ?_
  refine G.getF H (wd180 V) Via.refl f0 D26_2 (pc' := 5) rfl ?_
  intro T1 H2
  refine G.iconst H2 D26_5 (pc' := 6) rfl (v := (1 : Int32)) rfl ?_
  refine G.iadd H2 D26_6 (pc' := 7) rfl ?_
  show Go p e below _ (T1.setTop (mkF m 7 #[.val (.ref p0), .val .null, .val (.int (1 : Int32))] [(.int (3 : Int32)), (.ref p0)]))
  refine G.putF H2 (wd180 V) Via.refl f0 f1 (Or.inl (wd181 V)) (wd31 V) (ty := .int) (by decide) rfl rfl g2 (Sf.exa f1) D26_7 (pc' := 10) rfl ?_
  intro T3 h3_ H3 W4
  have F5 : Fld Z h3_ p0 "com/example/passenger_flow_sim/passengerflowsim/simulation/Vehicle" "load" "I" (.int (3 : Int32)) := Fld.same W4 f0
  refine G.aloadN H3 D26_10 (pc' := 11) rfl rfl rfl ?_
  have F6 := (Fld.other W4 f3 (Or.inr (slot_ne (Or.inr (wd133 V)) (Or.inl (wd181 V)) (by decide) (t := (.object "java/util/List")) (t' := .int) (by decide) (by decide))))
  refine G.getF H3 (wd132 V) Via.refl F6 D26_11 (pc' := 14) rfl ?_
  intro T7 H8
  refine G.iloadN H8 D26_14 (pc' := 15) rfl rfl ?_
  refine G.aloadN H8 D26_15 (pc' := 16) rfl rfl rfl ?_
  have F9 := (Exa.wr W4 f4)
  have F10 := (Exa.wr W4 f1)
  have N11 : p1 ≠ p0 := Exa.ne F9 F10 (by decide)
  have F12 := (Fld.other W4 f5 (Or.inl N11))
  have F13 := (Fld.other W4 f6 (Or.inl N11))
  have F14 := (Arv.other f7 W4 q8)
  have F15 := (Exa.wr W4 f9)
  have N16 : p3 ≠ p0 := Exa.ne F15 F10 (by decide)
  have F17 := (Fld.other W4 f10 (Or.inl N16))
  have F18 := (Fld.other W4 f12 (Or.inl N16))
  have F19 := (Fld.other W4 f13 (Or.inl N16))
  have F20 := (Arv.other f14 W4 q15)
  refine G.callS H8 (m68_add V p1 p2 c0 p3 p4 c1 h3_ H8.old F9 F12 F13 F14 F15 F17 g11 F18 F19 F20 g16) (wd267 V) (wd268 V) (wd32 V) (wd269 V) (by decide) (argsL := [(.ref p1), (.int (1 : Int32)), .null]) (rest := []) (W := 0) rfl rfl (lenOf (pd_24) rfl) rfl rfl D26_16 (pc' := 19) rfl (by decide) (by decide) (by decide) (by decide) all0 ?_
  intro T21 h21_ v22 s23 H21 Q24
  obtain ⟨rfl, rfl, K25, U26, F27, F28, F29, F30, F31⟩ := Q24
  show Go p e below _ (T21.setTop (mkF m 19 #[.val (.ref p0), .val .null, .val (.int (1 : Int32))] []))
  have F32 := (Fld.keep F5 K25 (ninS (Ne.symm N16) (ninS (Ne.symm q15) nin0)))
  have F33 := (Exa.keep F10 K25)
  have F34 := (Fld.keep F6 K25 (ninS (Ne.symm N16) (ninS (Ne.symm q15) nin0)))
  have K35 : Keep h0 h21_ [p0, p3, p4] := (Keep.trans (Keep.wr (Keep.refl h0 [p0, p3, p4]) W4 (Or.inl (List.mem_of_getElem? (i := 0) rfl))) K25 (allS (Or.inl (List.mem_of_getElem? (i := 1) rfl)) (allS (Or.inl (List.mem_of_getElem? (i := 2) rfl)) all0)))
  exact G.retV H21 rfl D26_19 (so := []) all0 (by decide) (by decide) ⟨rfl, rfl, K35, (fun O n d w F hn0 => (Fld.keep (Fld.other W4 F (Or.inr hn0)) K25 (ninS (Ne.symm N16) (ninS (Ne.symm q15) nin0)))), (fun O n d w F hn0 hn1 => (U26 O n d w (Fld.other W4 F (Or.inl N16)) hn0 hn1)), F32, F33, F34, F27, F28, F29, F30, F31⟩
set_option maxRecDepth 65536 in
set_option maxHeartbeats 40000000 in
theorem m70_boardSome (V : Env1 Z a0 n0 uu0 uu1 uu2 uu3 uu4 uu5 uu6 uu7 uu8 uu9) (p0 : Addr) (p1 : Addr) (p2 : Addr) (c0 : ClassId) (h0 : Heap) (hO : Old Z n0 h0) (f0 : Exa Z h0 p0 "com/example/passenger_flow_sim/passengerflowsim/simulation/Vehicle") (f1 : Fld Z h0 p0 "com/example/passenger_flow_sim/passengerflowsim/simulation/Vehicle" "load" "I" (.int (0 : Int32))) (g2 : n0 ≤ p0) (f3 : Fld Z h0 p0 "com/example/passenger_flow_sim/passengerflowsim/simulation/Vehicle" "alighting" "Ljava/util/List;" (.ref p1)) (f4 : Exa Z h0 p1 "java/util/ArrayList") (f5 : Fld Z h0 p1 "java/util/ArrayList" "size" "I" (.int (2 : Int32))) (f6 : Fld Z h0 p1 "java/util/ArrayList" "elementData" "[Ljava/lang/Object;" (.ref p2)) (f7 : Arv Z h0 p2 c0 (.object "java/lang/Object") (2 : Int32) [.null, .null] .null) (g8 : n0 ≤ p2) (o9 : Ovr Z c0 "java/lang/Object") :
    Met Z a0 [] False n0 l (⟨"com/example/passenger_flow_sim/passengerflowsim/simulation/VehicleLeavePinLaw", "boardSome", "(Lcom/example/passenger_flow_sim/passengerflowsim/simulation/Vehicle;I)V"⟩ : MethodName) method_3_code 2 (Option.none : Option FieldType) ({ frames := 7, cells := 2, slots := 13, locals := 97 } : Room) #[(.ref p0), (.int (3 : Int32))] h0 [] (fun v h so => (∃ a6 a7 : Addr, ∃ k8 : ClassId, v = none ∧ so = [] ∧ Keep h0 h [p0, p2] ∧ h0.size ≤ a6 ∧ a6 < a7 ∧ (∀ (O n d : String) (w : Value), Fld Z h0 p0 O n d w → RoadKit.slotOf Z O n d ≠ RoadKit.slotOf Z "com/example/passenger_flow_sim/passengerflowsim/simulation/Vehicle" "load" "I" → Fld Z h p0 O n d w) ∧ Ovr Z k8 "java/lang/Object" ∧ Exa Z h p0 "com/example/passenger_flow_sim/passengerflowsim/simulation/Vehicle" ∧ Fld Z h p0 "com/example/passenger_flow_sim/passengerflowsim/simulation/Vehicle" "load" "I" (.int (3 : Int32)) ∧ Fld Z h p0 "com/example/passenger_flow_sim/passengerflowsim/simulation/Vehicle" "alighting" "Ljava/util/List;" (.ref p1) ∧ Arv Z h p2 c0 (.object "java/lang/Object") (2 : Int32) [.null, (.ref a6)] .null ∧ Exa Z h a6 "java/util/ArrayList" ∧ Fld Z h a6 "java/util/AbstractList" "modCount" "I" (.int (3 : Int32)) ∧ Fld Z h a6 "java/util/ArrayList" "elementData" "[Ljava/lang/Object;" (.ref a7) ∧ Fld Z h a6 "java/util/ArrayList" "size" "I" (.int (3 : Int32)) ∧ Arv Z h a7 k8 (.object "java/lang/Object") (10 : Int32) [.null, .null, .null, .null, .null, .null, .null, .null, .null, .null] .null ∧ Exa Z h a7 "[Ljava/lang/Object;")) := by
  refine Met.of (EWl V) (by first | decide +kernel | rfl) hO (L0 := #[.val (.ref p0), .val (.int (3 : Int32))]) rfl ?_
  intro p e s m below meth c T H
  show Go p e below _ (T.setTop (mkF m 0 #[.val (.ref p0), .val (.int (3 : Int32))] []))
  refine G.iloadN H D21_0 (pc' := 1) rfl rfl ?_
  refine G.iconst H D21_1 (pc' := 2) rfl (v := (1 : Int32)) rfl ?_
  refine G.icmpNo H D21_2 (pc' := 5) rfl (by decide) ?_
  refine G.aloadN H D21_5 (pc' := 6) rfl rfl rfl ?_
  refine G.aconstNull H D21_6 (pc' := 7) rfl ?_
  refine G.iconst H D21_7 (pc' := 8) rfl (v := (1 : Int32)) rfl ?_
  have N1 : p2 ≠ p0 := Ne.symm (Exa.neArv f0 f7 (wd31 V))
  refine G.callV H (m49_board V p0 p1 p2 c0 h0 H.old f1 f0 g2 f3 f4 f5 f6 f7 N1 g8 o9) (wd262 V) (wd263 V) (nf_sel (wd265 V)) (wd265 V) (wd264 V) (wd32 V) (wd266 V) (by decide) f0 (argsL := [.null, (.int (1 : Int32))]) (rest := []) (W := 0) rfl rfl (lenOf (pd_25) rfl) rfl rfl D21_8 (pc' := 11) rfl (by decide) (by decide) (by decide) (by decide) all0 ?_
  intro T2 h2_ v3 s4 H2 Q5
  obtain ⟨a6, a7, k8, rfl, rfl, K9, g10, g11, U12, O13, F14, F15, F16, F17, F18, F19, F20, F21, F22, F23⟩ := Q5
  have na6 : n0 ≤ a6 := Nat.le_trans H.le g10
  have na7 : n0 ≤ a7 := Nat.le_trans H.le (Nat.le_of_lt (Nat.lt_of_le_of_lt g10 g11))
  show Go p e below _ (T2.setTop (mkF m 11 #[.val (.ref p0), .val (.int (3 : Int32))] []))
  refine G.iloadN H2 D21_11 (pc' := 12) rfl rfl ?_
  refine G.iconst H2 D21_12 (pc' := 13) rfl (v := (2 : Int32)) rfl ?_
  refine G.icmpNo H2 D21_13 (pc' := 16) rfl (by decide) ?_
  refine G.aloadN H2 D21_16 (pc' := 17) rfl rfl rfl ?_
  refine G.aconstNull H2 D21_17 (pc' := 18) rfl ?_
  refine G.iconst H2 D21_18 (pc' := 19) rfl (v := (1 : Int32)) rfl ?_
  have F24 := (Exa.keep f4 K9)
  have N25 : p1 ≠ p2 := Exa.neArv F24 F17 (wd49 V)
  have N26 : p1 ≠ p0 := Exa.ne F24 F15 (by decide)
  have F27 := (Fld.keep f5 K9 (ninS N26 (ninS N25 nin0)))
  have F28 := (Fld.keep f6 K9 (ninS N26 (ninS N25 nin0)))
  have N29 : a7 ≠ p0 := Ne.symm (Exa.neArv F15 F22 (wd31 V))
  refine G.callV H2 (m59_board V p0 p1 p2 c0 a6 a7 k8 h2_ H2.old F14 F15 g2 F16 F24 F27 F28 F17 N1 F18 F19 na6 F20 F21 F22 N29 na7) (wd262 V) (wd263 V) (nf_sel (wd265 V)) (wd265 V) (wd264 V) (wd32 V) (wd266 V) (by decide) F15 (argsL := [.null, (.int (1 : Int32))]) (rest := []) (W := 0) rfl rfl (lenOf (pd_25) rfl) rfl rfl D21_19 (pc' := 22) rfl (by decide) (by decide) (by decide) (by decide) all0 ?_
  intro T30 h30_ v31 s32 H30 Q33
  obtain ⟨rfl, rfl, K34, U35, U36, F37, F38, F39, F40, F41, F42, F43, F44⟩ := Q33
  show Go p e below _ (T30.setTop (mkF m 22 #[.val (.ref p0), .val (.int (3 : Int32))] []))
  refine G.iloadN H30 D21_22 (pc' := 23) rfl rfl ?_
  refine G.iconst H30 D21_23 (pc' := 24) rfl (v := (3 : Int32)) rfl ?_
  refine G.icmpNo H30 D21_24 (pc' := 27) rfl (by decide) ?_
  refine G.aloadN H30 D21_27 (pc' := 28) rfl rfl rfl ?_
  refine G.aconstNull H30 D21_28 (pc' := 29) rfl ?_
  refine G.iconst H30 D21_29 (pc' := 30) rfl (v := (1 : Int32)) rfl ?_
  have F45 := (Exa.keep F24 K34)
  have N46 : p1 ≠ a7 := Exa.neArv F45 F44 (wd49 V)
  have N47 : p1 ≠ a6 := (Nat.ne_of_lt (Nat.lt_of_lt_of_le f4.lt g10))
  have F48 := (Fld.keep F27 K34 (ninS N26 (ninS N47 (ninS N46 nin0))))
  have F49 := (Fld.keep F28 K34 (ninS N26 (ninS N47 (ninS N46 nin0))))
  have N50 : p2 ≠ a7 := (Nat.ne_of_lt (Nat.lt_of_lt_of_le f7.lt (Nat.le_of_lt (Nat.lt_of_le_of_lt g10 g11))))
  have N51 : p2 ≠ a6 := (Nat.ne_of_lt (Nat.lt_of_lt_of_le f7.lt g10))
  have F52 := (Arv.keep F17 K34 (ninS N1 (ninS N51 (ninS N50 nin0))))
  refine G.callV H30 (m69_board V p0 p1 p2 c0 a6 a7 k8 h30_ H30.old F37 F38 g2 F39 F45 F48 F49 F52 N1 F40 F41 na6 F42 F43 F44 N29 na7) (wd262 V) (wd263 V) (nf_sel (wd265 V)) (wd265 V) (wd264 V) (wd32 V) (wd266 V) (by decide) F38 (argsL := [.null, (.int (1 : Int32))]) (rest := []) (W := 0) rfl rfl (lenOf (pd_25) rfl) rfl rfl D21_30 (pc' := 33) rfl (by decide) (by decide) (by decide) (by decide) all0 ?_
  intro T53 h53_ v54 s55 H53 Q56
  obtain ⟨rfl, rfl, K57, U58, U59, F60, F61, F62, F63, F64, F65, F66, F67⟩ := Q56
  show Go p e below _ (T53.setTop (mkF m 33 #[.val (.ref p0), .val (.int (3 : Int32))] []))
  have F68 := (Arv.keep F52 K57 (ninS N1 (ninS N51 (ninS N50 nin0))))
  have K69 : Keep h2_ h53_ [p0, a6, a7] := (Keep.trans (Keep.trans (Keep.refl h2_ [p0, a6, a7]) K34 (allS (Or.inl (List.mem_of_getElem? (i := 0) rfl)) (allS (Or.inl (List.mem_of_getElem? (i := 1) rfl)) (allS (Or.inl (List.mem_of_getElem? (i := 2) rfl)) all0)))) K57 (allS (Or.inl (List.mem_of_getElem? (i := 0) rfl)) (allS (Or.inl (List.mem_of_getElem? (i := 1) rfl)) (allS (Or.inl (List.mem_of_getElem? (i := 2) rfl)) all0))))
  have F70 := (Exa.keep F23 K69)
  have K71 : Keep h0 h53_ [p0, p2] := (Keep.trans (Keep.trans (Keep.trans (Keep.refl h0 [p0, p2]) K9 (allS (Or.inl (List.mem_of_getElem? (i := 0) rfl)) (allS (Or.inl (List.mem_of_getElem? (i := 1) rfl)) all0))) K34 (allS (Or.inl (List.mem_of_getElem? (i := 0) rfl)) (allS (Or.inr g10) (allS (Or.inr (Nat.le_of_lt (Nat.lt_of_le_of_lt g10 g11))) all0)))) K57 (allS (Or.inl (List.mem_of_getElem? (i := 0) rfl)) (allS (Or.inr g10) (allS (Or.inr (Nat.le_of_lt (Nat.lt_of_le_of_lt g10 g11))) all0))))
  exact G.retV H53 rfl D21_33 (so := []) all0 (by decide) (by decide) ⟨a6, a7, k8, rfl, rfl, K71, g10, g11, (fun O n d w F hn0 => (U58 O n d w (U35 O n d w (U12 O n d w F hn0) hn0) hn0)), O13, F61, F60, F62, F68, F63, F64, F65, F66, F67, F70⟩
set_option maxRecDepth 65536 in
set_option maxHeartbeats 40000000 in
theorem m71_leave (V : Env1 Z a0 n0 uu0 uu1 uu2 uu3 uu4 uu5 uu6 uu7 uu8 uu9) (p0 : Addr) (p1 : Addr) (c0 : ClassId) (h0 : Heap) (hO : Old Z n0 h0) (f0 : Fld Z h0 p0 "com/example/passenger_flow_sim/passengerflowsim/simulation/Vehicle" "step" "I" (.int (1 : Int32))) (f1 : Fld Z h0 p0 "com/example/passenger_flow_sim/passengerflowsim/simulation/Vehicle" "loads" "[I" (.ref p1)) (f2 : Arv Z h0 p1 c0 .int (1 : Int32) [(.int (0 : Int32))] (.int 0)) (f3 : Fld Z h0 p0 "com/example/passenger_flow_sim/passengerflowsim/simulation/Vehicle" "load" "I" (.int (3 : Int32))) (g4 : n0 ≤ p1) (q5 : p0 ≠ p1) (f6 : Exa Z h0 p0 "com/example/passenger_flow_sim/passengerflowsim/simulation/Vehicle") (g7 : n0 ≤ p0) :
    Met Z a0 [] False n0 l (⟨"com/example/passenger_flow_sim/passengerflowsim/simulation/Vehicle", "leave", "()V"⟩ : MethodName) prog_32_method_13_code 2 (Option.none : Option FieldType) ({ frames := 0, cells := 0, slots := 0, locals := 0 } : Room) #[(.ref p0)] h0 [] (fun v h so => (v = none ∧ so = [] ∧ Keep h0 h [p1, p0] ∧ (∀ (O n d : String) (w : Value), Fld Z h0 p0 O n d w → RoadKit.slotOf Z O n d ≠ RoadKit.slotOf Z "com/example/passenger_flow_sim/passengerflowsim/simulation/Vehicle" "step" "I" → Fld Z h p0 O n d w) ∧ Arv Z h p1 c0 .int (1 : Int32) [(.int (3 : Int32))] (.int 0) ∧ Fld Z h p0 "com/example/passenger_flow_sim/passengerflowsim/simulation/Vehicle" "step" "I" (.int (2 : Int32)) ∧ Fld Z h p0 "com/example/passenger_flow_sim/passengerflowsim/simulation/Vehicle" "loads" "[I" (.ref p1) ∧ Fld Z h p0 "com/example/passenger_flow_sim/passengerflowsim/simulation/Vehicle" "load" "I" (.int (3 : Int32)) ∧ Exa Z h p0 "com/example/passenger_flow_sim/passengerflowsim/simulation/Vehicle")) := by
  refine Met.of (EWl V) (by first | decide +kernel | rfl) hO (L0 := #[.val (.ref p0), .unset]) rfl ?_
  intro p e s m below meth c T H
  show Go p e below _ (T.setTop (mkF m 0 #[.val (.ref p0), .unset] []))
  refine G.aloadN H D27_0 (pc' := 1) rfl rfl rfl ?_
  refine G.getF H (wd139 V) Via.refl f0 D27_1 (pc' := 4) rfl ?_
  intro T1 H2
  refine G.iconst H2 D27_4 (pc' := 5) rfl (v := (2 : Int32)) rfl ?_
  refine G.idiv H2 D27_5 (pc' := 6) rfl (by decide) ?_
  show Go p e below _ (T1.setTop (mkF m 6 #[.val (.ref p0), .unset] [(.int (0 : Int32))]))
  refine G.istoreN H2 (L' := #[.val (.ref p0), .val (.int (0 : Int32))]) D27_6 (pc' := 7) rfl rfl ?_
  refine G.iloadN H2 D27_7 (pc' := 8) rfl rfl ?_
  refine G.aloadN H2 D27_8 (pc' := 9) rfl rfl rfl ?_
  refine G.getF H2 (wd46 V) Via.refl f1 D27_9 (pc' := 12) rfl ?_
  intro T3 H4
  refine G.arrlen H4 f2 D27_12 (pc' := 13) rfl ?_
  refine G.icmpNo H4 D27_13 (pc' := 16) rfl (by decide) ?_
  refine G.aloadN H4 D27_16 (pc' := 17) rfl rfl rfl ?_
  refine G.getF H4 (wd46 V) Via.refl f1 D27_17 (pc' := 20) rfl ?_
  intro T5 H6
  refine G.iloadN H6 D27_20 (pc' := 21) rfl rfl ?_
  refine G.aloadN H6 D27_21 (pc' := 22) rfl rfl rfl ?_
  refine G.getF H6 (wd180 V) Via.refl f3 D27_22 (pc' := 25) rfl ?_
  intro T7 H8
  refine G.stI H8 f2 (by decide) (i := 0) rfl (Nat.le_of_ble_eq_true rfl) g4 D27_25 (pc' := 26) rfl ?_
  intro T9 h9_ H9 W10 A11
  replace A11 : Arv Z h9_ p1 c0 .int (1 : Int32) [(.int (3 : Int32))] (.int 0) := A11
  refine G.aloadN H9 D27_26 (pc' := 27) rfl rfl rfl ?_
  refine G.dup H9 D27_27 (pc' := 28) rfl rfl ?_
  have F12 := (Fld.other W10 f0 (Or.inl q5))
  refine G.getF H9 (wd139 V) Via.refl F12 D27_28 (pc' := 31) rfl ?_
  intro T13 H14
  refine G.iconst H14 D27_31 (pc' := 32) rfl (v := (1 : Int32)) rfl ?_
  refine G.iadd H14 D27_32 (pc' := 33) rfl ?_
  show Go p e below _ (T13.setTop (mkF m 33 #[.val (.ref p0), .val (.int (0 : Int32))] [(.int (2 : Int32)), (.ref p0)]))
  have F15 := (Exa.wr W10 f6)
  refine G.putF H14 (wd139 V) Via.refl F12 F15 (Or.inl (wd140 V)) (wd31 V) (ty := .int) (by decide) rfl rfl g7 (Sf.exa F15) D27_33 (pc' := 36) rfl ?_
  intro T16 h16_ H16 W17
  have F18 : Fld Z h16_ p0 "com/example/passenger_flow_sim/passengerflowsim/simulation/Vehicle" "step" "I" (.int (2 : Int32)) := Fld.same W17 F12
  have F19 := (Arv.other A11 W17 (Ne.symm q5))
  have F20 := (Fld.other W17 (Fld.other W10 f1 (Or.inl q5)) (Or.inr (slot_ne (Or.inr (wd47 V)) (Or.inl (wd140 V)) (by decide) (t := (.array .int)) (t' := .int) (by decide) (by decide))))
  have F21 := (Fld.other W17 (Fld.other W10 f3 (Or.inl q5)) (Or.inr (slot_ne (Or.inl (wd181 V)) (Or.inl (wd140 V)) (by decide) (t := .int) (t' := .int) (by decide) (by decide))))
  have F22 := (Exa.wr W17 F15)
  have K23 : Keep h0 h16_ [p1, p0] := (Keep.wr (Keep.wr (Keep.refl h0 [p1, p0]) W10 (Or.inl (List.mem_of_getElem? (i := 0) rfl))) W17 (Or.inl (List.mem_of_getElem? (i := 1) rfl)))
  exact G.retV H16 rfl D27_36 (so := []) all0 (by decide) (by decide) ⟨rfl, rfl, K23, (fun O n d w F hn0 => (Fld.other W17 (Fld.other W10 F (Or.inl q5)) (Or.inr hn0))), F19, F18, F20, F21, F22⟩
set_option maxRecDepth 65536 in
set_option maxHeartbeats 40000000 in
theorem m72_loads (V : Env1 Z a0 n0 uu0 uu1 uu2 uu3 uu4 uu5 uu6 uu7 uu8 uu9) (p0 : Addr) (p1 : Addr) (p2 : Addr) (c0 : ClassId) (h0 : Heap) (hO : Old Z n0 h0) (f0 : Fld Z h0 p0 "com/example/passenger_flow_sim/passengerflowsim/simulation/Vehicle" "trip" "Lcom/example/passenger_flow_sim/passengerflowsim/timetable/Trip;" (.ref p1)) (f1 : Fld Z h0 p0 "com/example/passenger_flow_sim/passengerflowsim/simulation/Vehicle" "loads" "[I" (.ref p2)) (f2 : Exa Z h0 p2 "[I") (f3 : Arv Z h0 p2 c0 .int (1 : Int32) [(.int (3 : Int32))] (.int 0)) :
    Met Z a0 [] False n0 l (⟨"com/example/passenger_flow_sim/passengerflowsim/simulation/Vehicle", "loads", "()Lcom/example/passenger_flow_sim/passengerflowsim/simulation/TripLoads;"⟩ : MethodName) prog_32_method_14_code 1 (Option.some (FieldType.object "com/example/passenger_flow_sim/passengerflowsim/simulation/TripLoads")) ({ frames := 2, cells := 2, slots := 3, locals := 27 } : Room) #[(.ref p0)] h0 [] (fun v h so => (∃ a2 a15 : Addr, v = some (.ref a2) ∧ so = [] ∧ Keep h0 h [] ∧ h0.size ≤ a2 ∧ a2 < a15 ∧ Exa Z h a2 "com/example/passenger_flow_sim/passengerflowsim/simulation/TripLoads" ∧ Fld Z h a2 "com/example/passenger_flow_sim/passengerflowsim/simulation/TripLoads" "trip" "Lcom/example/passenger_flow_sim/passengerflowsim/timetable/Trip;" (.ref p1) ∧ Fld Z h a2 "com/example/passenger_flow_sim/passengerflowsim/simulation/TripLoads" "loads" "[I" (.ref a15) ∧ Arv Z h a15 c0 .int (1 : Int32) [(.int (3 : Int32))] (.int 0) ∧ Exa Z h a15 "[I")) := by
  refine Met.of (EWl V) (by first | decide +kernel | rfl) hO (L0 := #[.val (.ref p0)]) rfl ?_
  intro p e s m below meth c T H
  show Go p e below _ (T.setTop (mkF m 0 #[.val (.ref p0)] []))
  refine G.new H (wd208 V) (wd209 V) (wd210 V) D28_0 (pc' := 3) rfl (by decide) (by decide) ?_
  intro T1 h1_ a2 ga2 H1 E3 A4 D5
  have na2 := H.nle ga2
  refine G.dup H1 D28_3 (pc' := 4) rfl rfl ?_
  refine G.aloadN H1 D28_4 (pc' := 5) rfl rfl rfl ?_
  have F6 := (Fld.ext E3 f0)
  refine G.getF H1 (wd37 V) Via.refl F6 D28_5 (pc' := 8) rfl ?_
  intro T7 H8
  refine G.aloadN H8 D28_8 (pc' := 9) rfl rfl rfl ?_
  have F9 := (Fld.ext E3 f1)
  refine G.getF H8 (wd46 V) Via.refl F9 D28_9 (pc' := 12) rfl ?_
  intro T10 H11
  have F12 := (Exa.ext E3 f2)
  have F13 := (Arv.ext f3 E3)
  refine G.clone H11 (wd211 V) (wd16 V) (wd20 V) (wd18 V) (wd19 V) (wd21 V) F13 F12 (st := [(.ref p1), (.ref a2), (.ref a2)]) (W := 3) (cap := 1) rfl rfl D28_12 (pc' := 15) rfl (by decide) (by decide) (by decide) (by decide) (by decide) ?_
  intro T14 h14_ a15 ga15 H14 E16 A17 X18
  have na15 := H11.nle ga15
  refine G.castY H14 (wd212 V) (Ins.self X18) D28_15 (pc' := 18) rfl ?_
  intro T19 H20
  have F21 := (Exa.ext E16 A4)
  have F22 : Fld Z h1_ a2 "com/example/passenger_flow_sim/passengerflowsim/simulation/TripLoads" "trip" "Lcom/example/passenger_flow_sim/passengerflowsim/timetable/Trip;" .null := D5 (Or.inr (wd218 V)) (ty := (.object "com/example/passenger_flow_sim/passengerflowsim/timetable/Trip")) (by decide)
  have F23 := (Fld.ext E16 F22)
  have F24 : Fld Z h1_ a2 "com/example/passenger_flow_sim/passengerflowsim/simulation/TripLoads" "loads" "[I" .null := D5 (Or.inr (wd220 V)) (ty := (.array .int)) (by decide)
  have F25 := (Fld.ext E16 F24)
  refine G.callI H20 (m24_init V a2 p1 a15 h14_ H20.old F21 F23 na2 F25) rfl (wd213 V) (wd214 V) (wd210 V) (wd215 V) (by decide) (a := a2) (argsL := [(.ref p1), (.ref a15)]) (rest := [(.ref a2)]) (W := 1) rfl rfl (lenOf (pd_16) rfl) rfl rfl D28_18 (pc' := 21) rfl (by decide) (by decide) (by decide) (by decide) all0 ?_
  intro T26 h26_ v27 s28 H26 Q29
  obtain ⟨rfl, rfl, K30, U31, F32, F33, F34⟩ := Q29
  show Go p e below _ (T26.setTop (mkF m 21 #[.val (.ref p0)] [(.ref a2)]))
  have N35 : a15 ≠ a2 := (Ne.symm (Nat.ne_of_lt (Nat.lt_of_lt_of_le A4.lt (Nat.le_of_eq ga15.symm))))
  have F36 := (Arv.keep A17 K30 (ninS N35 nin0))
  have F37 := (Exa.keep X18 K30)
  have K38 : Keep h0 h26_ [] := (Keep.trans (Keep.ext (Keep.ext (Keep.refl h0 []) E3) E16) K30 (allS (Or.inr (Nat.le_of_eq ga2.symm)) all0))
  exact G.retA H26 (t := (.object "com/example/passenger_flow_sim/passengerflowsim/simulation/TripLoads")) rfl rfl rfl D28_21 (so := []) all0 (by decide) (by decide) ⟨a2, a15, rfl, rfl, K38, (Nat.le_of_eq ga2.symm), (Nat.lt_of_lt_of_le A4.lt (Nat.le_of_eq ga15.symm)), F32, F33, F34, F36, F37⟩
set_option maxRecDepth 65536 in
set_option maxHeartbeats 40000000 in
theorem m73_linkCount (V : Env1 Z a0 n0 uu0 uu1 uu2 uu3 uu4 uu5 uu6 uu7 uu8 uu9) (p0 : Addr) (p1 : Addr) (c0 : ClassId) (h0 : Heap) (hO : Old Z n0 h0) (f0 : Fld Z h0 p0 "com/example/passenger_flow_sim/passengerflowsim/simulation/TripLoads" "loads" "[I" (.ref p1)) (f1 : Arv Z h0 p1 c0 .int (1 : Int32) [(.int (3 : Int32))] (.int 0)) :
    Met Z a0 [] False n0 l (⟨"com/example/passenger_flow_sim/passengerflowsim/simulation/TripLoads", "linkCount", "()I"⟩ : MethodName) prog_31_method_3_code 1 (Option.some FieldType.int) ({ frames := 0, cells := 0, slots := 0, locals := 0 } : Room) #[(.ref p0)] h0 [] (fun v h so => (v = some (.int (1 : Int32)) ∧ so = [] ∧ h0 = h)) := by
  refine Met.of (EWl V) (by first | decide +kernel | rfl) hO (L0 := #[.val (.ref p0)]) rfl ?_
  intro p e s m below meth c T H
  show Go p e below _ (T.setTop (mkF m 0 #[.val (.ref p0)] []))
  refine G.aloadN H D23_0 (pc' := 1) rfl rfl rfl ?_
  refine G.getF H (wd219 V) Via.refl f0 D23_1 (pc' := 4) rfl ?_
  intro T1 H2
  refine G.arrlen H2 f1 D23_4 (pc' := 5) rfl ?_
  exact G.retI H2 rfl D23_5 (so := []) all0 (by decide) (by decide) ⟨rfl, rfl, rfl⟩
set_option maxRecDepth 65536 in
set_option maxHeartbeats 40000000 in
theorem m74_load (V : Env1 Z a0 n0 uu0 uu1 uu2 uu3 uu4 uu5 uu6 uu7 uu8 uu9) (p0 : Addr) (h0 : Heap) (hO : Old Z n0 h0) (f0 : Fld Z h0 p0 "com/example/passenger_flow_sim/passengerflowsim/simulation/Vehicle" "load" "I" (.int (3 : Int32))) :
    Met Z a0 [] False n0 l (⟨"com/example/passenger_flow_sim/passengerflowsim/simulation/Vehicle", "load", "()I"⟩ : MethodName) prog_32_method_4_code 1 (Option.some FieldType.int) ({ frames := 0, cells := 0, slots := 0, locals := 0 } : Room) #[(.ref p0)] h0 [] (fun v h so => (v = some (.int (3 : Int32)) ∧ so = [] ∧ h0 = h)) := by
  refine Met.of (EWl V) (by first | decide +kernel | rfl) hO (L0 := #[.val (.ref p0)]) rfl ?_
  intro p e s m below meth c T H
  show Go p e below _ (T.setTop (mkF m 0 #[.val (.ref p0)] []))
  refine G.aloadN H D32_0 (pc' := 1) rfl rfl rfl ?_
  refine G.getF H (wd180 V) Via.refl f0 D32_1 (pc' := 4) rfl ?_
  intro T1 H2
  exact G.retI H2 rfl D32_4 (so := []) all0 (by decide) (by decide) ⟨rfl, rfl, rfl⟩
set_option maxRecDepth 65536 in
set_option maxHeartbeats 40000000 in
theorem m75_load (V : Env1 Z a0 n0 uu0 uu1 uu2 uu3 uu4 uu5 uu6 uu7 uu8 uu9) (p0 : Addr) (p1 : Addr) (c0 : ClassId) (h0 : Heap) (hO : Old Z n0 h0) (f0 : Fld Z h0 p0 "com/example/passenger_flow_sim/passengerflowsim/simulation/TripLoads" "loads" "[I" (.ref p1)) (f1 : Arv Z h0 p1 c0 .int (1 : Int32) [(.int (3 : Int32))] (.int 0)) :
    Met Z a0 [] False n0 l (⟨"com/example/passenger_flow_sim/passengerflowsim/simulation/TripLoads", "load", "(I)I"⟩ : MethodName) prog_31_method_4_code 2 (Option.some FieldType.int) ({ frames := 0, cells := 0, slots := 0, locals := 0 } : Room) #[(.ref p0), (.int (0 : Int32))] h0 [] (fun v h so => (v = some (.int (3 : Int32)) ∧ so = [] ∧ h0 = h)) := by
  refine Met.of (EWl V) (by first | decide +kernel | rfl) hO (L0 := #[.val (.ref p0), .val (.int (0 : Int32))]) rfl ?_
  intro p e s m below meth c T H
  show Go p e below _ (T.setTop (mkF m 0 #[.val (.ref p0), .val (.int (0 : Int32))] []))
  refine G.aloadN H D24_0 (pc' := 1) rfl rfl rfl ?_
  refine G.getF H (wd219 V) Via.refl f0 D24_1 (pc' := 4) rfl ?_
  intro T1 H2
  refine G.iloadN H2 D24_4 (pc' := 5) rfl rfl ?_
  refine G.ialoadG H2 f1 (j := (0 : Int32)) (v := (.int (3 : Int32))) (by decide) rfl D24_5 (pc' := 6) rfl ?_
  exact G.retI H2 rfl D24_6 (so := []) all0 (by decide) (by decide) ⟨rfl, rfl, rfl⟩
set_option maxRecDepth 65536 in
set_option maxHeartbeats 40000000 in
theorem cut76_107 (V : Env1 Z a0 n0 uu0 uu1 uu2 uu3 uu4 uu5 uu6 uu7 uu8 uu9) (x0 : Int32) (x1 : Int32) (x2 : Int32) (x3 : Int32) (x4 : Int32) (x5 : Int32) (p0 : Addr) (p1 : Addr) (p2 : Addr) (c0 : ClassId) (p3 : Addr) (c1 : ClassId) (p4 : Addr) (c2 : ClassId) (x6 : Int32) (p5 : Addr) (p6 : Addr) (c3 : ClassId) (H : Hs p l e room_1 s m as' below meth c Z a0 [] False x.cls n0 code maxLocals ret x.name T h0 17 45 []) (sp : x4 = (0 : Int32) ∨ x4 = (1 : Int32) ∨ x4 = (2 : Int32) ∨ x4 = (3 : Int32)) (f1 : Exa Z h0 p1 "com/example/passenger_flow_sim/passengerflowsim/simulation/Vehicle") (f2 : Fld Z h0 p1 "com/example/passenger_flow_sim/passengerflowsim/simulation/Vehicle" "step" "I" (.int (1 : Int32))) (f3 : Fld Z h0 p1 "com/example/passenger_flow_sim/passengerflowsim/simulation/Vehicle" "loads" "[I" (.ref p2)) (f4 : Arv Z h0 p2 c0 .int (1 : Int32) [(.int (0 : Int32))] (.int 0)) (f5 : Fld Z h0 p1 "com/example/passenger_flow_sim/passengerflowsim/simulation/Vehicle" "load" "I" (.int (0 : Int32))) (g6 : n0 ≤ p2) (g7 : n0 ≤ p1) (f8 : Fld Z h0 p1 "com/example/passenger_flow_sim/passengerflowsim/simulation/Vehicle" "trip" "Lcom/example/passenger_flow_sim/passengerflowsim/timetable/Trip;" (.ref p0)) (f9 : Exa Z h0 p2 "[I") (cc10 : x5 = (0 : Int32)) (f11 : Exa Z h0 p0 "com/example/passenger_flow_sim/passengerflowsim/timetable/Trip") (f12 : Fld Z h0 p0 "com/example/passenger_flow_sim/passengerflowsim/timetable/Trip" "stops" "[I" (.ref p3)) (q13 : p0 ≠ p2) (f14 : Arv Z h0 p3 c1 .int (2 : Int32) [(.int (0 : Int32)), (.int (1 : Int32))] (.int 0)) (q15 : p3 ≠ p1) (q16 : p3 ≠ p2) (f17 : Fld Z h0 p0 "com/example/passenger_flow_sim/passengerflowsim/timetable/Trip" "arrivals" "[I" (.ref p4)) (f18 : Arv Z h0 p4 c2 .int (2 : Int32) [(.int x3), (.int x6)] (.int 0)) (q19 : p4 ≠ p1) (q20 : p4 ≠ p2) (cc21 : x6 = (x3 + (2 : Int32))) (f22 : Fld Z h0 p1 "com/example/passenger_flow_sim/passengerflowsim/simulation/Vehicle" "alighting" "Ljava/util/List;" (.ref p5)) (f23 : Exa Z h0 p5 "java/util/ArrayList") (f24 : Fld Z h0 p5 "java/util/ArrayList" "size" "I" (.int (2 : Int32))) (f25 : Fld Z h0 p5 "java/util/ArrayList" "elementData" "[Ljava/lang/Object;" (.ref p6)) (f26 : Arv Z h0 p6 c3 (.object "java/lang/Object") (2 : Int32) [.null, .null] .null) (g27 : n0 ≤ p6) (o28 : Ovr Z c3 "java/lang/Object") (q29 : p2 ≠ p6) (q30 : p2 ≠ p1) (q31 : p0 ≠ p6) (q32 : p3 ≠ p6) (q33 : p4 ≠ p6) :
    Go p e below (FinP s below Z [] False n0 room_1.cells room_1.slots (fun v h so => v = some (.int 1))) (T.setTop (mkF m 107 #[.val (.int x0), .val (.int x1), .val (.int x2), .val (.int x3), .val (.int x4), .val (.int x5), .val (.ref p0), .val (.ref p1), .unset] [])) := by
  rcases sp with rfl | rfl | rfl | rfl
  ·
    refine G.aload H at_107 (pc' := 109) rfl rfl rfl ?_
    refine G.iload H at_109 (pc' := 111) rfl rfl ?_
    refine G.callS H (m22_boardSome V p1 h0 H.old) (wd194 V) (wd195 V) (wd196 V) (wd197 V) (by decide) (argsL := [(.ref p1), (.int (0 : Int32))]) (rest := []) (W := 0) rfl rfl (lenOf (pd_15) rfl) rfl rfl at_111 (pc' := 114) rfl (by decide) (by decide) (by decide) (by decide) all0 ?_
    intro T1 h1_ v2 s3 H1 Q4
    obtain ⟨rfl, rfl, rfl⟩ := Q4
    show Go p e below _ (T1.setTop (mkF m 114 #[.val (.int x0), .val (.int x1), .val (.int x2), .val (.int x3), .val (.int (0 : Int32)), .val (.int x5), .val (.ref p0), .val (.ref p1), .unset] []))
    refine G.aload H1 at_114 (pc' := 116) rfl rfl rfl ?_
    have N5 : p1 ≠ p2 := Exa.neArv f1 f4 (wd31 V)
    refine G.callV H1 (m23_leave V p1 p2 c0 h0 H1.old f2 f3 f4 f5 g6 N5 f1 g7) (wd198 V) (wd199 V) (nf_sel (wd201 V)) (wd201 V) (wd200 V) (wd32 V) (wd202 V) (by decide) f1 (argsL := []) (rest := []) (W := 0) rfl rfl (lenOf (pd_2) rfl) rfl rfl at_116 (pc' := 119) rfl (by decide) (by decide) (by decide) (by decide) all0 ?_
    intro T6 h6_ v7 s8 H6 Q9
    obtain ⟨rfl, rfl, K10, U11, F12, F13, F14, F15, F16⟩ := Q9
    show Go p e below _ (T6.setTop (mkF m 119 #[.val (.int x0), .val (.int x1), .val (.int x2), .val (.int x3), .val (.int (0 : Int32)), .val (.int x5), .val (.ref p0), .val (.ref p1), .unset] []))
    refine G.aload H6 at_119 (pc' := 121) rfl rfl rfl ?_
    have F17 := (U11 "com/example/passenger_flow_sim/passengerflowsim/simulation/Vehicle" "trip" "Lcom/example/passenger_flow_sim/passengerflowsim/timetable/Trip;" (.ref p0) f8 (slot_ne (Or.inr (wd38 V)) (Or.inl (wd140 V)) (by decide) (t := (.object "com/example/passenger_flow_sim/passengerflowsim/timetable/Trip")) (t' := .int) (by decide) (by decide)))
    have F18 := (Exa.keep f9 K10)
    refine G.callV H6 (m25_loads V p1 p0 p2 c0 h6_ H6.old F17 F14 F18 F12) (wd203 V) (wd204 V) (nf_sel (wd206 V)) (wd206 V) (wd205 V) (wd32 V) (wd207 V) (by decide) F16 (argsL := []) (rest := []) (W := 0) rfl rfl (lenOf (pd_17) rfl) rfl rfl at_121 (pc' := 124) rfl (by decide) (by decide) (by decide) (by decide) all0 ?_
    intro T19 h19_ v20 s21 H19 Q22
    obtain ⟨a23, a24, rfl, rfl, K25, g26, g27, F28, F29, F30, F31, F32⟩ := Q22
    have na23 : n0 ≤ a23 := Nat.le_trans H6.le g26
    have na24 : n0 ≤ a24 := Nat.le_trans H6.le (Nat.le_of_lt (Nat.lt_of_le_of_lt g26 g27))
    show Go p e below _ (T19.setTop (mkF m 124 #[.val (.int x0), .val (.int x1), .val (.int x2), .val (.int x3), .val (.int (0 : Int32)), .val (.int x5), .val (.ref p0), .val (.ref p1), .unset] [(.ref a23)]))
    refine G.astore H19 (L' := #[.val (.int x0), .val (.int x1), .val (.int x2), .val (.int x3), .val (.int (0 : Int32)), .val (.int x5), .val (.ref p0), .val (.ref p1), .val (.ref a23)]) at_124 (pc' := 126) rfl rfl rfl ?_
    refine G.aload H19 at_126 (pc' := 128) rfl rfl rfl ?_
    refine G.callV H19 (m26_linkCount V a23 a24 c0 h19_ H19.old F30 F31) (wd221 V) (wd222 V) (nf_sel (wd224 V)) (wd224 V) (wd223 V) (wd210 V) (wd225 V) (by decide) F28 (argsL := []) (rest := []) (W := 0) rfl rfl (lenOf (pd_1) rfl) rfl rfl at_128 (pc' := 131) rfl (by decide) (by decide) (by decide) (by decide) all0 ?_
    intro T33 h33_ v34 s35 H33 Q36
    obtain ⟨rfl, rfl, rfl⟩ := Q36
    show Go p e below _ (T33.setTop (mkF m 131 #[.val (.int x0), .val (.int x1), .val (.int x2), .val (.int x3), .val (.int (0 : Int32)), .val (.int x5), .val (.ref p0), .val (.ref p1), .val (.ref a23)] [(.int (1 : Int32))]))
    refine G.iconst H33 at_131 (pc' := 132) rfl (v := (1 : Int32)) rfl ?_
    refine G.icmpNo H33 at_132 (pc' := 135) rfl (by decide) ?_
    refine G.aload H33 at_135 (pc' := 137) rfl rfl rfl ?_
    have F37 := (Exa.keep F16 K25)
    have F38 := (Fld.keep F15 K25 nin0)
    refine G.callV H33 (m27_load V p1 h19_ H33.old F38) (wd226 V) (wd227 V) (nf_sel (wd229 V)) (wd229 V) (wd228 V) (wd32 V) (wd230 V) (by decide) F37 (argsL := []) (rest := []) (W := 0) rfl rfl (lenOf (pd_1) rfl) rfl rfl at_137 (pc' := 140) rfl (by decide) (by decide) (by decide) (by decide) all0 ?_
    intro T39 h39_ v40 s41 H39 Q42
    obtain ⟨rfl, rfl, rfl⟩ := Q42
    show Go p e below _ (T39.setTop (mkF m 140 #[.val (.int x0), .val (.int x1), .val (.int x2), .val (.int x3), .val (.int (0 : Int32)), .val (.int x5), .val (.ref p0), .val (.ref p1), .val (.ref a23)] [(.int (0 : Int32))]))
    refine G.iload H39 at_140 (pc' := 142) rfl rfl ?_
    refine G.icmpYes H39 at_142 (by decide) (by decide) (pc' := 147) rfl ?_
    refine G.iload H39 at_147 (pc' := 149) rfl rfl ?_
    refine G.ifYes H39 at_149 (XT.i0_eq_t cc10) (by decide) (pc' := 184) rfl ?_
    refine G.aload H39 at_184 (pc' := 186) rfl rfl rfl ?_
    have F43 := (Fld.keep F13 K25 nin0)
    have F44 := (Fld.keep F17 K25 nin0)
    have K45 : Keep h0 h19_ [p2, p1] := (Keep.trans (Keep.trans (Keep.refl h0 [p2, p1]) K10 (allS (Or.inl (List.mem_of_getElem? (i := 0) rfl)) (allS (Or.inl (List.mem_of_getElem? (i := 1) rfl)) all0))) K25 all0)
    have F46 := (Exa.keep f11 K45)
    have N47 : p0 ≠ p1 := Exa.ne F46 F37 (by decide)
    have F48 := (Fld.keep f12 K45 (ninS q13 (ninS N47 nin0)))
    have F49 := (Arv.keep f14 K45 (ninS q16 (ninS q15 nin0)))
    refine G.callV H39 (m28_isDone V p1 p0 p3 c1 h19_ H39.old F43 F44 F46 F48 F49) (wd231 V) (wd232 V) (nf_sel (wd234 V)) (wd234 V) (wd233 V) (wd32 V) (wd235 V) (by decide) F37 (argsL := []) (rest := []) (W := 0) rfl rfl (lenOf (pd_18) rfl) rfl rfl at_186 (pc' := 189) rfl (by decide) (by decide) (by decide) (by decide) all0 ?_
    intro T50 h50_ v51 s52 H50 Q53
    obtain ⟨rfl, rfl, rfl⟩ := Q53
    show Go p e below _ (T50.setTop (mkF m 189 #[.val (.int x0), .val (.int x1), .val (.int x2), .val (.int x3), .val (.int (0 : Int32)), .val (.int x5), .val (.ref p0), .val (.ref p1), .val (.ref a23)] [(.int (0 : Int32))]))
    refine G.ifNo H50 at_189 (pc' := 192) rfl (by decide) ?_
    refine G.aload H50 at_192 (pc' := 194) rfl rfl rfl ?_
    refine G.callV H50 (m29_isDeparting V p1 h19_ H50.old F43) (wd236 V) (wd237 V) (nf_sel (wd239 V)) (wd239 V) (wd238 V) (wd32 V) (wd240 V) (by decide) F37 (argsL := []) (rest := []) (W := 0) rfl rfl (lenOf (pd_18) rfl) rfl rfl at_194 (pc' := 197) rfl (by decide) (by decide) (by decide) (by decide) all0 ?_
    intro T54 h54_ v55 s56 H54 Q57
    obtain ⟨rfl, rfl, rfl⟩ := Q57
    show Go p e below _ (T54.setTop (mkF m 197 #[.val (.int x0), .val (.int x1), .val (.int x2), .val (.int x3), .val (.int (0 : Int32)), .val (.int x5), .val (.ref p0), .val (.ref p1), .val (.ref a23)] [(.int (0 : Int32))]))
    refine G.ifNo H54 at_197 (pc' := 200) rfl (by decide) ?_
    refine G.aload H54 at_200 (pc' := 202) rfl rfl rfl ?_
    refine G.iconst H54 at_202 (pc' := 203) rfl (v := (0 : Int32)) rfl ?_
    refine G.callV H54 (m30_hasLeft V p1 h19_ H54.old F43) (wd241 V) (wd242 V) (nf_sel (wd244 V)) (wd244 V) (wd243 V) (wd32 V) (wd245 V) (by decide) F37 (argsL := [(.int (0 : Int32))]) (rest := []) (W := 0) rfl rfl (lenOf (pd_19) rfl) rfl rfl at_203 (pc' := 206) rfl (by decide) (by decide) (by decide) (by decide) all0 ?_
    intro T58 h58_ v59 s60 H58 Q61
    obtain ⟨rfl, rfl, rfl⟩ := Q61
    show Go p e below _ (T58.setTop (mkF m 206 #[.val (.int x0), .val (.int x1), .val (.int x2), .val (.int x3), .val (.int (0 : Int32)), .val (.int x5), .val (.ref p0), .val (.ref p1), .val (.ref a23)] [(.int (1 : Int32))]))
    refine G.ifNo H58 at_206 (pc' := 209) rfl (by decide) ?_
    refine G.aload H58 at_209 (pc' := 211) rfl rfl rfl ?_
    refine G.iconst H58 at_211 (pc' := 212) rfl (v := (1 : Int32)) rfl ?_
    refine G.callV H58 (m31_hasLeft V p1 h19_ H58.old F43) (wd241 V) (wd242 V) (nf_sel (wd244 V)) (wd244 V) (wd243 V) (wd32 V) (wd245 V) (by decide) F37 (argsL := [(.int (1 : Int32))]) (rest := []) (W := 0) rfl rfl (lenOf (pd_19) rfl) rfl rfl at_212 (pc' := 215) rfl (by decide) (by decide) (by decide) (by decide) all0 ?_
    intro T62 h62_ v63 s64 H62 Q65
    obtain ⟨rfl, rfl, rfl⟩ := Q65
    show Go p e below _ (T62.setTop (mkF m 215 #[.val (.int x0), .val (.int x1), .val (.int x2), .val (.int x3), .val (.int (0 : Int32)), .val (.int x5), .val (.ref p0), .val (.ref p1), .val (.ref a23)] [(.int (0 : Int32))]))
    refine G.ifNo H62 at_215 (pc' := 218) rfl (by decide) ?_
    refine G.aload H62 at_218 (pc' := 220) rfl rfl rfl ?_
    have F66 := (Fld.keep f17 K45 (ninS q13 (ninS N47 nin0)))
    have F67 := (Arv.keep f18 K45 (ninS q20 (ninS q19 nin0)))
    refine G.callV H62 (m33_nextTime V p1 p0 p4 c2 x3 x6 h19_ H62.old F43 F37 F44 F46 F66 F67) (wd246 V) (wd247 V) (nf_sel (wd249 V)) (wd249 V) (wd248 V) (wd32 V) (wd250 V) (by decide) F37 (argsL := []) (rest := []) (W := 0) rfl rfl (lenOf (pd_1) rfl) rfl rfl at_220 (pc' := 223) rfl (by decide) (by decide) (by decide) (by decide) all0 ?_
    intro T68 h68_ v69 s70 H68 Q71
    obtain ⟨rfl, rfl, rfl⟩ := Q71
    show Go p e below _ (T68.setTop (mkF m 223 #[.val (.int x0), .val (.int x1), .val (.int x2), .val (.int x3), .val (.int (0 : Int32)), .val (.int x5), .val (.ref p0), .val (.ref p1), .val (.ref a23)] [(.int x6)]))
    refine G.iloadN H68 at_223 (pc' := 224) rfl rfl ?_
    refine G.iconst H68 at_224 (pc' := 225) rfl (v := (2 : Int32)) rfl ?_
    refine G.iadd H68 at_225 (pc' := 226) rfl ?_
    refine G.icmpNo H68 at_226 (pc' := 229) rfl (XT.ii_ne_f cc21) ?_
    refine G.aload H68 at_229 (pc' := 231) rfl rfl rfl ?_
    refine G.iconst H68 at_231 (pc' := 232) rfl (v := (0 : Int32)) rfl ?_
    refine G.callV H68 (m34_load V a23 a24 c0 h19_ H68.old F30 F31) (wd257 V) (wd258 V) (nf_sel (wd260 V)) (wd260 V) (wd259 V) (wd210 V) (wd261 V) (by decide) F28 (argsL := [(.int (0 : Int32))]) (rest := []) (W := 0) rfl rfl (lenOf (pd_20) rfl) rfl rfl at_232 (pc' := 235) rfl (by decide) (by decide) (by decide) (by decide) all0 ?_
    intro T72 h72_ v73 s74 H72 Q75
    obtain ⟨rfl, rfl, rfl⟩ := Q75
    show Go p e below _ (T72.setTop (mkF m 235 #[.val (.int x0), .val (.int x1), .val (.int x2), .val (.int x3), .val (.int (0 : Int32)), .val (.int x5), .val (.ref p0), .val (.ref p1), .val (.ref a23)] [(.int (0 : Int32))]))
    refine G.iload H72 at_235 (pc' := 237) rfl rfl ?_
    refine G.icmpNo H72 at_237 (pc' := 240) rfl (by decide) ?_
    refine G.iconst H72 at_240 (pc' := 241) rfl (v := (1 : Int32)) rfl ?_
    refine G.goto H72 at_241 (by decide) (pc' := 245) rfl ?_
    exact G.retN H72 (t := .boolean) rfl (by decide) at_245 (so := []) all0 (by decide) (by decide) rfl
  ·
    refine G.aload H at_107 (pc' := 109) rfl rfl rfl ?_
    refine G.iload H at_109 (pc' := 111) rfl rfl ?_
    refine G.callS H (m50_boardSome V p1 p5 p6 c3 h0 H.old f1 f5 g7 f22 f23 f24 f25 f26 g27 o28) (wd194 V) (wd195 V) (wd196 V) (wd197 V) (by decide) (argsL := [(.ref p1), (.int (1 : Int32))]) (rest := []) (W := 0) rfl rfl (lenOf (pd_15) rfl) rfl rfl at_111 (pc' := 114) rfl (by decide) (by decide) (by decide) (by decide) all0 ?_
    intro T76 h76_ v77 s78 H76 Q79
    obtain ⟨a80, a81, k82, rfl, rfl, K83, g84, g85, U86, O87, F88, F89, F90, F91, F92, F93, F94, F95, F96, F97⟩ := Q79
    have na80 : n0 ≤ a80 := Nat.le_trans H.le g84
    have na81 : n0 ≤ a81 := Nat.le_trans H.le (Nat.le_of_lt (Nat.lt_of_le_of_lt g84 g85))
    show Go p e below _ (T76.setTop (mkF m 114 #[.val (.int x0), .val (.int x1), .val (.int x2), .val (.int x3), .val (.int (1 : Int32)), .val (.int x5), .val (.ref p0), .val (.ref p1), .unset] []))
    refine G.aload H76 at_114 (pc' := 116) rfl rfl rfl ?_
    have F98 := (U86 "com/example/passenger_flow_sim/passengerflowsim/simulation/Vehicle" "step" "I" (.int (1 : Int32)) f2 (slot_ne (Or.inl (wd140 V)) (Or.inl (wd181 V)) (by decide) (t := .int) (t' := .int) (by decide) (by decide)))
    have F99 := (U86 "com/example/passenger_flow_sim/passengerflowsim/simulation/Vehicle" "loads" "[I" (.ref p2) f3 (slot_ne (Or.inr (wd47 V)) (Or.inl (wd181 V)) (by decide) (t := (.array .int)) (t' := .int) (by decide) (by decide)))
    have F100 := (Arv.keep f4 K83 (ninS q30 (ninS q29 nin0)))
    refine G.callV H76 (m51_leave V p1 p2 c0 h76_ H76.old F98 F99 F100 F89 g6 (Ne.symm q30) F88 g7) (wd198 V) (wd199 V) (nf_sel (wd201 V)) (wd201 V) (wd200 V) (wd32 V) (wd202 V) (by decide) F88 (argsL := []) (rest := []) (W := 0) rfl rfl (lenOf (pd_2) rfl) rfl rfl at_116 (pc' := 119) rfl (by decide) (by decide) (by decide) (by decide) all0 ?_
    intro T101 h101_ v102 s103 H101 Q104
    obtain ⟨rfl, rfl, K105, U106, F107, F108, F109, F110, F111⟩ := Q104
    show Go p e below _ (T101.setTop (mkF m 119 #[.val (.int x0), .val (.int x1), .val (.int x2), .val (.int x3), .val (.int (1 : Int32)), .val (.int x5), .val (.ref p0), .val (.ref p1), .unset] []))
    refine G.aload H101 at_119 (pc' := 121) rfl rfl rfl ?_
    have F112 := (U106 "com/example/passenger_flow_sim/passengerflowsim/simulation/Vehicle" "trip" "Lcom/example/passenger_flow_sim/passengerflowsim/timetable/Trip;" (.ref p0) (U86 "com/example/passenger_flow_sim/passengerflowsim/simulation/Vehicle" "trip" "Lcom/example/passenger_flow_sim/passengerflowsim/timetable/Trip;" (.ref p0) f8 (slot_ne (Or.inr (wd38 V)) (Or.inl (wd181 V)) (by decide) (t := (.object "com/example/passenger_flow_sim/passengerflowsim/timetable/Trip")) (t' := .int) (by decide) (by decide))) (slot_ne (Or.inr (wd38 V)) (Or.inl (wd140 V)) (by decide) (t := (.object "com/example/passenger_flow_sim/passengerflowsim/timetable/Trip")) (t' := .int) (by decide) (by decide)))
    have K113 : Keep h0 h101_ [p1, p6, p2] := (Keep.trans (Keep.trans (Keep.refl h0 [p1, p6, p2]) K83 (allS (Or.inl (List.mem_of_getElem? (i := 0) rfl)) (allS (Or.inl (List.mem_of_getElem? (i := 1) rfl)) all0))) K105 (allS (Or.inl (List.mem_of_getElem? (i := 2) rfl)) (allS (Or.inl (List.mem_of_getElem? (i := 0) rfl)) all0)))
    have F114 := (Exa.keep f9 K113)
    refine G.callV H101 (m52_loads V p1 p0 p2 c0 h101_ H101.old F112 F109 F114 F107) (wd203 V) (wd204 V) (nf_sel (wd206 V)) (wd206 V) (wd205 V) (wd32 V) (wd207 V) (by decide) F111 (argsL := []) (rest := []) (W := 0) rfl rfl (lenOf (pd_17) rfl) rfl rfl at_121 (pc' := 124) rfl (by decide) (by decide) (by decide) (by decide) all0 ?_
    intro T115 h115_ v116 s117 H115 Q118
    obtain ⟨a119, a120, rfl, rfl, K121, g122, g123, F124, F125, F126, F127, F128⟩ := Q118
    have na119 : n0 ≤ a119 := Nat.le_trans H101.le g122
    have na120 : n0 ≤ a120 := Nat.le_trans H101.le (Nat.le_of_lt (Nat.lt_of_le_of_lt g122 g123))
    show Go p e below _ (T115.setTop (mkF m 124 #[.val (.int x0), .val (.int x1), .val (.int x2), .val (.int x3), .val (.int (1 : Int32)), .val (.int x5), .val (.ref p0), .val (.ref p1), .unset] [(.ref a119)]))
    refine G.astore H115 (L' := #[.val (.int x0), .val (.int x1), .val (.int x2), .val (.int x3), .val (.int (1 : Int32)), .val (.int x5), .val (.ref p0), .val (.ref p1), .val (.ref a119)]) at_124 (pc' := 126) rfl rfl rfl ?_
    refine G.aload H115 at_126 (pc' := 128) rfl rfl rfl ?_
    refine G.callV H115 (m53_linkCount V a119 a120 c0 h115_ H115.old F126 F127) (wd221 V) (wd222 V) (nf_sel (wd224 V)) (wd224 V) (wd223 V) (wd210 V) (wd225 V) (by decide) F124 (argsL := []) (rest := []) (W := 0) rfl rfl (lenOf (pd_1) rfl) rfl rfl at_128 (pc' := 131) rfl (by decide) (by decide) (by decide) (by decide) all0 ?_
    intro T129 h129_ v130 s131 H129 Q132
    obtain ⟨rfl, rfl, rfl⟩ := Q132
    show Go p e below _ (T129.setTop (mkF m 131 #[.val (.int x0), .val (.int x1), .val (.int x2), .val (.int x3), .val (.int (1 : Int32)), .val (.int x5), .val (.ref p0), .val (.ref p1), .val (.ref a119)] [(.int (1 : Int32))]))
    refine G.iconst H129 at_131 (pc' := 132) rfl (v := (1 : Int32)) rfl ?_
    refine G.icmpNo H129 at_132 (pc' := 135) rfl (by decide) ?_
    refine G.aload H129 at_135 (pc' := 137) rfl rfl rfl ?_
    have F133 := (Exa.keep F111 K121)
    have F134 := (Fld.keep F110 K121 nin0)
    refine G.callV H129 (m54_load V p1 h115_ H129.old F134) (wd226 V) (wd227 V) (nf_sel (wd229 V)) (wd229 V) (wd228 V) (wd32 V) (wd230 V) (by decide) F133 (argsL := []) (rest := []) (W := 0) rfl rfl (lenOf (pd_1) rfl) rfl rfl at_137 (pc' := 140) rfl (by decide) (by decide) (by decide) (by decide) all0 ?_
    intro T135 h135_ v136 s137 H135 Q138
    obtain ⟨rfl, rfl, rfl⟩ := Q138
    show Go p e below _ (T135.setTop (mkF m 140 #[.val (.int x0), .val (.int x1), .val (.int x2), .val (.int x3), .val (.int (1 : Int32)), .val (.int x5), .val (.ref p0), .val (.ref p1), .val (.ref a119)] [(.int (1 : Int32))]))
    refine G.iload H135 at_140 (pc' := 142) rfl rfl ?_
    refine G.icmpYes H135 at_142 (by decide) (by decide) (pc' := 147) rfl ?_
    refine G.iload H135 at_147 (pc' := 149) rfl rfl ?_
    refine G.ifYes H135 at_149 (XT.i0_eq_t cc10) (by decide) (pc' := 184) rfl ?_
    refine G.aload H135 at_184 (pc' := 186) rfl rfl rfl ?_
    have F139 := (Fld.keep F108 K121 nin0)
    have F140 := (Fld.keep F112 K121 nin0)
    have K141 : Keep h0 h115_ [p1, p6, p2] := (Keep.trans (Keep.trans (Keep.trans (Keep.refl h0 [p1, p6, p2]) K83 (allS (Or.inl (List.mem_of_getElem? (i := 0) rfl)) (allS (Or.inl (List.mem_of_getElem? (i := 1) rfl)) all0))) K105 (allS (Or.inl (List.mem_of_getElem? (i := 2) rfl)) (allS (Or.inl (List.mem_of_getElem? (i := 0) rfl)) all0))) K121 all0)
    have F142 := (Exa.keep f11 K141)
    have N143 : p0 ≠ p1 := Exa.ne F142 F133 (by decide)
    have F144 := (Fld.keep f12 K141 (ninS N143 (ninS q31 (ninS q13 nin0))))
    have F145 := (Arv.keep f14 K141 (ninS q15 (ninS q32 (ninS q16 nin0))))
    refine G.callV H135 (m28_isDone V p1 p0 p3 c1 h115_ H135.old F139 F140 F142 F144 F145) (wd231 V) (wd232 V) (nf_sel (wd234 V)) (wd234 V) (wd233 V) (wd32 V) (wd235 V) (by decide) F133 (argsL := []) (rest := []) (W := 0) rfl rfl (lenOf (pd_18) rfl) rfl rfl at_186 (pc' := 189) rfl (by decide) (by decide) (by decide) (by decide) all0 ?_
    intro T146 h146_ v147 s148 H146 Q149
    obtain ⟨rfl, rfl, rfl⟩ := Q149
    show Go p e below _ (T146.setTop (mkF m 189 #[.val (.int x0), .val (.int x1), .val (.int x2), .val (.int x3), .val (.int (1 : Int32)), .val (.int x5), .val (.ref p0), .val (.ref p1), .val (.ref a119)] [(.int (0 : Int32))]))
    refine G.ifNo H146 at_189 (pc' := 192) rfl (by decide) ?_
    refine G.aload H146 at_192 (pc' := 194) rfl rfl rfl ?_
    refine G.callV H146 (m29_isDeparting V p1 h115_ H146.old F139) (wd236 V) (wd237 V) (nf_sel (wd239 V)) (wd239 V) (wd238 V) (wd32 V) (wd240 V) (by decide) F133 (argsL := []) (rest := []) (W := 0) rfl rfl (lenOf (pd_18) rfl) rfl rfl at_194 (pc' := 197) rfl (by decide) (by decide) (by decide) (by decide) all0 ?_
    intro T150 h150_ v151 s152 H150 Q153
    obtain ⟨rfl, rfl, rfl⟩ := Q153
    show Go p e below _ (T150.setTop (mkF m 197 #[.val (.int x0), .val (.int x1), .val (.int x2), .val (.int x3), .val (.int (1 : Int32)), .val (.int x5), .val (.ref p0), .val (.ref p1), .val (.ref a119)] [(.int (0 : Int32))]))
    refine G.ifNo H150 at_197 (pc' := 200) rfl (by decide) ?_
    refine G.aload H150 at_200 (pc' := 202) rfl rfl rfl ?_
    refine G.iconst H150 at_202 (pc' := 203) rfl (v := (0 : Int32)) rfl ?_
    refine G.callV H150 (m30_hasLeft V p1 h115_ H150.old F139) (wd241 V) (wd242 V) (nf_sel (wd244 V)) (wd244 V) (wd243 V) (wd32 V) (wd245 V) (by decide) F133 (argsL := [(.int (0 : Int32))]) (rest := []) (W := 0) rfl rfl (lenOf (pd_19) rfl) rfl rfl at_203 (pc' := 206) rfl (by decide) (by decide) (by decide) (by decide) all0 ?_
    intro T154 h154_ v155 s156 H154 Q157
    obtain ⟨rfl, rfl, rfl⟩ := Q157
    show Go p e below _ (T154.setTop (mkF m 206 #[.val (.int x0), .val (.int x1), .val (.int x2), .val (.int x3), .val (.int (1 : Int32)), .val (.int x5), .val (.ref p0), .val (.ref p1), .val (.ref a119)] [(.int (1 : Int32))]))
    refine G.ifNo H154 at_206 (pc' := 209) rfl (by decide) ?_
    refine G.aload H154 at_209 (pc' := 211) rfl rfl rfl ?_
    refine G.iconst H154 at_211 (pc' := 212) rfl (v := (1 : Int32)) rfl ?_
    refine G.callV H154 (m31_hasLeft V p1 h115_ H154.old F139) (wd241 V) (wd242 V) (nf_sel (wd244 V)) (wd244 V) (wd243 V) (wd32 V) (wd245 V) (by decide) F133 (argsL := [(.int (1 : Int32))]) (rest := []) (W := 0) rfl rfl (lenOf (pd_19) rfl) rfl rfl at_212 (pc' := 215) rfl (by decide) (by decide) (by decide) (by decide) all0 ?_
    intro T158 h158_ v159 s160 H158 Q161
    obtain ⟨rfl, rfl, rfl⟩ := Q161
    show Go p e below _ (T158.setTop (mkF m 215 #[.val (.int x0), .val (.int x1), .val (.int x2), .val (.int x3), .val (.int (1 : Int32)), .val (.int x5), .val (.ref p0), .val (.ref p1), .val (.ref a119)] [(.int (0 : Int32))]))
    refine G.ifNo H158 at_215 (pc' := 218) rfl (by decide) ?_
    refine G.aload H158 at_218 (pc' := 220) rfl rfl rfl ?_
    have F162 := (Fld.keep f17 K141 (ninS N143 (ninS q31 (ninS q13 nin0))))
    have F163 := (Arv.keep f18 K141 (ninS q19 (ninS q33 (ninS q20 nin0))))
    refine G.callV H158 (m33_nextTime V p1 p0 p4 c2 x3 x6 h115_ H158.old F139 F133 F140 F142 F162 F163) (wd246 V) (wd247 V) (nf_sel (wd249 V)) (wd249 V) (wd248 V) (wd32 V) (wd250 V) (by decide) F133 (argsL := []) (rest := []) (W := 0) rfl rfl (lenOf (pd_1) rfl) rfl rfl at_220 (pc' := 223) rfl (by decide) (by decide) (by decide) (by decide) all0 ?_
    intro T164 h164_ v165 s166 H164 Q167
    obtain ⟨rfl, rfl, rfl⟩ := Q167
    show Go p e below _ (T164.setTop (mkF m 223 #[.val (.int x0), .val (.int x1), .val (.int x2), .val (.int x3), .val (.int (1 : Int32)), .val (.int x5), .val (.ref p0), .val (.ref p1), .val (.ref a119)] [(.int x6)]))
    refine G.iloadN H164 at_223 (pc' := 224) rfl rfl ?_
    refine G.iconst H164 at_224 (pc' := 225) rfl (v := (2 : Int32)) rfl ?_
    refine G.iadd H164 at_225 (pc' := 226) rfl ?_
    refine G.icmpNo H164 at_226 (pc' := 229) rfl (XT.ii_ne_f cc21) ?_
    refine G.aload H164 at_229 (pc' := 231) rfl rfl rfl ?_
    refine G.iconst H164 at_231 (pc' := 232) rfl (v := (0 : Int32)) rfl ?_
    refine G.callV H164 (m55_load V a119 a120 c0 h115_ H164.old F126 F127) (wd257 V) (wd258 V) (nf_sel (wd260 V)) (wd260 V) (wd259 V) (wd210 V) (wd261 V) (by decide) F124 (argsL := [(.int (0 : Int32))]) (rest := []) (W := 0) rfl rfl (lenOf (pd_20) rfl) rfl rfl at_232 (pc' := 235) rfl (by decide) (by decide) (by decide) (by decide) all0 ?_
    intro T168 h168_ v169 s170 H168 Q171
    obtain ⟨rfl, rfl, rfl⟩ := Q171
    show Go p e below _ (T168.setTop (mkF m 235 #[.val (.int x0), .val (.int x1), .val (.int x2), .val (.int x3), .val (.int (1 : Int32)), .val (.int x5), .val (.ref p0), .val (.ref p1), .val (.ref a119)] [(.int (1 : Int32))]))
    refine G.iload H168 at_235 (pc' := 237) rfl rfl ?_
    refine G.icmpNo H168 at_237 (pc' := 240) rfl (by decide) ?_
    refine G.iconst H168 at_240 (pc' := 241) rfl (v := (1 : Int32)) rfl ?_
    refine G.goto H168 at_241 (by decide) (pc' := 245) rfl ?_
    exact G.retN H168 (t := .boolean) rfl (by decide) at_245 (so := []) all0 (by decide) (by decide) rfl
  ·
    refine G.aload H at_107 (pc' := 109) rfl rfl rfl ?_
    refine G.iload H at_109 (pc' := 111) rfl rfl ?_
    refine G.callS H (m60_boardSome V p1 p5 p6 c3 h0 H.old f1 f5 g7 f22 f23 f24 f25 f26 g27 o28) (wd194 V) (wd195 V) (wd196 V) (wd197 V) (by decide) (argsL := [(.ref p1), (.int (2 : Int32))]) (rest := []) (W := 0) rfl rfl (lenOf (pd_15) rfl) rfl rfl at_111 (pc' := 114) rfl (by decide) (by decide) (by decide) (by decide) all0 ?_
    intro T172 h172_ v173 s174 H172 Q175
    obtain ⟨a176, a177, k178, rfl, rfl, K179, g180, g181, U182, O183, F184, F185, F186, F187, F188, F189, F190, F191, F192, F193⟩ := Q175
    have na176 : n0 ≤ a176 := Nat.le_trans H.le g180
    have na177 : n0 ≤ a177 := Nat.le_trans H.le (Nat.le_of_lt (Nat.lt_of_le_of_lt g180 g181))
    show Go p e below _ (T172.setTop (mkF m 114 #[.val (.int x0), .val (.int x1), .val (.int x2), .val (.int x3), .val (.int (2 : Int32)), .val (.int x5), .val (.ref p0), .val (.ref p1), .unset] []))
    refine G.aload H172 at_114 (pc' := 116) rfl rfl rfl ?_
    have F194 := (U182 "com/example/passenger_flow_sim/passengerflowsim/simulation/Vehicle" "step" "I" (.int (1 : Int32)) f2 (slot_ne (Or.inl (wd140 V)) (Or.inl (wd181 V)) (by decide) (t := .int) (t' := .int) (by decide) (by decide)))
    have F195 := (U182 "com/example/passenger_flow_sim/passengerflowsim/simulation/Vehicle" "loads" "[I" (.ref p2) f3 (slot_ne (Or.inr (wd47 V)) (Or.inl (wd181 V)) (by decide) (t := (.array .int)) (t' := .int) (by decide) (by decide)))
    have F196 := (Arv.keep f4 K179 (ninS q30 (ninS q29 nin0)))
    refine G.callV H172 (m61_leave V p1 p2 c0 h172_ H172.old F194 F195 F196 F185 g6 (Ne.symm q30) F184 g7) (wd198 V) (wd199 V) (nf_sel (wd201 V)) (wd201 V) (wd200 V) (wd32 V) (wd202 V) (by decide) F184 (argsL := []) (rest := []) (W := 0) rfl rfl (lenOf (pd_2) rfl) rfl rfl at_116 (pc' := 119) rfl (by decide) (by decide) (by decide) (by decide) all0 ?_
    intro T197 h197_ v198 s199 H197 Q200
    obtain ⟨rfl, rfl, K201, U202, F203, F204, F205, F206, F207⟩ := Q200
    show Go p e below _ (T197.setTop (mkF m 119 #[.val (.int x0), .val (.int x1), .val (.int x2), .val (.int x3), .val (.int (2 : Int32)), .val (.int x5), .val (.ref p0), .val (.ref p1), .unset] []))
    refine G.aload H197 at_119 (pc' := 121) rfl rfl rfl ?_
    have F208 := (U202 "com/example/passenger_flow_sim/passengerflowsim/simulation/Vehicle" "trip" "Lcom/example/passenger_flow_sim/passengerflowsim/timetable/Trip;" (.ref p0) (U182 "com/example/passenger_flow_sim/passengerflowsim/simulation/Vehicle" "trip" "Lcom/example/passenger_flow_sim/passengerflowsim/timetable/Trip;" (.ref p0) f8 (slot_ne (Or.inr (wd38 V)) (Or.inl (wd181 V)) (by decide) (t := (.object "com/example/passenger_flow_sim/passengerflowsim/timetable/Trip")) (t' := .int) (by decide) (by decide))) (slot_ne (Or.inr (wd38 V)) (Or.inl (wd140 V)) (by decide) (t := (.object "com/example/passenger_flow_sim/passengerflowsim/timetable/Trip")) (t' := .int) (by decide) (by decide)))
    have K209 : Keep h0 h197_ [p1, p6, p2] := (Keep.trans (Keep.trans (Keep.refl h0 [p1, p6, p2]) K179 (allS (Or.inl (List.mem_of_getElem? (i := 0) rfl)) (allS (Or.inl (List.mem_of_getElem? (i := 1) rfl)) all0))) K201 (allS (Or.inl (List.mem_of_getElem? (i := 2) rfl)) (allS (Or.inl (List.mem_of_getElem? (i := 0) rfl)) all0)))
    have F210 := (Exa.keep f9 K209)
    refine G.callV H197 (m62_loads V p1 p0 p2 c0 h197_ H197.old F208 F205 F210 F203) (wd203 V) (wd204 V) (nf_sel (wd206 V)) (wd206 V) (wd205 V) (wd32 V) (wd207 V) (by decide) F207 (argsL := []) (rest := []) (W := 0) rfl rfl (lenOf (pd_17) rfl) rfl rfl at_121 (pc' := 124) rfl (by decide) (by decide) (by decide) (by decide) all0 ?_
    intro T211 h211_ v212 s213 H211 Q214
    obtain ⟨a215, a216, rfl, rfl, K217, g218, g219, F220, F221, F222, F223, F224⟩ := Q214
    have na215 : n0 ≤ a215 := Nat.le_trans H197.le g218
    have na216 : n0 ≤ a216 := Nat.le_trans H197.le (Nat.le_of_lt (Nat.lt_of_le_of_lt g218 g219))
    show Go p e below _ (T211.setTop (mkF m 124 #[.val (.int x0), .val (.int x1), .val (.int x2), .val (.int x3), .val (.int (2 : Int32)), .val (.int x5), .val (.ref p0), .val (.ref p1), .unset] [(.ref a215)]))
    refine G.astore H211 (L' := #[.val (.int x0), .val (.int x1), .val (.int x2), .val (.int x3), .val (.int (2 : Int32)), .val (.int x5), .val (.ref p0), .val (.ref p1), .val (.ref a215)]) at_124 (pc' := 126) rfl rfl rfl ?_
    refine G.aload H211 at_126 (pc' := 128) rfl rfl rfl ?_
    refine G.callV H211 (m63_linkCount V a215 a216 c0 h211_ H211.old F222 F223) (wd221 V) (wd222 V) (nf_sel (wd224 V)) (wd224 V) (wd223 V) (wd210 V) (wd225 V) (by decide) F220 (argsL := []) (rest := []) (W := 0) rfl rfl (lenOf (pd_1) rfl) rfl rfl at_128 (pc' := 131) rfl (by decide) (by decide) (by decide) (by decide) all0 ?_
    intro T225 h225_ v226 s227 H225 Q228
    obtain ⟨rfl, rfl, rfl⟩ := Q228
    show Go p e below _ (T225.setTop (mkF m 131 #[.val (.int x0), .val (.int x1), .val (.int x2), .val (.int x3), .val (.int (2 : Int32)), .val (.int x5), .val (.ref p0), .val (.ref p1), .val (.ref a215)] [(.int (1 : Int32))]))
    refine G.iconst H225 at_131 (pc' := 132) rfl (v := (1 : Int32)) rfl ?_
    refine G.icmpNo H225 at_132 (pc' := 135) rfl (by decide) ?_
    refine G.aload H225 at_135 (pc' := 137) rfl rfl rfl ?_
    have F229 := (Exa.keep F207 K217)
    have F230 := (Fld.keep F206 K217 nin0)
    refine G.callV H225 (m64_load V p1 h211_ H225.old F230) (wd226 V) (wd227 V) (nf_sel (wd229 V)) (wd229 V) (wd228 V) (wd32 V) (wd230 V) (by decide) F229 (argsL := []) (rest := []) (W := 0) rfl rfl (lenOf (pd_1) rfl) rfl rfl at_137 (pc' := 140) rfl (by decide) (by decide) (by decide) (by decide) all0 ?_
    intro T231 h231_ v232 s233 H231 Q234
    obtain ⟨rfl, rfl, rfl⟩ := Q234
    show Go p e below _ (T231.setTop (mkF m 140 #[.val (.int x0), .val (.int x1), .val (.int x2), .val (.int x3), .val (.int (2 : Int32)), .val (.int x5), .val (.ref p0), .val (.ref p1), .val (.ref a215)] [(.int (2 : Int32))]))
    refine G.iload H231 at_140 (pc' := 142) rfl rfl ?_
    refine G.icmpYes H231 at_142 (by decide) (by decide) (pc' := 147) rfl ?_
    refine G.iload H231 at_147 (pc' := 149) rfl rfl ?_
    refine G.ifYes H231 at_149 (XT.i0_eq_t cc10) (by decide) (pc' := 184) rfl ?_
    refine G.aload H231 at_184 (pc' := 186) rfl rfl rfl ?_
    have F235 := (Fld.keep F204 K217 nin0)
    have F236 := (Fld.keep F208 K217 nin0)
    have K237 : Keep h0 h211_ [p1, p6, p2] := (Keep.trans (Keep.trans (Keep.trans (Keep.refl h0 [p1, p6, p2]) K179 (allS (Or.inl (List.mem_of_getElem? (i := 0) rfl)) (allS (Or.inl (List.mem_of_getElem? (i := 1) rfl)) all0))) K201 (allS (Or.inl (List.mem_of_getElem? (i := 2) rfl)) (allS (Or.inl (List.mem_of_getElem? (i := 0) rfl)) all0))) K217 all0)
    have F238 := (Exa.keep f11 K237)
    have N239 : p0 ≠ p1 := Exa.ne F238 F229 (by decide)
    have F240 := (Fld.keep f12 K237 (ninS N239 (ninS q31 (ninS q13 nin0))))
    have F241 := (Arv.keep f14 K237 (ninS q15 (ninS q32 (ninS q16 nin0))))
    refine G.callV H231 (m28_isDone V p1 p0 p3 c1 h211_ H231.old F235 F236 F238 F240 F241) (wd231 V) (wd232 V) (nf_sel (wd234 V)) (wd234 V) (wd233 V) (wd32 V) (wd235 V) (by decide) F229 (argsL := []) (rest := []) (W := 0) rfl rfl (lenOf (pd_18) rfl) rfl rfl at_186 (pc' := 189) rfl (by decide) (by decide) (by decide) (by decide) all0 ?_
    intro T242 h242_ v243 s244 H242 Q245
    obtain ⟨rfl, rfl, rfl⟩ := Q245
    show Go p e below _ (T242.setTop (mkF m 189 #[.val (.int x0), .val (.int x1), .val (.int x2), .val (.int x3), .val (.int (2 : Int32)), .val (.int x5), .val (.ref p0), .val (.ref p1), .val (.ref a215)] [(.int (0 : Int32))]))
    refine G.ifNo H242 at_189 (pc' := 192) rfl (by decide) ?_
    refine G.aload H242 at_192 (pc' := 194) rfl rfl rfl ?_
    refine G.callV H242 (m29_isDeparting V p1 h211_ H242.old F235) (wd236 V) (wd237 V) (nf_sel (wd239 V)) (wd239 V) (wd238 V) (wd32 V) (wd240 V) (by decide) F229 (argsL := []) (rest := []) (W := 0) rfl rfl (lenOf (pd_18) rfl) rfl rfl at_194 (pc' := 197) rfl (by decide) (by decide) (by decide) (by decide) all0 ?_
    intro T246 h246_ v247 s248 H246 Q249
    obtain ⟨rfl, rfl, rfl⟩ := Q249
    show Go p e below _ (T246.setTop (mkF m 197 #[.val (.int x0), .val (.int x1), .val (.int x2), .val (.int x3), .val (.int (2 : Int32)), .val (.int x5), .val (.ref p0), .val (.ref p1), .val (.ref a215)] [(.int (0 : Int32))]))
    refine G.ifNo H246 at_197 (pc' := 200) rfl (by decide) ?_
    refine G.aload H246 at_200 (pc' := 202) rfl rfl rfl ?_
    refine G.iconst H246 at_202 (pc' := 203) rfl (v := (0 : Int32)) rfl ?_
    refine G.callV H246 (m30_hasLeft V p1 h211_ H246.old F235) (wd241 V) (wd242 V) (nf_sel (wd244 V)) (wd244 V) (wd243 V) (wd32 V) (wd245 V) (by decide) F229 (argsL := [(.int (0 : Int32))]) (rest := []) (W := 0) rfl rfl (lenOf (pd_19) rfl) rfl rfl at_203 (pc' := 206) rfl (by decide) (by decide) (by decide) (by decide) all0 ?_
    intro T250 h250_ v251 s252 H250 Q253
    obtain ⟨rfl, rfl, rfl⟩ := Q253
    show Go p e below _ (T250.setTop (mkF m 206 #[.val (.int x0), .val (.int x1), .val (.int x2), .val (.int x3), .val (.int (2 : Int32)), .val (.int x5), .val (.ref p0), .val (.ref p1), .val (.ref a215)] [(.int (1 : Int32))]))
    refine G.ifNo H250 at_206 (pc' := 209) rfl (by decide) ?_
    refine G.aload H250 at_209 (pc' := 211) rfl rfl rfl ?_
    refine G.iconst H250 at_211 (pc' := 212) rfl (v := (1 : Int32)) rfl ?_
    refine G.callV H250 (m31_hasLeft V p1 h211_ H250.old F235) (wd241 V) (wd242 V) (nf_sel (wd244 V)) (wd244 V) (wd243 V) (wd32 V) (wd245 V) (by decide) F229 (argsL := [(.int (1 : Int32))]) (rest := []) (W := 0) rfl rfl (lenOf (pd_19) rfl) rfl rfl at_212 (pc' := 215) rfl (by decide) (by decide) (by decide) (by decide) all0 ?_
    intro T254 h254_ v255 s256 H254 Q257
    obtain ⟨rfl, rfl, rfl⟩ := Q257
    show Go p e below _ (T254.setTop (mkF m 215 #[.val (.int x0), .val (.int x1), .val (.int x2), .val (.int x3), .val (.int (2 : Int32)), .val (.int x5), .val (.ref p0), .val (.ref p1), .val (.ref a215)] [(.int (0 : Int32))]))
    refine G.ifNo H254 at_215 (pc' := 218) rfl (by decide) ?_
    refine G.aload H254 at_218 (pc' := 220) rfl rfl rfl ?_
    have F258 := (Fld.keep f17 K237 (ninS N239 (ninS q31 (ninS q13 nin0))))
    have F259 := (Arv.keep f18 K237 (ninS q19 (ninS q33 (ninS q20 nin0))))
    refine G.callV H254 (m33_nextTime V p1 p0 p4 c2 x3 x6 h211_ H254.old F235 F229 F236 F238 F258 F259) (wd246 V) (wd247 V) (nf_sel (wd249 V)) (wd249 V) (wd248 V) (wd32 V) (wd250 V) (by decide) F229 (argsL := []) (rest := []) (W := 0) rfl rfl (lenOf (pd_1) rfl) rfl rfl at_220 (pc' := 223) rfl (by decide) (by decide) (by decide) (by decide) all0 ?_
    intro T260 h260_ v261 s262 H260 Q263
    obtain ⟨rfl, rfl, rfl⟩ := Q263
    show Go p e below _ (T260.setTop (mkF m 223 #[.val (.int x0), .val (.int x1), .val (.int x2), .val (.int x3), .val (.int (2 : Int32)), .val (.int x5), .val (.ref p0), .val (.ref p1), .val (.ref a215)] [(.int x6)]))
    refine G.iloadN H260 at_223 (pc' := 224) rfl rfl ?_
    refine G.iconst H260 at_224 (pc' := 225) rfl (v := (2 : Int32)) rfl ?_
    refine G.iadd H260 at_225 (pc' := 226) rfl ?_
    refine G.icmpNo H260 at_226 (pc' := 229) rfl (XT.ii_ne_f cc21) ?_
    refine G.aload H260 at_229 (pc' := 231) rfl rfl rfl ?_
    refine G.iconst H260 at_231 (pc' := 232) rfl (v := (0 : Int32)) rfl ?_
    refine G.callV H260 (m65_load V a215 a216 c0 h211_ H260.old F222 F223) (wd257 V) (wd258 V) (nf_sel (wd260 V)) (wd260 V) (wd259 V) (wd210 V) (wd261 V) (by decide) F220 (argsL := [(.int (0 : Int32))]) (rest := []) (W := 0) rfl rfl (lenOf (pd_20) rfl) rfl rfl at_232 (pc' := 235) rfl (by decide) (by decide) (by decide) (by decide) all0 ?_
    intro T264 h264_ v265 s266 H264 Q267
    obtain ⟨rfl, rfl, rfl⟩ := Q267
    show Go p e below _ (T264.setTop (mkF m 235 #[.val (.int x0), .val (.int x1), .val (.int x2), .val (.int x3), .val (.int (2 : Int32)), .val (.int x5), .val (.ref p0), .val (.ref p1), .val (.ref a215)] [(.int (2 : Int32))]))
    refine G.iload H264 at_235 (pc' := 237) rfl rfl ?_
    refine G.icmpNo H264 at_237 (pc' := 240) rfl (by decide) ?_
    refine G.iconst H264 at_240 (pc' := 241) rfl (v := (1 : Int32)) rfl ?_
    refine G.goto H264 at_241 (by decide) (pc' := 245) rfl ?_
    exact G.retN H264 (t := .boolean) rfl (by decide) at_245 (so := []) all0 (by decide) (by decide) rfl
  ·
    refine G.aload H at_107 (pc' := 109) rfl rfl rfl ?_
    refine G.iload H at_109 (pc' := 111) rfl rfl ?_
    refine G.callS H (m70_boardSome V p1 p5 p6 c3 h0 H.old f1 f5 g7 f22 f23 f24 f25 f26 g27 o28) (wd194 V) (wd195 V) (wd196 V) (wd197 V) (by decide) (argsL := [(.ref p1), (.int (3 : Int32))]) (rest := []) (W := 0) rfl rfl (lenOf (pd_15) rfl) rfl rfl at_111 (pc' := 114) rfl (by decide) (by decide) (by decide) (by decide) all0 ?_
    intro T268 h268_ v269 s270 H268 Q271
    obtain ⟨a272, a273, k274, rfl, rfl, K275, g276, g277, U278, O279, F280, F281, F282, F283, F284, F285, F286, F287, F288, F289⟩ := Q271
    have na272 : n0 ≤ a272 := Nat.le_trans H.le g276
    have na273 : n0 ≤ a273 := Nat.le_trans H.le (Nat.le_of_lt (Nat.lt_of_le_of_lt g276 g277))
    show Go p e below _ (T268.setTop (mkF m 114 #[.val (.int x0), .val (.int x1), .val (.int x2), .val (.int x3), .val (.int (3 : Int32)), .val (.int x5), .val (.ref p0), .val (.ref p1), .unset] []))
    refine G.aload H268 at_114 (pc' := 116) rfl rfl rfl ?_
    have F290 := (U278 "com/example/passenger_flow_sim/passengerflowsim/simulation/Vehicle" "step" "I" (.int (1 : Int32)) f2 (slot_ne (Or.inl (wd140 V)) (Or.inl (wd181 V)) (by decide) (t := .int) (t' := .int) (by decide) (by decide)))
    have F291 := (U278 "com/example/passenger_flow_sim/passengerflowsim/simulation/Vehicle" "loads" "[I" (.ref p2) f3 (slot_ne (Or.inr (wd47 V)) (Or.inl (wd181 V)) (by decide) (t := (.array .int)) (t' := .int) (by decide) (by decide)))
    have F292 := (Arv.keep f4 K275 (ninS q30 (ninS q29 nin0)))
    refine G.callV H268 (m71_leave V p1 p2 c0 h268_ H268.old F290 F291 F292 F281 g6 (Ne.symm q30) F280 g7) (wd198 V) (wd199 V) (nf_sel (wd201 V)) (wd201 V) (wd200 V) (wd32 V) (wd202 V) (by decide) F280 (argsL := []) (rest := []) (W := 0) rfl rfl (lenOf (pd_2) rfl) rfl rfl at_116 (pc' := 119) rfl (by decide) (by decide) (by decide) (by decide) all0 ?_
    intro T293 h293_ v294 s295 H293 Q296
    obtain ⟨rfl, rfl, K297, U298, F299, F300, F301, F302, F303⟩ := Q296
    show Go p e below _ (T293.setTop (mkF m 119 #[.val (.int x0), .val (.int x1), .val (.int x2), .val (.int x3), .val (.int (3 : Int32)), .val (.int x5), .val (.ref p0), .val (.ref p1), .unset] []))
    refine G.aload H293 at_119 (pc' := 121) rfl rfl rfl ?_
    have F304 := (U298 "com/example/passenger_flow_sim/passengerflowsim/simulation/Vehicle" "trip" "Lcom/example/passenger_flow_sim/passengerflowsim/timetable/Trip;" (.ref p0) (U278 "com/example/passenger_flow_sim/passengerflowsim/simulation/Vehicle" "trip" "Lcom/example/passenger_flow_sim/passengerflowsim/timetable/Trip;" (.ref p0) f8 (slot_ne (Or.inr (wd38 V)) (Or.inl (wd181 V)) (by decide) (t := (.object "com/example/passenger_flow_sim/passengerflowsim/timetable/Trip")) (t' := .int) (by decide) (by decide))) (slot_ne (Or.inr (wd38 V)) (Or.inl (wd140 V)) (by decide) (t := (.object "com/example/passenger_flow_sim/passengerflowsim/timetable/Trip")) (t' := .int) (by decide) (by decide)))
    have K305 : Keep h0 h293_ [p1, p6, p2] := (Keep.trans (Keep.trans (Keep.refl h0 [p1, p6, p2]) K275 (allS (Or.inl (List.mem_of_getElem? (i := 0) rfl)) (allS (Or.inl (List.mem_of_getElem? (i := 1) rfl)) all0))) K297 (allS (Or.inl (List.mem_of_getElem? (i := 2) rfl)) (allS (Or.inl (List.mem_of_getElem? (i := 0) rfl)) all0)))
    have F306 := (Exa.keep f9 K305)
    refine G.callV H293 (m72_loads V p1 p0 p2 c0 h293_ H293.old F304 F301 F306 F299) (wd203 V) (wd204 V) (nf_sel (wd206 V)) (wd206 V) (wd205 V) (wd32 V) (wd207 V) (by decide) F303 (argsL := []) (rest := []) (W := 0) rfl rfl (lenOf (pd_17) rfl) rfl rfl at_121 (pc' := 124) rfl (by decide) (by decide) (by decide) (by decide) all0 ?_
    intro T307 h307_ v308 s309 H307 Q310
    obtain ⟨a311, a312, rfl, rfl, K313, g314, g315, F316, F317, F318, F319, F320⟩ := Q310
    have na311 : n0 ≤ a311 := Nat.le_trans H293.le g314
    have na312 : n0 ≤ a312 := Nat.le_trans H293.le (Nat.le_of_lt (Nat.lt_of_le_of_lt g314 g315))
    show Go p e below _ (T307.setTop (mkF m 124 #[.val (.int x0), .val (.int x1), .val (.int x2), .val (.int x3), .val (.int (3 : Int32)), .val (.int x5), .val (.ref p0), .val (.ref p1), .unset] [(.ref a311)]))
    refine G.astore H307 (L' := #[.val (.int x0), .val (.int x1), .val (.int x2), .val (.int x3), .val (.int (3 : Int32)), .val (.int x5), .val (.ref p0), .val (.ref p1), .val (.ref a311)]) at_124 (pc' := 126) rfl rfl rfl ?_
    refine G.aload H307 at_126 (pc' := 128) rfl rfl rfl ?_
    refine G.callV H307 (m73_linkCount V a311 a312 c0 h307_ H307.old F318 F319) (wd221 V) (wd222 V) (nf_sel (wd224 V)) (wd224 V) (wd223 V) (wd210 V) (wd225 V) (by decide) F316 (argsL := []) (rest := []) (W := 0) rfl rfl (lenOf (pd_1) rfl) rfl rfl at_128 (pc' := 131) rfl (by decide) (by decide) (by decide) (by decide) all0 ?_
    intro T321 h321_ v322 s323 H321 Q324
    obtain ⟨rfl, rfl, rfl⟩ := Q324
    show Go p e below _ (T321.setTop (mkF m 131 #[.val (.int x0), .val (.int x1), .val (.int x2), .val (.int x3), .val (.int (3 : Int32)), .val (.int x5), .val (.ref p0), .val (.ref p1), .val (.ref a311)] [(.int (1 : Int32))]))
    refine G.iconst H321 at_131 (pc' := 132) rfl (v := (1 : Int32)) rfl ?_
    refine G.icmpNo H321 at_132 (pc' := 135) rfl (by decide) ?_
    refine G.aload H321 at_135 (pc' := 137) rfl rfl rfl ?_
    have F325 := (Exa.keep F303 K313)
    have F326 := (Fld.keep F302 K313 nin0)
    refine G.callV H321 (m74_load V p1 h307_ H321.old F326) (wd226 V) (wd227 V) (nf_sel (wd229 V)) (wd229 V) (wd228 V) (wd32 V) (wd230 V) (by decide) F325 (argsL := []) (rest := []) (W := 0) rfl rfl (lenOf (pd_1) rfl) rfl rfl at_137 (pc' := 140) rfl (by decide) (by decide) (by decide) (by decide) all0 ?_
    intro T327 h327_ v328 s329 H327 Q330
    obtain ⟨rfl, rfl, rfl⟩ := Q330
    show Go p e below _ (T327.setTop (mkF m 140 #[.val (.int x0), .val (.int x1), .val (.int x2), .val (.int x3), .val (.int (3 : Int32)), .val (.int x5), .val (.ref p0), .val (.ref p1), .val (.ref a311)] [(.int (3 : Int32))]))
    refine G.iload H327 at_140 (pc' := 142) rfl rfl ?_
    refine G.icmpYes H327 at_142 (by decide) (by decide) (pc' := 147) rfl ?_
    refine G.iload H327 at_147 (pc' := 149) rfl rfl ?_
    refine G.ifYes H327 at_149 (XT.i0_eq_t cc10) (by decide) (pc' := 184) rfl ?_
    refine G.aload H327 at_184 (pc' := 186) rfl rfl rfl ?_
    have F331 := (Fld.keep F300 K313 nin0)
    have F332 := (Fld.keep F304 K313 nin0)
    have K333 : Keep h0 h307_ [p1, p6, p2] := (Keep.trans (Keep.trans (Keep.trans (Keep.refl h0 [p1, p6, p2]) K275 (allS (Or.inl (List.mem_of_getElem? (i := 0) rfl)) (allS (Or.inl (List.mem_of_getElem? (i := 1) rfl)) all0))) K297 (allS (Or.inl (List.mem_of_getElem? (i := 2) rfl)) (allS (Or.inl (List.mem_of_getElem? (i := 0) rfl)) all0))) K313 all0)
    have F334 := (Exa.keep f11 K333)
    have N335 : p0 ≠ p1 := Exa.ne F334 F325 (by decide)
    have F336 := (Fld.keep f12 K333 (ninS N335 (ninS q31 (ninS q13 nin0))))
    have F337 := (Arv.keep f14 K333 (ninS q15 (ninS q32 (ninS q16 nin0))))
    refine G.callV H327 (m28_isDone V p1 p0 p3 c1 h307_ H327.old F331 F332 F334 F336 F337) (wd231 V) (wd232 V) (nf_sel (wd234 V)) (wd234 V) (wd233 V) (wd32 V) (wd235 V) (by decide) F325 (argsL := []) (rest := []) (W := 0) rfl rfl (lenOf (pd_18) rfl) rfl rfl at_186 (pc' := 189) rfl (by decide) (by decide) (by decide) (by decide) all0 ?_
    intro T338 h338_ v339 s340 H338 Q341
    obtain ⟨rfl, rfl, rfl⟩ := Q341
    show Go p e below _ (T338.setTop (mkF m 189 #[.val (.int x0), .val (.int x1), .val (.int x2), .val (.int x3), .val (.int (3 : Int32)), .val (.int x5), .val (.ref p0), .val (.ref p1), .val (.ref a311)] [(.int (0 : Int32))]))
    refine G.ifNo H338 at_189 (pc' := 192) rfl (by decide) ?_
    refine G.aload H338 at_192 (pc' := 194) rfl rfl rfl ?_
    refine G.callV H338 (m29_isDeparting V p1 h307_ H338.old F331) (wd236 V) (wd237 V) (nf_sel (wd239 V)) (wd239 V) (wd238 V) (wd32 V) (wd240 V) (by decide) F325 (argsL := []) (rest := []) (W := 0) rfl rfl (lenOf (pd_18) rfl) rfl rfl at_194 (pc' := 197) rfl (by decide) (by decide) (by decide) (by decide) all0 ?_
    intro T342 h342_ v343 s344 H342 Q345
    obtain ⟨rfl, rfl, rfl⟩ := Q345
    show Go p e below _ (T342.setTop (mkF m 197 #[.val (.int x0), .val (.int x1), .val (.int x2), .val (.int x3), .val (.int (3 : Int32)), .val (.int x5), .val (.ref p0), .val (.ref p1), .val (.ref a311)] [(.int (0 : Int32))]))
    refine G.ifNo H342 at_197 (pc' := 200) rfl (by decide) ?_
    refine G.aload H342 at_200 (pc' := 202) rfl rfl rfl ?_
    refine G.iconst H342 at_202 (pc' := 203) rfl (v := (0 : Int32)) rfl ?_
    refine G.callV H342 (m30_hasLeft V p1 h307_ H342.old F331) (wd241 V) (wd242 V) (nf_sel (wd244 V)) (wd244 V) (wd243 V) (wd32 V) (wd245 V) (by decide) F325 (argsL := [(.int (0 : Int32))]) (rest := []) (W := 0) rfl rfl (lenOf (pd_19) rfl) rfl rfl at_203 (pc' := 206) rfl (by decide) (by decide) (by decide) (by decide) all0 ?_
    intro T346 h346_ v347 s348 H346 Q349
    obtain ⟨rfl, rfl, rfl⟩ := Q349
    show Go p e below _ (T346.setTop (mkF m 206 #[.val (.int x0), .val (.int x1), .val (.int x2), .val (.int x3), .val (.int (3 : Int32)), .val (.int x5), .val (.ref p0), .val (.ref p1), .val (.ref a311)] [(.int (1 : Int32))]))
    refine G.ifNo H346 at_206 (pc' := 209) rfl (by decide) ?_
    refine G.aload H346 at_209 (pc' := 211) rfl rfl rfl ?_
    refine G.iconst H346 at_211 (pc' := 212) rfl (v := (1 : Int32)) rfl ?_
    refine G.callV H346 (m31_hasLeft V p1 h307_ H346.old F331) (wd241 V) (wd242 V) (nf_sel (wd244 V)) (wd244 V) (wd243 V) (wd32 V) (wd245 V) (by decide) F325 (argsL := [(.int (1 : Int32))]) (rest := []) (W := 0) rfl rfl (lenOf (pd_19) rfl) rfl rfl at_212 (pc' := 215) rfl (by decide) (by decide) (by decide) (by decide) all0 ?_
    intro T350 h350_ v351 s352 H350 Q353
    obtain ⟨rfl, rfl, rfl⟩ := Q353
    show Go p e below _ (T350.setTop (mkF m 215 #[.val (.int x0), .val (.int x1), .val (.int x2), .val (.int x3), .val (.int (3 : Int32)), .val (.int x5), .val (.ref p0), .val (.ref p1), .val (.ref a311)] [(.int (0 : Int32))]))
    refine G.ifNo H350 at_215 (pc' := 218) rfl (by decide) ?_
    refine G.aload H350 at_218 (pc' := 220) rfl rfl rfl ?_
    have F354 := (Fld.keep f17 K333 (ninS N335 (ninS q31 (ninS q13 nin0))))
    have F355 := (Arv.keep f18 K333 (ninS q19 (ninS q33 (ninS q20 nin0))))
    refine G.callV H350 (m33_nextTime V p1 p0 p4 c2 x3 x6 h307_ H350.old F331 F325 F332 F334 F354 F355) (wd246 V) (wd247 V) (nf_sel (wd249 V)) (wd249 V) (wd248 V) (wd32 V) (wd250 V) (by decide) F325 (argsL := []) (rest := []) (W := 0) rfl rfl (lenOf (pd_1) rfl) rfl rfl at_220 (pc' := 223) rfl (by decide) (by decide) (by decide) (by decide) all0 ?_
    intro T356 h356_ v357 s358 H356 Q359
    obtain ⟨rfl, rfl, rfl⟩ := Q359
    show Go p e below _ (T356.setTop (mkF m 223 #[.val (.int x0), .val (.int x1), .val (.int x2), .val (.int x3), .val (.int (3 : Int32)), .val (.int x5), .val (.ref p0), .val (.ref p1), .val (.ref a311)] [(.int x6)]))
    refine G.iloadN H356 at_223 (pc' := 224) rfl rfl ?_
    refine G.iconst H356 at_224 (pc' := 225) rfl (v := (2 : Int32)) rfl ?_
    refine G.iadd H356 at_225 (pc' := 226) rfl ?_
    refine G.icmpNo H356 at_226 (pc' := 229) rfl (XT.ii_ne_f cc21) ?_
    refine G.aload H356 at_229 (pc' := 231) rfl rfl rfl ?_
    refine G.iconst H356 at_231 (pc' := 232) rfl (v := (0 : Int32)) rfl ?_
    refine G.callV H356 (m75_load V a311 a312 c0 h307_ H356.old F318 F319) (wd257 V) (wd258 V) (nf_sel (wd260 V)) (wd260 V) (wd259 V) (wd210 V) (wd261 V) (by decide) F316 (argsL := [(.int (0 : Int32))]) (rest := []) (W := 0) rfl rfl (lenOf (pd_20) rfl) rfl rfl at_232 (pc' := 235) rfl (by decide) (by decide) (by decide) (by decide) all0 ?_
    intro T360 h360_ v361 s362 H360 Q363
    obtain ⟨rfl, rfl, rfl⟩ := Q363
    show Go p e below _ (T360.setTop (mkF m 235 #[.val (.int x0), .val (.int x1), .val (.int x2), .val (.int x3), .val (.int (3 : Int32)), .val (.int x5), .val (.ref p0), .val (.ref p1), .val (.ref a311)] [(.int (3 : Int32))]))
    refine G.iload H360 at_235 (pc' := 237) rfl rfl ?_
    refine G.icmpNo H360 at_237 (pc' := 240) rfl (by decide) ?_
    refine G.iconst H360 at_240 (pc' := 241) rfl (v := (1 : Int32)) rfl ?_
    refine G.goto H360 at_241 (by decide) (pc' := 245) rfl ?_
    exact G.retN H360 (t := .boolean) rfl (by decide) at_245 (so := []) all0 (by decide) (by decide) rfl
set_option maxRecDepth 65536 in
set_option maxHeartbeats 40000000 in
theorem cut77_21 (V : Env1 Z a0 n0 uu0 uu1 uu2 uu3 uu4 uu5 uu6 uu7 uu8 uu9) (x0 : Int32) (x1 : Int32) (x2 : Int32) (x3 : Int32) (x4 : Int32) (x5 : Int32) (H : Hs p l e room_1 s m as' below meth c Z a0 [] False x.cls n0 code maxLocals ret x.name T h0 0 0 []) (bo_x5 : x5 = 0 ∨ x5 = 1) (cc1 : ¬ (x3 + (1 : Int32)) < x3) (cc2 : ¬ (x3 + (3 : Int32)) < (x3 + (2 : Int32))) (cc3 : ¬ (x3 + (2 : Int32)) < (x3 + (1 : Int32))) (cc4 : x5 = (0 : Int32)) (sq5 : x4 = (0 : Int32) ∨ x4 = (1 : Int32) ∨ x4 = (2 : Int32) ∨ x4 = (3 : Int32)) :
    Go p e below (FinP s below Z [] False n0 room_1.cells room_1.slots (fun v h so => v = some (.int 1))) (T.setTop (mkF m 21 #[.val (.int x0), .val (.int x1), .val (.int x2), .val (.int x3), .val (.int x4), .unset, .unset, .unset, .unset] [(.int x5)])) := by
  refine G.istore H (L' := #[.val (.int x0), .val (.int x1), .val (.int x2), .val (.int x3), .val (.int x4), .val (.int x5), .unset, .unset, .unset]) at_21 (pc' := 23) rfl rfl ?_
  refine G.new H (wd1 V) (wd2 V) (wd3 V) at_23 (pc' := 26) rfl (by decide) (by decide) ?_
  intro T1 h1_ a2 ga2 H1 E3 A4 D5
  have na2 := H.nle ga2
  refine G.dup H1 at_26 (pc' := 27) rfl rfl ?_
  refine G.aconstNull H1 at_27 (pc' := 28) rfl ?_
  refine G.aconstNull H1 at_28 (pc' := 29) rfl ?_
  refine G.iconst H1 at_29 (pc' := 30) rfl (v := (2 : Int32)) rfl ?_
  refine G.newP H1 (aty := .int) (wd4 V) at_30 (pc' := 32) rfl (by decide) (cap := 2) (by decide) (by decide) (by decide) (by decide) (vs := [(.int (0 : Int32)), (.int (0 : Int32))]) rfl (ad := "[I") rfl ?_
  intro T6 h6_ a7 k10 ga7 H6 E8 A9 X11
  have na7 := H1.nle ga7
  replace A9 : Arv Z h6_ a7 k10 .int (2 : Int32) [(.int (0 : Int32)), (.int (0 : Int32))] (.int 0) := A9
  refine G.dup H6 at_32 (pc' := 33) rfl rfl ?_
  refine G.iconst H6 at_33 (pc' := 34) rfl (v := (0 : Int32)) rfl ?_
  refine G.iconst H6 at_34 (pc' := 35) rfl (v := (0 : Int32)) rfl ?_
  refine G.stI H6 A9 (by decide) (i := 0) rfl (Nat.le_of_ble_eq_true rfl) na7 at_35 (pc' := 36) rfl ?_
  intro T12 h12_ H12 W13 A14
  replace A14 : Arv Z h12_ a7 k10 .int (2 : Int32) [(.int (0 : Int32)), (.int (0 : Int32))] (.int 0) := A14
  refine G.dup H12 at_36 (pc' := 37) rfl rfl ?_
  refine G.iconst H12 at_37 (pc' := 38) rfl (v := (1 : Int32)) rfl ?_
  refine G.iconst H12 at_38 (pc' := 39) rfl (v := (1 : Int32)) rfl ?_
  refine G.stI H12 A14 (by decide) (i := 1) rfl (Nat.le_of_ble_eq_true rfl) na7 at_39 (pc' := 40) rfl ?_
  intro T15 h15_ H15 W16 A17
  replace A17 : Arv Z h15_ a7 k10 .int (2 : Int32) [(.int (0 : Int32)), (.int (1 : Int32))] (.int 0) := A17
  refine G.iconst H15 at_40 (pc' := 41) rfl (v := (2 : Int32)) rfl ?_
  refine G.newP H15 (aty := .int) (wd4 V) at_41 (pc' := 43) rfl (by decide) (cap := 2) (by decide) (by decide) (by decide) (by decide) (vs := [(.int (0 : Int32)), (.int (0 : Int32))]) rfl (ad := "[I") rfl ?_
  intro T18 h18_ a19 k22 ga19 H18 E20 A21 X23
  have na19 := H15.nle ga19
  replace A21 : Arv Z h18_ a19 k22 .int (2 : Int32) [(.int (0 : Int32)), (.int (0 : Int32))] (.int 0) := A21
  refine G.dup H18 at_43 (pc' := 44) rfl rfl ?_
  refine G.iconst H18 at_44 (pc' := 45) rfl (v := (0 : Int32)) rfl ?_
  refine G.iloadN H18 at_45 (pc' := 46) rfl rfl ?_
  refine G.stI H18 A21 (by decide) (i := 0) rfl (Nat.le_of_ble_eq_true rfl) na19 at_46 (pc' := 47) rfl ?_
  intro T24 h24_ H24 W25 A26
  replace A26 : Arv Z h24_ a19 k22 .int (2 : Int32) [(.int x3), (.int (0 : Int32))] (.int 0) := A26
  refine G.dup H24 at_47 (pc' := 48) rfl rfl ?_
  refine G.iconst H24 at_48 (pc' := 49) rfl (v := (1 : Int32)) rfl ?_
  refine G.iloadN H24 at_49 (pc' := 50) rfl rfl ?_
  refine G.iconst H24 at_50 (pc' := 51) rfl (v := (2 : Int32)) rfl ?_
  refine G.iadd H24 at_51 (pc' := 52) rfl ?_
  refine G.stI H24 A26 (by decide) (i := 1) rfl (Nat.le_of_ble_eq_true rfl) na19 at_52 (pc' := 53) rfl ?_
  intro T27 h27_ H27 W28 A29
  replace A29 : Arv Z h27_ a19 k22 .int (2 : Int32) [(.int x3), (.int (x3 + (2 : Int32)))] (.int 0) := A29
  refine G.iconst H27 at_53 (pc' := 54) rfl (v := (2 : Int32)) rfl ?_
  refine G.newP H27 (aty := .int) (wd4 V) at_54 (pc' := 56) rfl (by decide) (cap := 2) (by decide) (by decide) (by decide) (by decide) (vs := [(.int (0 : Int32)), (.int (0 : Int32))]) rfl (ad := "[I") rfl ?_
  intro T30 h30_ a31 k34 ga31 H30 E32 A33 X35
  have na31 := H27.nle ga31
  replace A33 : Arv Z h30_ a31 k34 .int (2 : Int32) [(.int (0 : Int32)), (.int (0 : Int32))] (.int 0) := A33
  refine G.dup H30 at_56 (pc' := 57) rfl rfl ?_
  refine G.iconst H30 at_57 (pc' := 58) rfl (v := (0 : Int32)) rfl ?_
  refine G.iloadN H30 at_58 (pc' := 59) rfl rfl ?_
  refine G.iconst H30 at_59 (pc' := 60) rfl (v := (1 : Int32)) rfl ?_
  refine G.iadd H30 at_60 (pc' := 61) rfl ?_
  refine G.stI H30 A33 (by decide) (i := 0) rfl (Nat.le_of_ble_eq_true rfl) na31 at_61 (pc' := 62) rfl ?_
  intro T36 h36_ H36 W37 A38
  replace A38 : Arv Z h36_ a31 k34 .int (2 : Int32) [(.int (x3 + (1 : Int32))), (.int (0 : Int32))] (.int 0) := A38
  refine G.dup H36 at_62 (pc' := 63) rfl rfl ?_
  refine G.iconst H36 at_63 (pc' := 64) rfl (v := (1 : Int32)) rfl ?_
  refine G.iloadN H36 at_64 (pc' := 65) rfl rfl ?_
  refine G.iconst H36 at_65 (pc' := 66) rfl (v := (3 : Int32)) rfl ?_
  refine G.iadd H36 at_66 (pc' := 67) rfl ?_
  refine G.stI H36 A38 (by decide) (i := 1) rfl (Nat.le_of_ble_eq_true rfl) na31 at_67 (pc' := 68) rfl ?_
  intro T39 h39_ H39 W40 A41
  replace A41 : Arv Z h39_ a31 k34 .int (2 : Int32) [(.int (x3 + (1 : Int32))), (.int (x3 + (3 : Int32)))] (.int 0) := A41
  have K42 : Keep h15_ h27_ [] := (Keep.wr (Keep.wr (Keep.ext (Keep.refl h15_ []) E20) W25 (Or.inr (Nat.le_of_eq ga19.symm))) W28 (Or.inr (Nat.le_of_eq ga19.symm)))
  have K43 : Keep h15_ h39_ [] := (Keep.wr (Keep.wr (Keep.ext (Keep.wr (Keep.wr (Keep.ext (Keep.refl h15_ []) E20) W25 (Or.inr (Nat.le_of_eq ga19.symm))) W28 (Or.inr (Nat.le_of_eq ga19.symm))) E32) W37 (Or.inr (Nat.le_trans K42.1 (Nat.le_of_eq ga31.symm)))) W40 (Or.inr (Nat.le_trans K42.1 (Nat.le_of_eq ga31.symm))))
  have F44 := (Arv.keep A17 K43 nin0)
  have K45 : Keep h27_ h39_ [] := (Keep.wr (Keep.wr (Keep.ext (Keep.refl h27_ []) E32) W37 (Or.inr (Nat.le_of_eq ga31.symm))) W40 (Or.inr (Nat.le_of_eq ga31.symm)))
  have F46 := (Arv.keep A29 K45 nin0)
  have K47 : Keep h1_ h15_ [] := (Keep.wr (Keep.wr (Keep.ext (Keep.refl h1_ []) E8) W13 (Or.inr (Nat.le_of_eq ga7.symm))) W16 (Or.inr (Nat.le_of_eq ga7.symm)))
  have K48 : Keep h1_ h27_ [] := (Keep.wr (Keep.wr (Keep.ext (Keep.wr (Keep.wr (Keep.ext (Keep.refl h1_ []) E8) W13 (Or.inr (Nat.le_of_eq ga7.symm))) W16 (Or.inr (Nat.le_of_eq ga7.symm))) E20) W25 (Or.inr (Nat.le_trans K47.1 (Nat.le_of_eq ga19.symm)))) W28 (Or.inr (Nat.le_trans K47.1 (Nat.le_of_eq ga19.symm))))
  have K49 : Keep h1_ h39_ [] := (Keep.wr (Keep.wr (Keep.ext (Keep.wr (Keep.wr (Keep.ext (Keep.wr (Keep.wr (Keep.ext (Keep.refl h1_ []) E8) W13 (Or.inr (Nat.le_of_eq ga7.symm))) W16 (Or.inr (Nat.le_of_eq ga7.symm))) E20) W25 (Or.inr (Nat.le_trans K47.1 (Nat.le_of_eq ga19.symm)))) W28 (Or.inr (Nat.le_trans K47.1 (Nat.le_of_eq ga19.symm)))) E32) W37 (Or.inr (Nat.le_trans K48.1 (Nat.le_of_eq ga31.symm)))) W40 (Or.inr (Nat.le_trans K48.1 (Nat.le_of_eq ga31.symm))))
  have F50 := (Exa.keep A4 K49)
  have F51 : Fld Z h1_ a2 "com/example/passenger_flow_sim/passengerflowsim/timetable/Trip" "id" "Ljava/lang/String;" .null := D5 (Or.inr (wd12 V)) (ty := (.object "java/lang/String")) (by decide)
  have F52 := (Fld.keep F51 K49 nin0)
  have F53 : Fld Z h1_ a2 "com/example/passenger_flow_sim/passengerflowsim/timetable/Trip" "routeId" "Ljava/lang/String;" .null := D5 (Or.inr (wd14 V)) (ty := (.object "java/lang/String")) (by decide)
  have F54 := (Fld.keep F53 K49 nin0)
  have K55 : Keep h6_ h15_ [a7] := (Keep.wr (Keep.wr (Keep.refl h6_ [a7]) W13 (Or.inl (List.mem_of_getElem? (i := 0) rfl))) W16 (Or.inl (List.mem_of_getElem? (i := 0) rfl)))
  have K56 : Keep h6_ h27_ [a7] := (Keep.wr (Keep.wr (Keep.ext (Keep.wr (Keep.wr (Keep.refl h6_ [a7]) W13 (Or.inl (List.mem_of_getElem? (i := 0) rfl))) W16 (Or.inl (List.mem_of_getElem? (i := 0) rfl))) E20) W25 (Or.inr (Nat.le_trans K55.1 (Nat.le_of_eq ga19.symm)))) W28 (Or.inr (Nat.le_trans K55.1 (Nat.le_of_eq ga19.symm))))
  have K57 : Keep h6_ h39_ [a7] := (Keep.wr (Keep.wr (Keep.ext (Keep.wr (Keep.wr (Keep.ext (Keep.wr (Keep.wr (Keep.refl h6_ [a7]) W13 (Or.inl (List.mem_of_getElem? (i := 0) rfl))) W16 (Or.inl (List.mem_of_getElem? (i := 0) rfl))) E20) W25 (Or.inr (Nat.le_trans K55.1 (Nat.le_of_eq ga19.symm)))) W28 (Or.inr (Nat.le_trans K55.1 (Nat.le_of_eq ga19.symm)))) E32) W37 (Or.inr (Nat.le_trans K56.1 (Nat.le_of_eq ga31.symm)))) W40 (Or.inr (Nat.le_trans K56.1 (Nat.le_of_eq ga31.symm))))
  have F58 := (Exa.keep X11 K57)
  have N59 : a7 ≠ a2 := Ne.symm (Exa.neArv F50 F44 (wd2 V))
  have F60 : Fld Z h1_ a2 "com/example/passenger_flow_sim/passengerflowsim/timetable/Trip" "stops" "[I" .null := D5 (Or.inr (wd25 V)) (ty := (.array .int)) (by decide)
  have F61 := (Fld.keep F60 K49 nin0)
  have K62 : Keep h18_ h27_ [a19] := (Keep.wr (Keep.wr (Keep.refl h18_ [a19]) W25 (Or.inl (List.mem_of_getElem? (i := 0) rfl))) W28 (Or.inl (List.mem_of_getElem? (i := 0) rfl)))
  have K63 : Keep h18_ h39_ [a19] := (Keep.wr (Keep.wr (Keep.ext (Keep.wr (Keep.wr (Keep.refl h18_ [a19]) W25 (Or.inl (List.mem_of_getElem? (i := 0) rfl))) W28 (Or.inl (List.mem_of_getElem? (i := 0) rfl))) E32) W37 (Or.inr (Nat.le_trans K62.1 (Nat.le_of_eq ga31.symm)))) W40 (Or.inr (Nat.le_trans K62.1 (Nat.le_of_eq ga31.symm))))
  have F64 := (Exa.keep X23 K63)
  have N65 : a19 ≠ a2 := Ne.symm (Exa.neArv F50 F46 (wd2 V))
  have F66 : Fld Z h1_ a2 "com/example/passenger_flow_sim/passengerflowsim/timetable/Trip" "arrivals" "[I" .null := D5 (Or.inr (wd27 V)) (ty := (.array .int)) (by decide)
  have F67 := (Fld.keep F66 K49 nin0)
  have K68 : Keep h30_ h39_ [a31] := (Keep.wr (Keep.wr (Keep.refl h30_ [a31]) W37 (Or.inl (List.mem_of_getElem? (i := 0) rfl))) W40 (Or.inl (List.mem_of_getElem? (i := 0) rfl)))
  have F69 := (Exa.keep X35 K68)
  have N70 : a31 ≠ a2 := Ne.symm (Exa.neArv F50 A41 (wd2 V))
  have F71 : Fld Z h1_ a2 "com/example/passenger_flow_sim/passengerflowsim/timetable/Trip" "departures" "[I" .null := D5 (Or.inr (wd29 V)) (ty := (.array .int)) (by decide)
  have F72 := (Fld.keep F71 K49 nin0)
  refine G.callI H39 (m1_init V a2 a7 a19 a31 k10 k22 x3 (x3 + (2 : Int32)) k34 (x3 + (1 : Int32)) (x3 + (3 : Int32)) h39_ H39.old F44 F46 A41 cc1 cc2 cc3 F50 F52 na2 F54 F58 N59 F61 F64 N65 F67 F69 N70 F72) rfl (wd5 V) (wd6 V) (wd3 V) (wd7 V) (by decide) (a := a2) (argsL := [.null, .null, (.ref a7), (.ref a19), (.ref a31)]) (rest := [(.ref a2)]) (W := 1) rfl rfl (lenOf (pd_0) rfl) rfl rfl at_68 (pc' := 71) rfl (by decide) (by decide) (by decide) (by decide) all0 ?_
  intro T73 h73_ v74 s75 H73 Q76
  obtain ⟨a77, a78, a79, rfl, rfl, K80, g81, g82, g83, U84, F85, F86, F87, F88, F89, F90, F91, F92, F93, F94, F95, F96⟩ := Q76
  have na77 : n0 ≤ a77 := Nat.le_trans H39.le g81
  have na78 : n0 ≤ a78 := Nat.le_trans H39.le (Nat.le_of_lt (Nat.lt_of_le_of_lt g81 g82))
  have na79 : n0 ≤ a79 := Nat.le_trans H39.le (Nat.le_of_lt (Nat.lt_of_le_of_lt (Nat.le_of_lt (Nat.lt_of_le_of_lt g81 g82)) g83))
  show Go p e below _ (T73.setTop (mkF m 71 #[.val (.int x0), .val (.int x1), .val (.int x2), .val (.int x3), .val (.int x4), .val (.int x5), .unset, .unset, .unset] [(.ref a2)]))
  refine G.astore H73 (L' := #[.val (.int x0), .val (.int x1), .val (.int x2), .val (.int x3), .val (.int x4), .val (.int x5), .val (.ref a2), .unset, .unset]) at_71 (pc' := 73) rfl rfl rfl ?_
  refine G.new H73 (wd30 V) (wd31 V) (wd32 V) at_73 (pc' := 76) rfl (by decide) (by decide) ?_
  intro T97 h97_ a98 ga98 H97 E99 A100 D101
  have na98 := H73.nle ga98
  refine G.dup H97 at_76 (pc' := 77) rfl rfl ?_
  refine G.aload H97 at_77 (pc' := 79) rfl rfl rfl ?_
  refine G.iloadN H97 at_79 (pc' := 80) rfl rfl ?_
  have F102 : Fld Z h97_ a98 "com/example/passenger_flow_sim/passengerflowsim/simulation/Vehicle" "trip" "Lcom/example/passenger_flow_sim/passengerflowsim/timetable/Trip;" .null := D101 (Or.inr (wd38 V)) (ty := (.object "com/example/passenger_flow_sim/passengerflowsim/timetable/Trip")) (by decide)
  have F103 : Fld Z h97_ a98 "com/example/passenger_flow_sim/passengerflowsim/simulation/Vehicle" "order" "I" (.int (0 : Int32)) := D101 (Or.inr (wd40 V)) (ty := .int) (by decide)
  have F104 := (Exa.ext E99 F85)
  have F105 := (Fld.ext E99 F88)
  have F106 := (Arv.ext F91 E99)
  have N107 : a77 ≠ a98 := Ne.symm (Exa.neArv A100 F106 (wd31 V))
  have F108 : Fld Z h97_ a98 "com/example/passenger_flow_sim/passengerflowsim/simulation/Vehicle" "loads" "[I" .null := D101 (Or.inr (wd47 V)) (ty := (.array .int)) (by decide)
  have F109 : Fld Z h97_ a98 "com/example/passenger_flow_sim/passengerflowsim/simulation/Vehicle" "waiting" "Ljava/util/List;" .null := D101 (Or.inr (wd131 V)) (ty := (.object "java/util/List")) (by decide)
  have F110 : Fld Z h97_ a98 "com/example/passenger_flow_sim/passengerflowsim/simulation/Vehicle" "alighting" "Ljava/util/List;" .null := D101 (Or.inr (wd133 V)) (ty := (.object "java/util/List")) (by decide)
  refine G.callI H97 (m12_init V a98 a2 x2 a77 k10 h97_ H97.old A100 F102 na98 F103 F104 F105 F106 N107 F108 F109 F110) rfl (wd33 V) (wd34 V) (wd32 V) (wd35 V) (by decide) (a := a98) (argsL := [(.ref a2), (.int x2)]) (rest := [(.ref a98)]) (W := 1) rfl rfl (lenOf (pd_9) rfl) rfl rfl at_80 (pc' := 83) rfl (by decide) (by decide) (by decide) (by decide) all0 ?_
  intro T111 h111_ v112 s113 H111 Q114
  obtain ⟨a115, a116, a117, a118, a119, k120, k121, k122, rfl, rfl, K123, g124, g125, g126, g127, g128, U129, O130, O131, F132, F133, F134, F135, F136, F137, F138, F139, F140, F141, F142, F143, F144, F145, F146, F147, F148, F149, F150, F151⟩ := Q114
  have na115 : n0 ≤ a115 := Nat.le_trans H97.le g124
  have na116 : n0 ≤ a116 := Nat.le_trans H97.le (Nat.le_of_lt (Nat.lt_of_le_of_lt g124 g125))
  have na117 : n0 ≤ a117 := Nat.le_trans H97.le (Nat.le_of_lt (Nat.lt_of_le_of_lt (Nat.le_of_lt (Nat.lt_of_le_of_lt g124 g125)) g126))
  have na118 : n0 ≤ a118 := Nat.le_trans H97.le (Nat.le_of_lt (Nat.lt_of_le_of_lt (Nat.le_of_lt (Nat.lt_of_le_of_lt (Nat.le_of_lt (Nat.lt_of_le_of_lt g124 g125)) g126)) g127))
  have na119 : n0 ≤ a119 := Nat.le_trans H97.le (Nat.le_of_lt (Nat.lt_of_le_of_lt (Nat.le_of_lt (Nat.lt_of_le_of_lt (Nat.le_of_lt (Nat.lt_of_le_of_lt (Nat.le_of_lt (Nat.lt_of_le_of_lt g124 g125)) g126)) g127)) g128))
  show Go p e below _ (T111.setTop (mkF m 83 #[.val (.int x0), .val (.int x1), .val (.int x2), .val (.int x3), .val (.int x4), .val (.int x5), .val (.ref a2), .unset, .unset] [(.ref a98)]))
  refine G.astore H111 (L' := #[.val (.int x0), .val (.int x1), .val (.int x2), .val (.int x3), .val (.int x4), .val (.int x5), .val (.ref a2), .val (.ref a98), .unset]) at_83 (pc' := 85) rfl rfl rfl ?_
  refine G.aload H111 at_85 (pc' := 87) rfl rfl rfl ?_
  have F152 : Fld Z h97_ a98 "com/example/passenger_flow_sim/passengerflowsim/simulation/Vehicle" "step" "I" (.int (0 : Int32)) := D101 (Or.inl (wd140 V)) (ty := .int) (by decide)
  have F153 := (U129 "com/example/passenger_flow_sim/passengerflowsim/simulation/Vehicle" "step" "I" (.int (0 : Int32)) F152 (slot_ne (Or.inl (wd140 V)) (Or.inr (wd38 V)) (by decide) (t := .int) (t' := (.object "com/example/passenger_flow_sim/passengerflowsim/timetable/Trip")) (by decide) (by decide)) (slot_ne (Or.inl (wd140 V)) (Or.inr (wd40 V)) (by decide) (t := .int) (t' := .int) (by decide) (by decide)) (slot_ne (Or.inl (wd140 V)) (Or.inr (wd47 V)) (by decide) (t := .int) (t' := (.array .int)) (by decide) (by decide)) (slot_ne (Or.inl (wd140 V)) (Or.inr (wd131 V)) (by decide) (t := .int) (t' := (.object "java/util/List")) (by decide) (by decide)) (slot_ne (Or.inl (wd140 V)) (Or.inr (wd133 V)) (by decide) (t := .int) (t' := (.object "java/util/List")) (by decide) (by decide)))
  have F154 : Fld Z h97_ a98 "com/example/passenger_flow_sim/passengerflowsim/simulation/Vehicle" "load" "I" (.int (0 : Int32)) := D101 (Or.inl (wd181 V)) (ty := .int) (by decide)
  have F155 := (U129 "com/example/passenger_flow_sim/passengerflowsim/simulation/Vehicle" "load" "I" (.int (0 : Int32)) F154 (slot_ne (Or.inl (wd181 V)) (Or.inr (wd38 V)) (by decide) (t := .int) (t' := (.object "com/example/passenger_flow_sim/passengerflowsim/timetable/Trip")) (by decide) (by decide)) (slot_ne (Or.inl (wd181 V)) (Or.inr (wd40 V)) (by decide) (t := .int) (t' := .int) (by decide) (by decide)) (slot_ne (Or.inl (wd181 V)) (Or.inr (wd47 V)) (by decide) (t := .int) (t' := (.array .int)) (by decide) (by decide)) (slot_ne (Or.inl (wd181 V)) (Or.inr (wd131 V)) (by decide) (t := .int) (t' := (.object "java/util/List")) (by decide) (by decide)) (slot_ne (Or.inl (wd181 V)) (Or.inr (wd133 V)) (by decide) (t := .int) (t' := (.object "java/util/List")) (by decide) (by decide)))
  have N156 : a98 ≠ a119 := Exa.neArv F132 F150 (wd31 V)
  refine G.callV H111 (m21_arrive V a98 a118 a119 k122 h111_ H111.old F137 F153 F146 F148 F149 F150 na119 F155 N156 F132 na98) (wd134 V) (wd135 V) (nf_sel (wd137 V)) (wd137 V) (wd136 V) (wd32 V) (wd138 V) (by decide) F132 (argsL := []) (rest := []) (W := 0) rfl rfl (lenOf (pd_13) rfl) rfl rfl at_87 (pc' := 90) rfl (by decide) (by decide) (by decide) (by decide) all0 ?_
  intro T157 h157_ v158 s159 H157 Q160
  obtain ⟨rfl, rfl, K161, U162, F163, F164, F165, F166, F167⟩ := Q160
  show Go p e below _ (T157.setTop (mkF m 90 #[.val (.int x0), .val (.int x1), .val (.int x2), .val (.int x3), .val (.int x4), .val (.int x5), .val (.ref a2), .val (.ref a98), .unset] [(.ref uu1)]))
  refine G.pop H157 at_90 (pc' := 91) rfl rfl ?_
  refine G.iload H157 at_91 (pc' := 93) rfl rfl ?_
  refine G.ifYes H157 at_93 (XT.i0_eq_t cc4) (by decide) (pc' := 107) rfl ?_
  have F168 := (U162 "com/example/passenger_flow_sim/passengerflowsim/simulation/Vehicle" "loads" "[I" (.ref a115) F135 (slot_ne (Or.inr (wd47 V)) (Or.inl (wd181 V)) (by decide) (t := (.array .int)) (t' := .int) (by decide) (by decide)) (slot_ne (Or.inr (wd47 V)) (Or.inl (wd140 V)) (by decide) (t := (.array .int)) (t' := .int) (by decide) (by decide)))
  have N169 : a115 ≠ a98 := (Ne.symm (Nat.ne_of_lt (Nat.lt_of_lt_of_le A100.lt g124)))
  have N170 : a115 ≠ a119 := (Nat.ne_of_lt (Nat.lt_trans (Nat.lt_trans (Nat.lt_trans g125 g126) g127) g128))
  have F171 := (Arv.keep F138 K161 (ninS N170 (ninS N169 nin0)))
  have F172 := (U162 "com/example/passenger_flow_sim/passengerflowsim/simulation/Vehicle" "trip" "Lcom/example/passenger_flow_sim/passengerflowsim/timetable/Trip;" (.ref a2) F133 (slot_ne (Or.inr (wd38 V)) (Or.inl (wd181 V)) (by decide) (t := (.object "com/example/passenger_flow_sim/passengerflowsim/timetable/Trip")) (t' := .int) (by decide) (by decide)) (slot_ne (Or.inr (wd38 V)) (Or.inl (wd140 V)) (by decide) (t := (.object "com/example/passenger_flow_sim/passengerflowsim/timetable/Trip")) (t' := .int) (by decide) (by decide)))
  have F173 := (Exa.keep F139 K161)
  have K174 : Keep h97_ h157_ [a98] := (Keep.trans (Keep.trans (Keep.refl h97_ [a98]) K123 (allS (Or.inl (List.mem_of_getElem? (i := 0) rfl)) all0)) K161 (allS (Or.inr (Nat.le_of_lt (Nat.lt_of_le_of_lt (Nat.le_of_lt (Nat.lt_of_le_of_lt (Nat.le_of_lt (Nat.lt_of_le_of_lt (Nat.le_of_lt (Nat.lt_of_le_of_lt g124 g125)) g126)) g127)) g128))) (allS (Or.inl (List.mem_of_getElem? (i := 0) rfl)) all0)))
  have F175 := (Exa.keep F104 K174)
  have N176 : a2 ≠ a98 := Exa.ne F175 F167 (by decide)
  have F177 := (Fld.keep F105 K174 (ninS N176 nin0))
  have N178 : a2 ≠ a115 := Exa.neArv F175 F171 (wd2 V)
  have F179 := (Arv.keep F106 K174 (ninS N107 nin0))
  have K180 : Keep h73_ h97_ [] := (Keep.ext (Keep.refl h73_ []) E99)
  have N181 : a77 ≠ a115 := (Nat.ne_of_lt (Nat.lt_of_lt_of_le (Nat.lt_of_lt_of_le F91.lt K180.1) g124))
  have K182 : Keep h73_ h157_ [] := (Keep.trans (Keep.trans (Keep.ext (Keep.refl h73_ []) E99) K123 (allS (Or.inr (Nat.le_of_eq ga98.symm)) all0)) K161 (allS (Or.inr (Nat.le_trans K180.1 (Nat.le_of_lt (Nat.lt_of_le_of_lt (Nat.le_of_lt (Nat.lt_of_le_of_lt (Nat.le_of_lt (Nat.lt_of_le_of_lt (Nat.le_of_lt (Nat.lt_of_le_of_lt g124 g125)) g126)) g127)) g128)))) (allS (Or.inr (Nat.le_of_eq ga98.symm)) all0)))
  have F183 := (Fld.keep F89 K182 nin0)
  have F184 := (Arv.keep F93 K182 nin0)
  have N185 : a78 ≠ a98 := Ne.symm (Exa.neArv F167 F184 (wd31 V))
  have N186 : a78 ≠ a115 := (Nat.ne_of_lt (Nat.lt_of_lt_of_le (Nat.lt_of_lt_of_le F93.lt K180.1) g124))
  have F187 := (Exa.keep F146 K161)
  have N188 : a118 ≠ a98 := Exa.ne F187 F167 (by decide)
  have N189 : a118 ≠ a119 := Exa.neArv F187 F163 (wd49 V)
  have F190 := (Fld.keep F148 K161 (ninS N189 (ninS N188 nin0)))
  have F191 := (Fld.keep F149 K161 (ninS N189 (ninS N188 nin0)))
  have N192 : a2 ≠ a119 := Exa.neArv F175 F163 (wd2 V)
  have N193 : a77 ≠ a119 := arv_tyne F179 F163 (by decide)
  have N194 : a78 ≠ a119 := arv_tyne F184 F163 (by decide)
  exact cut76_107 V x0 x1 x2 x3 x4 x5 a2 a98 a115 k120 a77 k10 a78 k22 (x3 + (2 : Int32)) a118 a119 k122 ((H157.less all0).mono (C' := 17) (S' := 45) (by decide) (by decide)) sq5 F167 F165 F168 F171 F166 na115 na98 F172 F173 cc4 F175 F177 N178 F179 N107 N181 F183 F184 N185 N186 rfl F164 F187 F190 F191 F163 na119 O131 N170 N169 N192 N193 N194
set_option maxRecDepth 65536 in
set_option maxHeartbeats 40000000 in
theorem m78_set (V : Env1 Z a0 n0 uu0 uu1 uu2 uu3 uu4 uu5 uu6 uu7 uu8 uu9) (p0 : Addr) (p1 : Addr) (c0 : ClassId) (h0 : Heap) (hO : Old Z n0 h0) (f0 : Fld Z h0 p0 "java/util/ArrayList" "size" "I" (.int (2 : Int32))) (f1 : Exa Z h0 p0 "java/util/ArrayList") (f2 : Fld Z h0 p0 "java/util/ArrayList" "elementData" "[Ljava/lang/Object;" (.ref p1)) (f3 : Arv Z h0 p1 c0 (.object "java/lang/Object") (2 : Int32) [.null, .null] .null) (g4 : n0 ≤ p1) :
    Met Z a0 [] False n0 l (⟨"java/util/ArrayList", "set", "(ILjava/lang/Object;)Ljava/lang/Object;"⟩ : MethodName) jdk_38_method_23_code 4 (Option.some (FieldType.object "java/lang/Object")) ({ frames := 2, cells := 0, slots := 0, locals := 27 } : Room) #[(.ref p0), (.int (1 : Int32)), .null] h0 [] (fun v h so => (v = some .null ∧ so = [] ∧ Keep h0 h [p1] ∧ Arv Z h p1 c0 (.object "java/lang/Object") (2 : Int32) [.null, .null] .null)) := by
  refine Met.of (EWl V) (by first | decide +kernel | rfl) hO (L0 := #[.val (.ref p0), .val (.int (1 : Int32)), .val .null, .unset]) rfl ?_
  intro p e s m below meth c T H
  show Go p e below _ (T.setTop (mkF m 0 #[.val (.ref p0), .val (.int (1 : Int32)), .val .null, .unset] []))
  refine G.iloadN H D8_0 (pc' := 1) rfl rfl ?_
  refine G.aloadN H D8_1 (pc' := 2) rfl rfl rfl ?_
  refine G.getF H (wd100 V) Via.refl f0 D8_2 (pc' := 5) rfl ?_
  intro T1 H2
  refine G.callS H2 (m36_checkIndex V h0 H2.old) (wd153 V) (wd154 V) (wd155 V) (wd156 V) (by decide) (argsL := [(.int (1 : Int32)), (.int (2 : Int32))]) (rest := []) (W := 0) rfl rfl (lenOf (pd_6) rfl) rfl rfl D8_5 (pc' := 8) rfl (by decide) (by decide) (by decide) (by decide) all0 ?_
  intro T3 h3_ v4 s5 H3 Q6
  obtain ⟨rfl, rfl, rfl⟩ := Q6
  show Go p e below _ (T3.setTop (mkF m 8 #[.val (.ref p0), .val (.int (1 : Int32)), .val .null, .unset] [(.int (1 : Int32))]))
  refine G.pop H3 D8_8 (pc' := 9) rfl rfl ?_
  refine G.aloadN H3 D8_9 (pc' := 10) rfl rfl rfl ?_
  refine G.iloadN H3 D8_10 (pc' := 11) rfl rfl ?_
  refine G.callV H3 (m37_elementData V p0 p1 c0 h0 H3.old f2 f3) (wd161 V) (wd162 V) (nf_sel (wd164 V)) (wd164 V) (wd163 V) (wd50 V) (wd165 V) (by decide) f1 (argsL := [(.int (1 : Int32))]) (rest := []) (W := 0) rfl rfl (lenOf (pd_11) rfl) rfl rfl D8_11 (pc' := 14) rfl (by decide) (by decide) (by decide) (by decide) all0 ?_
  intro T7 h7_ v8 s9 H7 Q10
  obtain ⟨rfl, rfl, rfl⟩ := Q10
  show Go p e below _ (T7.setTop (mkF m 14 #[.val (.ref p0), .val (.int (1 : Int32)), .val .null, .unset] [.null]))
  refine G.astoreN H7 (L' := #[.val (.ref p0), .val (.int (1 : Int32)), .val .null, .val .null]) D8_14 (pc' := 15) rfl rfl rfl ?_
  refine G.aloadN H7 D8_15 (pc' := 16) rfl rfl rfl ?_
  refine G.getF H7 (wd128 V) Via.refl f2 D8_16 (pc' := 19) rfl ?_
  intro T11 H12
  refine G.iloadN H12 D8_19 (pc' := 20) rfl rfl ?_
  refine G.aloadN H12 D8_20 (pc' := 21) rfl rfl rfl ?_
  refine G.stR H12 f3 rfl (Or.inl rfl) rfl (by decide) (i := 1) rfl (Nat.le_of_ble_eq_true rfl) g4 D8_21 (pc' := 22) rfl ?_
  intro T13 h13_ H13 W14 A15
  replace A15 : Arv Z h13_ p1 c0 (.object "java/lang/Object") (2 : Int32) [.null, .null] .null := A15
  refine G.aloadN H13 D8_22 (pc' := 23) rfl rfl rfl ?_
  have K16 : Keep h0 h13_ [p1] := (Keep.wr (Keep.refl h0 [p1]) W14 (Or.inl (List.mem_of_getElem? (i := 0) rfl)))
  exact G.retA H13 (t := (.object "java/lang/Object")) rfl rfl rfl D8_23 (so := []) all0 (by decide) (by decide) ⟨rfl, rfl, K16, A15⟩
set_option maxRecDepth 65536 in
set_option maxHeartbeats 40000000 in
theorem m79_take (V : Env1 Z a0 n0 uu0 uu1 uu2 uu3 uu4 uu5 uu6 uu7 uu8 uu9) (p0 : Addr) (p1 : Addr) (c0 : ClassId) (h0 : Heap) (hO : Old Z n0 h0) (f0 : Exa Z h0 p0 "java/util/ArrayList") (f1 : Fld Z h0 p0 "java/util/ArrayList" "size" "I" (.int (2 : Int32))) (f2 : Fld Z h0 p0 "java/util/ArrayList" "elementData" "[Ljava/lang/Object;" (.ref p1)) (f3 : Arv Z h0 p1 c0 (.object "java/lang/Object") (2 : Int32) [.null, .null] .null) (g4 : n0 ≤ p1) :
    Met Z a0 [] False n0 l (⟨"com/example/passenger_flow_sim/passengerflowsim/simulation/Vehicle", "take", "(Ljava/util/List;I)Ljava/util/List;"⟩ : MethodName) prog_32_method_16_code 3 (Option.some (FieldType.object "java/util/List")) ({ frames := 3, cells := 0, slots := 0, locals := 42 } : Room) #[(.ref p0), (.int (1 : Int32))] h0 [] (fun v h so => (v = some (.ref uu1) ∧ so = [] ∧ Keep h0 h [p1] ∧ Arv Z h p1 c0 (.object "java/lang/Object") (2 : Int32) [.null, .null] .null)) := by
  refine Met.of (EWl V) (by first | decide +kernel | rfl) hO (L0 := #[.val (.ref p0), .val (.int (1 : Int32)), .unset]) rfl ?_
  intro p e s m below meth c T H
  show Go p e below _ (T.setTop (mkF m 0 #[.val (.ref p0), .val (.int (1 : Int32)), .unset] []))
  refine G.aloadN H D30_0 (pc' := 1) rfl rfl rfl ?_
  refine G.iloadN H D30_1 (pc' := 2) rfl rfl ?_
  refine G.callF H (m38_get V p0 p1 c0 h0 H.old f1 f0 f2 f3) (wd144 V) (wd145 V) (fun s2 aa hZ => Jvm.Free.ULB.iface_rides (U := s2) hZ.alike (wd146 V)) (wd147 V) (wd148 V) (wd149 V) (wd150 V) (wd151 V) (wd50 V) (wd152 V) (by decide) f0 (argsL := [(.int (1 : Int32))]) (rest := []) (W := 0) rfl rfl (lenOf (pd_11) rfl) rfl rfl D30_2 (pc' := 7) rfl (by decide) (by decide) (by decide) (by decide) all0 ?_
  intro T1 h1_ v2 s3 H1 Q4
  obtain ⟨rfl, rfl, rfl⟩ := Q4
  show Go p e below _ (T1.setTop (mkF m 7 #[.val (.ref p0), .val (.int (1 : Int32)), .unset] [.null]))
  refine G.castN H1 D30_7 (pc' := 10) rfl ?_
  refine G.astoreN H1 (L' := #[.val (.ref p0), .val (.int (1 : Int32)), .val .null]) D30_10 (pc' := 11) rfl rfl rfl ?_
  refine G.aloadN H1 D30_11 (pc' := 12) rfl rfl rfl ?_
  refine G.iloadN H1 D30_12 (pc' := 13) rfl rfl ?_
  refine G.aconstNull H1 D30_13 (pc' := 14) rfl ?_
  refine G.callF H1 (m78_set V p0 p1 c0 h0 H1.old f1 f0 f2 f3 g4) (wd166 V) (wd167 V) (fun s2 aa hZ => Jvm.Free.ULB.iface_rides (U := s2) hZ.alike (wd168 V)) (wd169 V) (wd170 V) (wd171 V) (wd172 V) (wd151 V) (wd50 V) (wd173 V) (by decide) f0 (argsL := [(.int (1 : Int32)), .null]) (rest := []) (W := 0) rfl rfl (lenOf (pd_12) rfl) rfl rfl D30_14 (pc' := 19) rfl (by decide) (by decide) (by decide) (by decide) all0 ?_
  intro T5 h5_ v6 s7 H5 Q8
  obtain ⟨rfl, rfl, K9, F10⟩ := Q8
  show Go p e below _ (T5.setTop (mkF m 19 #[.val (.ref p0), .val (.int (1 : Int32)), .val .null] [.null]))
  refine G.pop H5 D30_19 (pc' := 20) rfl rfl ?_
  refine G.aloadN H5 D30_20 (pc' := 21) rfl rfl rfl ?_
  refine G.ifnonnullNo H5 D30_21 (pc' := 24) rfl ?_
  refine G.callS H5 (m18_of V h5_ H5.old) (wd174 V) (wd175 V) (wd176 V) (wd177 V) (by decide) (argsL := []) (rest := []) (W := 0) rfl rfl (lenOf (pd_13) rfl) rfl rfl D30_24 (pc' := 27) rfl (by decide) (by decide) (by decide) (by decide) all0 ?_
  intro T11 h11_ v12 s13 H11 Q14
  obtain ⟨rfl, rfl, rfl⟩ := Q14
  show Go p e below _ (T11.setTop (mkF m 27 #[.val (.ref p0), .val (.int (1 : Int32)), .val .null] [(.ref uu1)]))
  refine G.goto H11 D30_27 (by decide) (pc' := 31) rfl ?_
  have K15 : Keep h0 h5_ [p1] := (Keep.trans (Keep.refl h0 [p1]) K9 (allS (Or.inl (List.mem_of_getElem? (i := 0) rfl)) all0))
  exact G.retA H11 (t := (.object "java/util/List")) rfl rfl rfl D30_31 (so := []) all0 (by decide) (by decide) ⟨rfl, rfl, K15, F10⟩
set_option maxRecDepth 65536 in
set_option maxHeartbeats 40000000 in
theorem m80_arrive (V : Env1 Z a0 n0 uu0 uu1 uu2 uu3 uu4 uu5 uu6 uu7 uu8 uu9) (p0 : Addr) (p1 : Addr) (p2 : Addr) (c0 : ClassId) (h0 : Heap) (hO : Old Z n0 h0) (f0 : Fld Z h0 p0 "com/example/passenger_flow_sim/passengerflowsim/simulation/Vehicle" "alighting" "Ljava/util/List;" (.ref p1)) (f1 : Fld Z h0 p0 "com/example/passenger_flow_sim/passengerflowsim/simulation/Vehicle" "step" "I" (.int (2 : Int32))) (f2 : Exa Z h0 p1 "java/util/ArrayList") (f3 : Fld Z h0 p1 "java/util/ArrayList" "size" "I" (.int (2 : Int32))) (f4 : Fld Z h0 p1 "java/util/ArrayList" "elementData" "[Ljava/lang/Object;" (.ref p2)) (f5 : Arv Z h0 p2 c0 (.object "java/lang/Object") (2 : Int32) [.null, .null] .null) (g6 : n0 ≤ p2) (f7 : Fld Z h0 p0 "com/example/passenger_flow_sim/passengerflowsim/simulation/Vehicle" "load" "I" (.int (0 : Int32))) (q8 : p0 ≠ p2) (f9 : Exa Z h0 p0 "com/example/passenger_flow_sim/passengerflowsim/simulation/Vehicle") (g10 : n0 ≤ p0) :
    Met Z a0 [] False n0 l (⟨"com/example/passenger_flow_sim/passengerflowsim/simulation/Vehicle", "arrive", "()Ljava/util/List;"⟩ : MethodName) prog_32_method_10_code 2 (Option.some (FieldType.object "java/util/List")) ({ frames := 4, cells := 0, slots := 0, locals := 56 } : Room) #[(.ref p0)] h0 [] (fun v h so => (v = some (.ref uu1) ∧ so = [] ∧ Keep h0 h [p2, p0] ∧ (∀ (O n d : String) (w : Value), Fld Z h0 p0 O n d w → RoadKit.slotOf Z O n d ≠ RoadKit.slotOf Z "com/example/passenger_flow_sim/passengerflowsim/simulation/Vehicle" "load" "I" → RoadKit.slotOf Z O n d ≠ RoadKit.slotOf Z "com/example/passenger_flow_sim/passengerflowsim/simulation/Vehicle" "step" "I" → Fld Z h p0 O n d w) ∧ Arv Z h p2 c0 (.object "java/lang/Object") (2 : Int32) [.null, .null] .null ∧ Fld Z h p0 "com/example/passenger_flow_sim/passengerflowsim/simulation/Vehicle" "alighting" "Ljava/util/List;" (.ref p1) ∧ Fld Z h p0 "com/example/passenger_flow_sim/passengerflowsim/simulation/Vehicle" "step" "I" (.int (3 : Int32)) ∧ Fld Z h p0 "com/example/passenger_flow_sim/passengerflowsim/simulation/Vehicle" "load" "I" (.int (0 : Int32)) ∧ Exa Z h p0 "com/example/passenger_flow_sim/passengerflowsim/simulation/Vehicle")) := by
  refine Met.of (EWl V) (by first | decide +kernel | rfl) hO (L0 := #[.val (.ref p0), .unset]) rfl ?_
  intro p e s m below meth c T H
  show Go p e below _ (T.setTop (mkF m 0 #[.val (.ref p0), .unset] []))
  refine G.aloadN H D25_0 (pc' := 1) rfl rfl rfl ?_
  refine G.getF H (wd132 V) Via.refl f0 D25_1 (pc' := 4) rfl ?_
  intro T1 H2
  refine G.aloadN H2 D25_4 (pc' := 5) rfl rfl rfl ?_
  refine G.getF H2 (wd139 V) Via.refl f1 D25_5 (pc' := 8) rfl ?_
  intro T3 H4
  refine G.iconst H4 D25_8 (pc' := 9) rfl (v := (2 : Int32)) rfl ?_
  refine G.idiv H4 D25_9 (pc' := 10) rfl (by decide) ?_
  show Go p e below _ (T3.setTop (mkF m 10 #[.val (.ref p0), .unset] [(.int (1 : Int32)), (.ref p1)]))
  refine G.callS H4 (m79_take V p1 p2 c0 h0 H4.old f2 f3 f4 f5 g6) (wd141 V) (wd142 V) (wd32 V) (wd143 V) (by decide) (argsL := [(.ref p1), (.int (1 : Int32))]) (rest := []) (W := 0) rfl rfl (lenOf (pd_14) rfl) rfl rfl D25_10 (pc' := 13) rfl (by decide) (by decide) (by decide) (by decide) all0 ?_
  intro T5 h5_ v6 s7 H5 Q8
  obtain ⟨rfl, rfl, K9, F10⟩ := Q8
  show Go p e below _ (T5.setTop (mkF m 13 #[.val (.ref p0), .unset] [(.ref uu1)]))
  refine G.astoreN H5 (L' := #[.val (.ref p0), .val (.ref uu1)]) D25_13 (pc' := 14) rfl rfl rfl ?_
  refine G.aloadN H5 D25_14 (pc' := 15) rfl rfl rfl ?_
  refine G.dup H5 D25_15 (pc' := 16) rfl rfl ?_
  have F11 := (Fld.keep f7 K9 (ninS q8 nin0))
  refine G.getF H5 (wd180 V) Via.refl F11 D25_16 (pc' := 19) rfl ?_
  intro T12 H13
  refine G.aloadN H13 D25_19 (pc' := 20) rfl rfl rfl ?_
  have B14 := Exa.ext H13.old.2 (hv3 V)
  refine G.callF H13 (m20_size V h5_ H13.old) (wd182 V) (wd183 V) (fun s2 aa hZ => Jvm.Free.ULB.iface_rides (U := s2) hZ.alike (wd184 V)) (wd185 V) (wd186 V) (wd187 V) (wd188 V) (wd189 V) (wd190 V) (wd191 V) (by decide) B14 (argsL := []) (rest := [(.int (0 : Int32)), (.ref p0)]) (W := 2) rfl rfl (lenOf (pd_1) rfl) rfl rfl D25_20 (pc' := 25) rfl (by decide) (by decide) (by decide) (by decide) all0 ?_
  intro T15 h15_ v16 s17 H15 Q18
  obtain ⟨rfl, rfl, rfl⟩ := Q18
  show Go p e below _ (T15.setTop (mkF m 25 #[.val (.ref p0), .val (.ref uu1)] [(.int (0 : Int32)), (.int (0 : Int32)), (.ref p0)]))
  refine G.isub H15 D25_25 (pc' := 26) rfl ?_
  show Go p e below _ (T15.setTop (mkF m 26 #[.val (.ref p0), .val (.ref uu1)] [(.int (0 : Int32)), (.ref p0)]))
  have F19 := (Exa.keep f9 K9)
  refine G.putF H15 (wd180 V) Via.refl F11 F19 (Or.inl (wd181 V)) (wd31 V) (ty := .int) (by decide) rfl rfl g10 (Sf.exa F19) D25_26 (pc' := 29) rfl ?_
  intro T20 h20_ H20 W21
  have F22 : Fld Z h20_ p0 "com/example/passenger_flow_sim/passengerflowsim/simulation/Vehicle" "load" "I" (.int (0 : Int32)) := Fld.same W21 F11
  refine G.aloadN H20 D25_29 (pc' := 30) rfl rfl rfl ?_
  refine G.dup H20 D25_30 (pc' := 31) rfl rfl ?_
  have F23 := (Fld.other W21 (Fld.keep f1 K9 (ninS q8 nin0)) (Or.inr (slot_ne (Or.inl (wd140 V)) (Or.inl (wd181 V)) (by decide) (t := .int) (t' := .int) (by decide) (by decide))))
  refine G.getF H20 (wd139 V) Via.refl F23 D25_31 (pc' := 34) rfl ?_
  intro T24 H25
  refine G.iconst H25 D25_34 (pc' := 35) rfl (v := (1 : Int32)) rfl ?_
  refine G.iadd H25 D25_35 (pc' := 36) rfl ?_
  show Go p e below _ (T24.setTop (mkF m 36 #[.val (.ref p0), .val (.ref uu1)] [(.int (3 : Int32)), (.ref p0)]))
  have F26 := (Exa.wr W21 F19)
  refine G.putF H25 (wd139 V) Via.refl F23 F26 (Or.inl (wd140 V)) (wd31 V) (ty := .int) (by decide) rfl rfl g10 (Sf.exa F26) D25_36 (pc' := 39) rfl ?_
  intro T27 h27_ H27 W28
  have F29 : Fld Z h27_ p0 "com/example/passenger_flow_sim/passengerflowsim/simulation/Vehicle" "step" "I" (.int (3 : Int32)) := Fld.same W28 F23
  refine G.aloadN H27 D25_39 (pc' := 40) rfl rfl rfl ?_
  have K30 : Keep h5_ h27_ [p0] := (Keep.wr (Keep.wr (Keep.refl h5_ [p0]) W21 (Or.inl (List.mem_of_getElem? (i := 0) rfl))) W28 (Or.inl (List.mem_of_getElem? (i := 0) rfl)))
  have F31 := (Arv.keep F10 K30 (ninS (Ne.symm q8) nin0))
  have F32 := (Fld.other W28 (Fld.other W21 (Fld.keep f0 K9 (ninS q8 nin0)) (Or.inr (slot_ne (Or.inr (wd133 V)) (Or.inl (wd181 V)) (by decide) (t := (.object "java/util/List")) (t' := .int) (by decide) (by decide)))) (Or.inr (slot_ne (Or.inr (wd133 V)) (Or.inl (wd140 V)) (by decide) (t := (.object "java/util/List")) (t' := .int) (by decide) (by decide))))
  have F33 := (Fld.other W28 F22 (Or.inr (slot_ne (Or.inl (wd181 V)) (Or.inl (wd140 V)) (by decide) (t := .int) (t' := .int) (by decide) (by decide))))
  have F34 := (Exa.wr W28 F26)
  have K35 : Keep h0 h27_ [p2, p0] := (Keep.wr (Keep.wr (Keep.trans (Keep.refl h0 [p2, p0]) K9 (allS (Or.inl (List.mem_of_getElem? (i := 0) rfl)) all0)) W21 (Or.inl (List.mem_of_getElem? (i := 1) rfl))) W28 (Or.inl (List.mem_of_getElem? (i := 1) rfl)))
  exact G.retA H27 (t := (.object "java/util/List")) rfl rfl rfl D25_40 (so := []) all0 (by decide) (by decide) ⟨rfl, rfl, K35, (fun O n d w F hn0 hn1 => (Fld.other W28 (Fld.other W21 (Fld.keep F K9 (ninS q8 nin0)) (Or.inr hn0)) (Or.inr hn1))), F31, F32, F29, F33, F34⟩
set_option maxRecDepth 65536 in
set_option maxHeartbeats 40000000 in
theorem m81_leave (V : Env1 Z a0 n0 uu0 uu1 uu2 uu3 uu4 uu5 uu6 uu7 uu8 uu9) (p0 : Addr) (p1 : Addr) (c0 : ClassId) (h0 : Heap) (hO : Old Z n0 h0) (f0 : Fld Z h0 p0 "com/example/passenger_flow_sim/passengerflowsim/simulation/Vehicle" "step" "I" (.int (3 : Int32))) (f1 : Fld Z h0 p0 "com/example/passenger_flow_sim/passengerflowsim/simulation/Vehicle" "loads" "[I" (.ref p1)) (f2 : Arv Z h0 p1 c0 .int (1 : Int32) [(.int (0 : Int32))] (.int 0)) (f3 : Exa Z h0 p0 "com/example/passenger_flow_sim/passengerflowsim/simulation/Vehicle") (g4 : n0 ≤ p0) :
    Met Z a0 [] False n0 l (⟨"com/example/passenger_flow_sim/passengerflowsim/simulation/Vehicle", "leave", "()V"⟩ : MethodName) prog_32_method_13_code 2 (Option.none : Option FieldType) ({ frames := 0, cells := 0, slots := 0, locals := 0 } : Room) #[(.ref p0)] h0 [] (fun v h so => (v = none ∧ so = [] ∧ Keep h0 h [p0] ∧ (∀ (O n d : String) (w : Value), Fld Z h0 p0 O n d w → RoadKit.slotOf Z O n d ≠ RoadKit.slotOf Z "com/example/passenger_flow_sim/passengerflowsim/simulation/Vehicle" "step" "I" → Fld Z h p0 O n d w) ∧ Fld Z h p0 "com/example/passenger_flow_sim/passengerflowsim/simulation/Vehicle" "step" "I" (.int (4 : Int32)) ∧ Fld Z h p0 "com/example/passenger_flow_sim/passengerflowsim/simulation/Vehicle" "loads" "[I" (.ref p1) ∧ Exa Z h p0 "com/example/passenger_flow_sim/passengerflowsim/simulation/Vehicle")) := by
  refine Met.of (EWl V) (by first | decide +kernel | rfl) hO (L0 := #[.val (.ref p0), .unset]) rfl ?_
  intro p e s m below meth c T H
  show Go p e below _ (T.setTop (mkF m 0 #[.val (.ref p0), .unset] []))
  refine G.aloadN H D27_0 (pc' := 1) rfl rfl rfl ?_
  refine G.getF H (wd139 V) Via.refl f0 D27_1 (pc' := 4) rfl ?_
  intro T1 H2
  refine G.iconst H2 D27_4 (pc' := 5) rfl (v := (2 : Int32)) rfl ?_
  refine G.idiv H2 D27_5 (pc' := 6) rfl (by decide) ?_
  show Go p e below _ (T1.setTop (mkF m 6 #[.val (.ref p0), .unset] [(.int (1 : Int32))]))
  refine G.istoreN H2 (L' := #[.val (.ref p0), .val (.int (1 : Int32))]) D27_6 (pc' := 7) rfl rfl ?_
  refine G.iloadN H2 D27_7 (pc' := 8) rfl rfl ?_
  refine G.aloadN H2 D27_8 (pc' := 9) rfl rfl rfl ?_
  refine G.getF H2 (wd46 V) Via.refl f1 D27_9 (pc' := 12) rfl ?_
  intro T3 H4
  refine G.arrlen H4 f2 D27_12 (pc' := 13) rfl ?_
  refine G.icmpYes H4 D27_13 (by decide) (by decide) (pc' := 26) rfl ?_
  refine G.aloadN H4 D27_26 (pc' := 27) rfl rfl rfl ?_
  refine G.dup H4 D27_27 (pc' := 28) rfl rfl ?_
  refine G.getF H4 (wd139 V) Via.refl f0 D27_28 (pc' := 31) rfl ?_
  intro T5 H6
  refine G.iconst H6 D27_31 (pc' := 32) rfl (v := (1 : Int32)) rfl ?_
  refine G.iadd H6 D27_32 (pc' := 33) rfl ?_
  show Go p e below _ (T5.setTop (mkF m 33 #[.val (.ref p0), .val (.int (1 : Int32))] [(.int (4 : Int32)), (.ref p0)]))
  refine G.putF H6 (wd139 V) Via.refl f0 f3 (Or.inl (wd140 V)) (wd31 V) (ty := .int) (by decide) rfl rfl g4 (Sf.exa f3) D27_33 (pc' := 36) rfl ?_
  intro T7 h7_ H7 W8
  have F9 : Fld Z h7_ p0 "com/example/passenger_flow_sim/passengerflowsim/simulation/Vehicle" "step" "I" (.int (4 : Int32)) := Fld.same W8 f0
  have F10 := (Fld.other W8 f1 (Or.inr (slot_ne (Or.inr (wd47 V)) (Or.inl (wd140 V)) (by decide) (t := (.array .int)) (t' := .int) (by decide) (by decide))))
  have F11 := (Exa.wr W8 f3)
  have K12 : Keep h0 h7_ [p0] := (Keep.wr (Keep.refl h0 [p0]) W8 (Or.inl (List.mem_of_getElem? (i := 0) rfl)))
  exact G.retV H7 rfl D27_36 (so := []) all0 (by decide) (by decide) ⟨rfl, rfl, K12, (fun O n d w F hn0 => (Fld.other W8 F (Or.inr hn0))), F9, F10, F11⟩
set_option maxRecDepth 65536 in
set_option maxHeartbeats 40000000 in
theorem m82_isDone (V : Env1 Z a0 n0 uu0 uu1 uu2 uu3 uu4 uu5 uu6 uu7 uu8 uu9) (p0 : Addr) (p1 : Addr) (p2 : Addr) (c0 : ClassId) (h0 : Heap) (hO : Old Z n0 h0) (f0 : Fld Z h0 p0 "com/example/passenger_flow_sim/passengerflowsim/simulation/Vehicle" "step" "I" (.int (4 : Int32))) (f1 : Fld Z h0 p0 "com/example/passenger_flow_sim/passengerflowsim/simulation/Vehicle" "trip" "Lcom/example/passenger_flow_sim/passengerflowsim/timetable/Trip;" (.ref p1)) (f2 : Exa Z h0 p1 "com/example/passenger_flow_sim/passengerflowsim/timetable/Trip") (f3 : Fld Z h0 p1 "com/example/passenger_flow_sim/passengerflowsim/timetable/Trip" "stops" "[I" (.ref p2)) (f4 : Arv Z h0 p2 c0 .int (2 : Int32) [(.int (0 : Int32)), (.int (1 : Int32))] (.int 0)) :
    Met Z a0 [] False n0 l (⟨"com/example/passenger_flow_sim/passengerflowsim/simulation/Vehicle", "isDone", "()Z"⟩ : MethodName) prog_32_method_5_code 1 (Option.some FieldType.boolean) ({ frames := 1, cells := 0, slots := 0, locals := 14 } : Room) #[(.ref p0)] h0 [] (fun v h so => (v = some (.int (1 : Int32)) ∧ so = [] ∧ h0 = h)) := by
  refine Met.of (EWl V) (by first | decide +kernel | rfl) hO (L0 := #[.val (.ref p0)]) rfl ?_
  intro p e s m below meth c T H
  show Go p e below _ (T.setTop (mkF m 0 #[.val (.ref p0)] []))
  refine G.aloadN H D33_0 (pc' := 1) rfl rfl rfl ?_
  refine G.getF H (wd139 V) Via.refl f0 D33_1 (pc' := 4) rfl ?_
  intro T1 H2
  refine G.iconst H2 D33_4 (pc' := 5) rfl (v := (2 : Int32)) rfl ?_
  refine G.aloadN H2 D33_5 (pc' := 6) rfl rfl rfl ?_
  refine G.getF H2 (wd37 V) Via.refl f1 D33_6 (pc' := 9) rfl ?_
  intro T3 H4
  refine G.callV H4 (m2_length V p1 p2 c0 h0 H4.old f3 f4) (wd41 V) (wd42 V) (nf_sel (wd44 V)) (wd44 V) (wd43 V) (wd3 V) (wd45 V) (by decide) f2 (argsL := []) (rest := [(.int (2 : Int32)), (.int (4 : Int32))]) (W := 2) rfl rfl (lenOf (pd_1) rfl) rfl rfl D33_9 (pc' := 12) rfl (by decide) (by decide) (by decide) (by decide) all0 ?_
  intro T5 h5_ v6 s7 H5 Q8
  obtain ⟨rfl, rfl, rfl⟩ := Q8
  show Go p e below _ (T5.setTop (mkF m 12 #[.val (.ref p0)] [(.int (2 : Int32)), (.int (2 : Int32)), (.int (4 : Int32))]))
  refine G.imul H5 D33_12 (pc' := 13) rfl ?_
  show Go p e below _ (T5.setTop (mkF m 13 #[.val (.ref p0)] [(.int (4 : Int32)), (.int (4 : Int32))]))
  refine G.icmpNo H5 D33_13 (pc' := 16) rfl (by decide) ?_
  refine G.iconst H5 D33_16 (pc' := 17) rfl (v := (1 : Int32)) rfl ?_
  refine G.goto H5 D33_17 (by decide) (pc' := 21) rfl ?_
  exact G.retN H5 (t := .boolean) rfl (by decide) D33_21 (so := []) all0 (by decide) (by decide) ⟨rfl, rfl, rfl⟩
set_option maxRecDepth 65536 in
set_option maxHeartbeats 40000000 in
theorem m83_hasLeft (V : Env1 Z a0 n0 uu0 uu1 uu2 uu3 uu4 uu5 uu6 uu7 uu8 uu9) (p0 : Addr) (h0 : Heap) (hO : Old Z n0 h0) (f0 : Fld Z h0 p0 "com/example/passenger_flow_sim/passengerflowsim/simulation/Vehicle" "step" "I" (.int (4 : Int32))) :
    Met Z a0 [] False n0 l (⟨"com/example/passenger_flow_sim/passengerflowsim/simulation/Vehicle", "hasLeft", "(I)Z"⟩ : MethodName) prog_32_method_8_code 2 (Option.some FieldType.boolean) ({ frames := 0, cells := 0, slots := 0, locals := 0 } : Room) #[(.ref p0), (.int (1 : Int32))] h0 [] (fun v h so => (v = some (.int (1 : Int32)) ∧ so = [] ∧ h0 = h)) := by
  refine Met.of (EWl V) (by first | decide +kernel | rfl) hO (L0 := #[.val (.ref p0), .val (.int (1 : Int32))]) rfl ?_
  intro p e s m below meth c T H
  show Go p e below _ (T.setTop (mkF m 0 #[.val (.ref p0), .val (.int (1 : Int32))] []))
  refine G.aloadN H D36_0 (pc' := 1) rfl rfl rfl ?_
  refine G.getF H (wd139 V) Via.refl f0 D36_1 (pc' := 4) rfl ?_
  intro T1 H2
  refine G.iconst H2 D36_4 (pc' := 5) rfl (v := (2 : Int32)) rfl ?_
  refine G.iloadN H2 D36_5 (pc' := 6) rfl rfl ?_
  refine G.imul H2 D36_6 (pc' := 7) rfl ?_
  show Go p e below _ (T1.setTop (mkF m 7 #[.val (.ref p0), .val (.int (1 : Int32))] [(.int (2 : Int32)), (.int (4 : Int32))]))
  refine G.iconst H2 D36_7 (pc' := 8) rfl (v := (1 : Int32)) rfl ?_
  refine G.iadd H2 D36_8 (pc' := 9) rfl ?_
  show Go p e below _ (T1.setTop (mkF m 9 #[.val (.ref p0), .val (.int (1 : Int32))] [(.int (3 : Int32)), (.int (4 : Int32))]))
  refine G.icmpNo H2 D36_9 (pc' := 12) rfl (by decide) ?_
  refine G.iconst H2 D36_12 (pc' := 13) rfl (v := (1 : Int32)) rfl ?_
  refine G.goto H2 D36_13 (by decide) (pc' := 17) rfl ?_
  exact G.retN H2 (t := .boolean) rfl (by decide) D36_17 (so := []) all0 (by decide) (by decide) ⟨rfl, rfl, rfl⟩
set_option maxRecDepth 65536 in
set_option maxHeartbeats 40000000 in
theorem cut84_107 (V : Env1 Z a0 n0 uu0 uu1 uu2 uu3 uu4 uu5 uu6 uu7 uu8 uu9) (x0 : Int32) (x1 : Int32) (x2 : Int32) (x3 : Int32) (x4 : Int32) (x5 : Int32) (p0 : Addr) (p1 : Addr) (p2 : Addr) (c0 : ClassId) (p3 : Addr) (c1 : ClassId) (p4 : Addr) (p5 : Addr) (c2 : ClassId) (H : Hs p l e room_1 s m as' below meth c Z a0 [] False x.cls n0 code maxLocals ret x.name T h0 17 45 []) (sp : x4 = (0 : Int32) ∨ x4 = (1 : Int32) ∨ x4 = (2 : Int32) ∨ x4 = (3 : Int32)) (f1 : Exa Z h0 p1 "com/example/passenger_flow_sim/passengerflowsim/simulation/Vehicle") (f2 : Fld Z h0 p1 "com/example/passenger_flow_sim/passengerflowsim/simulation/Vehicle" "step" "I" (.int (3 : Int32))) (f3 : Fld Z h0 p1 "com/example/passenger_flow_sim/passengerflowsim/simulation/Vehicle" "loads" "[I" (.ref p2)) (f4 : Arv Z h0 p2 c0 .int (1 : Int32) [(.int (0 : Int32))] (.int 0)) (g5 : n0 ≤ p1) (f6 : Fld Z h0 p1 "com/example/passenger_flow_sim/passengerflowsim/simulation/Vehicle" "trip" "Lcom/example/passenger_flow_sim/passengerflowsim/timetable/Trip;" (.ref p0)) (f7 : Exa Z h0 p2 "[I") (q8 : p2 ≠ p1) (f9 : Fld Z h0 p1 "com/example/passenger_flow_sim/passengerflowsim/simulation/Vehicle" "load" "I" (.int (0 : Int32))) (cc10 : ¬ x5 = (0 : Int32)) (f11 : Exa Z h0 p0 "com/example/passenger_flow_sim/passengerflowsim/timetable/Trip") (f12 : Fld Z h0 p0 "com/example/passenger_flow_sim/passengerflowsim/timetable/Trip" "stops" "[I" (.ref p3)) (f13 : Arv Z h0 p3 c1 .int (2 : Int32) [(.int (0 : Int32)), (.int (1 : Int32))] (.int 0)) (q14 : p3 ≠ p1) (f15 : Fld Z h0 p1 "com/example/passenger_flow_sim/passengerflowsim/simulation/Vehicle" "alighting" "Ljava/util/List;" (.ref p4)) (f16 : Exa Z h0 p4 "java/util/ArrayList") (f17 : Fld Z h0 p4 "java/util/ArrayList" "size" "I" (.int (2 : Int32))) (f18 : Fld Z h0 p4 "java/util/ArrayList" "elementData" "[Ljava/lang/Object;" (.ref p5)) (f19 : Arv Z h0 p5 c2 (.object "java/lang/Object") (2 : Int32) [.null, .null] .null) (g20 : n0 ≤ p5) (o21 : Ovr Z c2 "java/lang/Object") (q22 : p2 ≠ p5) (q23 : p0 ≠ p5) (q24 : p3 ≠ p5) :
    Go p e below (FinP s below Z [] False n0 room_1.cells room_1.slots (fun v h so => v = some (.int 1))) (T.setTop (mkF m 107 #[.val (.int x0), .val (.int x1), .val (.int x2), .val (.int x3), .val (.int x4), .val (.int x5), .val (.ref p0), .val (.ref p1), .unset] [])) := by
  rcases sp with rfl | rfl | rfl | rfl
  ·
    refine G.aload H at_107 (pc' := 109) rfl rfl rfl ?_
    refine G.iload H at_109 (pc' := 111) rfl rfl ?_
    refine G.callS H (m22_boardSome V p1 h0 H.old) (wd194 V) (wd195 V) (wd196 V) (wd197 V) (by decide) (argsL := [(.ref p1), (.int (0 : Int32))]) (rest := []) (W := 0) rfl rfl (lenOf (pd_15) rfl) rfl rfl at_111 (pc' := 114) rfl (by decide) (by decide) (by decide) (by decide) all0 ?_
    intro T1 h1_ v2 s3 H1 Q4
    obtain ⟨rfl, rfl, rfl⟩ := Q4
    show Go p e below _ (T1.setTop (mkF m 114 #[.val (.int x0), .val (.int x1), .val (.int x2), .val (.int x3), .val (.int (0 : Int32)), .val (.int x5), .val (.ref p0), .val (.ref p1), .unset] []))
    refine G.aload H1 at_114 (pc' := 116) rfl rfl rfl ?_
    refine G.callV H1 (m81_leave V p1 p2 c0 h0 H1.old f2 f3 f4 f1 g5) (wd198 V) (wd199 V) (nf_sel (wd201 V)) (wd201 V) (wd200 V) (wd32 V) (wd202 V) (by decide) f1 (argsL := []) (rest := []) (W := 0) rfl rfl (lenOf (pd_2) rfl) rfl rfl at_116 (pc' := 119) rfl (by decide) (by decide) (by decide) (by decide) all0 ?_
    intro T5 h5_ v6 s7 H5 Q8
    obtain ⟨rfl, rfl, K9, U10, F11, F12, F13⟩ := Q8
    show Go p e below _ (T5.setTop (mkF m 119 #[.val (.int x0), .val (.int x1), .val (.int x2), .val (.int x3), .val (.int (0 : Int32)), .val (.int x5), .val (.ref p0), .val (.ref p1), .unset] []))
    refine G.aload H5 at_119 (pc' := 121) rfl rfl rfl ?_
    have F14 := (U10 "com/example/passenger_flow_sim/passengerflowsim/simulation/Vehicle" "trip" "Lcom/example/passenger_flow_sim/passengerflowsim/timetable/Trip;" (.ref p0) f6 (slot_ne (Or.inr (wd38 V)) (Or.inl (wd140 V)) (by decide) (t := (.object "com/example/passenger_flow_sim/passengerflowsim/timetable/Trip")) (t' := .int) (by decide) (by decide)))
    have F15 := (Exa.keep f7 K9)
    have F16 := (Arv.keep f4 K9 (ninS q8 nin0))
    refine G.callV H5 (m25_loads V p1 p0 p2 c0 h5_ H5.old F14 F12 F15 F16) (wd203 V) (wd204 V) (nf_sel (wd206 V)) (wd206 V) (wd205 V) (wd32 V) (wd207 V) (by decide) F13 (argsL := []) (rest := []) (W := 0) rfl rfl (lenOf (pd_17) rfl) rfl rfl at_121 (pc' := 124) rfl (by decide) (by decide) (by decide) (by decide) all0 ?_
    intro T17 h17_ v18 s19 H17 Q20
    obtain ⟨a21, a22, rfl, rfl, K23, g24, g25, F26, F27, F28, F29, F30⟩ := Q20
    have na21 : n0 ≤ a21 := Nat.le_trans H5.le g24
    have na22 : n0 ≤ a22 := Nat.le_trans H5.le (Nat.le_of_lt (Nat.lt_of_le_of_lt g24 g25))
    show Go p e below _ (T17.setTop (mkF m 124 #[.val (.int x0), .val (.int x1), .val (.int x2), .val (.int x3), .val (.int (0 : Int32)), .val (.int x5), .val (.ref p0), .val (.ref p1), .unset] [(.ref a21)]))
    refine G.astore H17 (L' := #[.val (.int x0), .val (.int x1), .val (.int x2), .val (.int x3), .val (.int (0 : Int32)), .val (.int x5), .val (.ref p0), .val (.ref p1), .val (.ref a21)]) at_124 (pc' := 126) rfl rfl rfl ?_
    refine G.aload H17 at_126 (pc' := 128) rfl rfl rfl ?_
    refine G.callV H17 (m26_linkCount V a21 a22 c0 h17_ H17.old F28 F29) (wd221 V) (wd222 V) (nf_sel (wd224 V)) (wd224 V) (wd223 V) (wd210 V) (wd225 V) (by decide) F26 (argsL := []) (rest := []) (W := 0) rfl rfl (lenOf (pd_1) rfl) rfl rfl at_128 (pc' := 131) rfl (by decide) (by decide) (by decide) (by decide) all0 ?_
    intro T31 h31_ v32 s33 H31 Q34
    obtain ⟨rfl, rfl, rfl⟩ := Q34
    show Go p e below _ (T31.setTop (mkF m 131 #[.val (.int x0), .val (.int x1), .val (.int x2), .val (.int x3), .val (.int (0 : Int32)), .val (.int x5), .val (.ref p0), .val (.ref p1), .val (.ref a21)] [(.int (1 : Int32))]))
    refine G.iconst H31 at_131 (pc' := 132) rfl (v := (1 : Int32)) rfl ?_
    refine G.icmpNo H31 at_132 (pc' := 135) rfl (by decide) ?_
    refine G.aload H31 at_135 (pc' := 137) rfl rfl rfl ?_
    have F35 := (Exa.keep F13 K23)
    have F36 := (Fld.keep (U10 "com/example/passenger_flow_sim/passengerflowsim/simulation/Vehicle" "load" "I" (.int (0 : Int32)) f9 (slot_ne (Or.inl (wd181 V)) (Or.inl (wd140 V)) (by decide) (t := .int) (t' := .int) (by decide) (by decide))) K23 nin0)
    refine G.callV H31 (m27_load V p1 h17_ H31.old F36) (wd226 V) (wd227 V) (nf_sel (wd229 V)) (wd229 V) (wd228 V) (wd32 V) (wd230 V) (by decide) F35 (argsL := []) (rest := []) (W := 0) rfl rfl (lenOf (pd_1) rfl) rfl rfl at_137 (pc' := 140) rfl (by decide) (by decide) (by decide) (by decide) all0 ?_
    intro T37 h37_ v38 s39 H37 Q40
    obtain ⟨rfl, rfl, rfl⟩ := Q40
    show Go p e below _ (T37.setTop (mkF m 140 #[.val (.int x0), .val (.int x1), .val (.int x2), .val (.int x3), .val (.int (0 : Int32)), .val (.int x5), .val (.ref p0), .val (.ref p1), .val (.ref a21)] [(.int (0 : Int32))]))
    refine G.iload H37 at_140 (pc' := 142) rfl rfl ?_
    refine G.icmpYes H37 at_142 (by decide) (by decide) (pc' := 147) rfl ?_
    refine G.iload H37 at_147 (pc' := 149) rfl rfl ?_
    refine G.ifNo H37 at_149 (pc' := 152) rfl (XT.i0_eq_f cc10) ?_
    refine G.aload H37 at_152 (pc' := 154) rfl rfl rfl ?_
    have F41 := (Fld.keep F11 K23 nin0)
    have F42 := (Fld.keep F14 K23 nin0)
    have K43 : Keep h0 h17_ [p1] := (Keep.trans (Keep.trans (Keep.refl h0 [p1]) K9 (allS (Or.inl (List.mem_of_getElem? (i := 0) rfl)) all0)) K23 all0)
    have F44 := (Exa.keep f11 K43)
    have N45 : p0 ≠ p1 := Exa.ne F44 F35 (by decide)
    have F46 := (Fld.keep f12 K43 (ninS N45 nin0))
    have F47 := (Arv.keep f13 K43 (ninS q14 nin0))
    refine G.callV H37 (m82_isDone V p1 p0 p3 c1 h17_ H37.old F41 F42 F44 F46 F47) (wd231 V) (wd232 V) (nf_sel (wd234 V)) (wd234 V) (wd233 V) (wd32 V) (wd235 V) (by decide) F35 (argsL := []) (rest := []) (W := 0) rfl rfl (lenOf (pd_18) rfl) rfl rfl at_154 (pc' := 157) rfl (by decide) (by decide) (by decide) (by decide) all0 ?_
    intro T48 h48_ v49 s50 H48 Q51
    obtain ⟨rfl, rfl, rfl⟩ := Q51
    show Go p e below _ (T48.setTop (mkF m 157 #[.val (.int x0), .val (.int x1), .val (.int x2), .val (.int x3), .val (.int (0 : Int32)), .val (.int x5), .val (.ref p0), .val (.ref p1), .val (.ref a21)] [(.int (1 : Int32))]))
    refine G.ifNo H48 at_157 (pc' := 160) rfl (by decide) ?_
    refine G.aload H48 at_160 (pc' := 162) rfl rfl rfl ?_
    refine G.iconst H48 at_162 (pc' := 163) rfl (v := (1 : Int32)) rfl ?_
    refine G.callV H48 (m83_hasLeft V p1 h17_ H48.old F41) (wd241 V) (wd242 V) (nf_sel (wd244 V)) (wd244 V) (wd243 V) (wd32 V) (wd245 V) (by decide) F35 (argsL := [(.int (1 : Int32))]) (rest := []) (W := 0) rfl rfl (lenOf (pd_19) rfl) rfl rfl at_163 (pc' := 166) rfl (by decide) (by decide) (by decide) (by decide) all0 ?_
    intro T52 h52_ v53 s54 H52 Q55
    obtain ⟨rfl, rfl, rfl⟩ := Q55
    show Go p e below _ (T52.setTop (mkF m 166 #[.val (.int x0), .val (.int x1), .val (.int x2), .val (.int x3), .val (.int (0 : Int32)), .val (.int x5), .val (.ref p0), .val (.ref p1), .val (.ref a21)] [(.int (1 : Int32))]))
    refine G.ifNo H52 at_166 (pc' := 169) rfl (by decide) ?_
    refine G.aload H52 at_169 (pc' := 171) rfl rfl rfl ?_
    refine G.iconst H52 at_171 (pc' := 172) rfl (v := (0 : Int32)) rfl ?_
    refine G.callV H52 (m34_load V a21 a22 c0 h17_ H52.old F28 F29) (wd257 V) (wd258 V) (nf_sel (wd260 V)) (wd260 V) (wd259 V) (wd210 V) (wd261 V) (by decide) F26 (argsL := [(.int (0 : Int32))]) (rest := []) (W := 0) rfl rfl (lenOf (pd_20) rfl) rfl rfl at_172 (pc' := 175) rfl (by decide) (by decide) (by decide) (by decide) all0 ?_
    intro T56 h56_ v57 s58 H56 Q59
    obtain ⟨rfl, rfl, rfl⟩ := Q59
    show Go p e below _ (T56.setTop (mkF m 175 #[.val (.int x0), .val (.int x1), .val (.int x2), .val (.int x3), .val (.int (0 : Int32)), .val (.int x5), .val (.ref p0), .val (.ref p1), .val (.ref a21)] [(.int (0 : Int32))]))
    refine G.ifNo H56 at_175 (pc' := 178) rfl (by decide) ?_
    refine G.iconst H56 at_178 (pc' := 179) rfl (v := (1 : Int32)) rfl ?_
    refine G.goto H56 at_179 (by decide) (pc' := 183) rfl ?_
    exact G.retN H56 (t := .boolean) rfl (by decide) at_183 (so := []) all0 (by decide) (by decide) rfl
  ·
    refine G.aload H at_107 (pc' := 109) rfl rfl rfl ?_
    refine G.iload H at_109 (pc' := 111) rfl rfl ?_
    refine G.callS H (m50_boardSome V p1 p4 p5 c2 h0 H.old f1 f9 g5 f15 f16 f17 f18 f19 g20 o21) (wd194 V) (wd195 V) (wd196 V) (wd197 V) (by decide) (argsL := [(.ref p1), (.int (1 : Int32))]) (rest := []) (W := 0) rfl rfl (lenOf (pd_15) rfl) rfl rfl at_111 (pc' := 114) rfl (by decide) (by decide) (by decide) (by decide) all0 ?_
    intro T60 h60_ v61 s62 H60 Q63
    obtain ⟨a64, a65, k66, rfl, rfl, K67, g68, g69, U70, O71, F72, F73, F74, F75, F76, F77, F78, F79, F80, F81⟩ := Q63
    have na64 : n0 ≤ a64 := Nat.le_trans H.le g68
    have na65 : n0 ≤ a65 := Nat.le_trans H.le (Nat.le_of_lt (Nat.lt_of_le_of_lt g68 g69))
    show Go p e below _ (T60.setTop (mkF m 114 #[.val (.int x0), .val (.int x1), .val (.int x2), .val (.int x3), .val (.int (1 : Int32)), .val (.int x5), .val (.ref p0), .val (.ref p1), .unset] []))
    refine G.aload H60 at_114 (pc' := 116) rfl rfl rfl ?_
    have F82 := (U70 "com/example/passenger_flow_sim/passengerflowsim/simulation/Vehicle" "step" "I" (.int (3 : Int32)) f2 (slot_ne (Or.inl (wd140 V)) (Or.inl (wd181 V)) (by decide) (t := .int) (t' := .int) (by decide) (by decide)))
    have F83 := (U70 "com/example/passenger_flow_sim/passengerflowsim/simulation/Vehicle" "loads" "[I" (.ref p2) f3 (slot_ne (Or.inr (wd47 V)) (Or.inl (wd181 V)) (by decide) (t := (.array .int)) (t' := .int) (by decide) (by decide)))
    have F84 := (Arv.keep f4 K67 (ninS q8 (ninS q22 nin0)))
    refine G.callV H60 (m81_leave V p1 p2 c0 h60_ H60.old F82 F83 F84 F72 g5) (wd198 V) (wd199 V) (nf_sel (wd201 V)) (wd201 V) (wd200 V) (wd32 V) (wd202 V) (by decide) F72 (argsL := []) (rest := []) (W := 0) rfl rfl (lenOf (pd_2) rfl) rfl rfl at_116 (pc' := 119) rfl (by decide) (by decide) (by decide) (by decide) all0 ?_
    intro T85 h85_ v86 s87 H85 Q88
    obtain ⟨rfl, rfl, K89, U90, F91, F92, F93⟩ := Q88
    show Go p e below _ (T85.setTop (mkF m 119 #[.val (.int x0), .val (.int x1), .val (.int x2), .val (.int x3), .val (.int (1 : Int32)), .val (.int x5), .val (.ref p0), .val (.ref p1), .unset] []))
    refine G.aload H85 at_119 (pc' := 121) rfl rfl rfl ?_
    have F94 := (U90 "com/example/passenger_flow_sim/passengerflowsim/simulation/Vehicle" "trip" "Lcom/example/passenger_flow_sim/passengerflowsim/timetable/Trip;" (.ref p0) (U70 "com/example/passenger_flow_sim/passengerflowsim/simulation/Vehicle" "trip" "Lcom/example/passenger_flow_sim/passengerflowsim/timetable/Trip;" (.ref p0) f6 (slot_ne (Or.inr (wd38 V)) (Or.inl (wd181 V)) (by decide) (t := (.object "com/example/passenger_flow_sim/passengerflowsim/timetable/Trip")) (t' := .int) (by decide) (by decide))) (slot_ne (Or.inr (wd38 V)) (Or.inl (wd140 V)) (by decide) (t := (.object "com/example/passenger_flow_sim/passengerflowsim/timetable/Trip")) (t' := .int) (by decide) (by decide)))
    have K95 : Keep h0 h85_ [p1, p5] := (Keep.trans (Keep.trans (Keep.refl h0 [p1, p5]) K67 (allS (Or.inl (List.mem_of_getElem? (i := 0) rfl)) (allS (Or.inl (List.mem_of_getElem? (i := 1) rfl)) all0))) K89 (allS (Or.inl (List.mem_of_getElem? (i := 0) rfl)) all0))
    have F96 := (Exa.keep f7 K95)
    have F97 := (Arv.keep F84 K89 (ninS q8 nin0))
    refine G.callV H85 (m25_loads V p1 p0 p2 c0 h85_ H85.old F94 F92 F96 F97) (wd203 V) (wd204 V) (nf_sel (wd206 V)) (wd206 V) (wd205 V) (wd32 V) (wd207 V) (by decide) F93 (argsL := []) (rest := []) (W := 0) rfl rfl (lenOf (pd_17) rfl) rfl rfl at_121 (pc' := 124) rfl (by decide) (by decide) (by decide) (by decide) all0 ?_
    intro T98 h98_ v99 s100 H98 Q101
    obtain ⟨a102, a103, rfl, rfl, K104, g105, g106, F107, F108, F109, F110, F111⟩ := Q101
    have na102 : n0 ≤ a102 := Nat.le_trans H85.le g105
    have na103 : n0 ≤ a103 := Nat.le_trans H85.le (Nat.le_of_lt (Nat.lt_of_le_of_lt g105 g106))
    show Go p e below _ (T98.setTop (mkF m 124 #[.val (.int x0), .val (.int x1), .val (.int x2), .val (.int x3), .val (.int (1 : Int32)), .val (.int x5), .val (.ref p0), .val (.ref p1), .unset] [(.ref a102)]))
    refine G.astore H98 (L' := #[.val (.int x0), .val (.int x1), .val (.int x2), .val (.int x3), .val (.int (1 : Int32)), .val (.int x5), .val (.ref p0), .val (.ref p1), .val (.ref a102)]) at_124 (pc' := 126) rfl rfl rfl ?_
    refine G.aload H98 at_126 (pc' := 128) rfl rfl rfl ?_
    refine G.callV H98 (m26_linkCount V a102 a103 c0 h98_ H98.old F109 F110) (wd221 V) (wd222 V) (nf_sel (wd224 V)) (wd224 V) (wd223 V) (wd210 V) (wd225 V) (by decide) F107 (argsL := []) (rest := []) (W := 0) rfl rfl (lenOf (pd_1) rfl) rfl rfl at_128 (pc' := 131) rfl (by decide) (by decide) (by decide) (by decide) all0 ?_
    intro T112 h112_ v113 s114 H112 Q115
    obtain ⟨rfl, rfl, rfl⟩ := Q115
    show Go p e below _ (T112.setTop (mkF m 131 #[.val (.int x0), .val (.int x1), .val (.int x2), .val (.int x3), .val (.int (1 : Int32)), .val (.int x5), .val (.ref p0), .val (.ref p1), .val (.ref a102)] [(.int (1 : Int32))]))
    refine G.iconst H112 at_131 (pc' := 132) rfl (v := (1 : Int32)) rfl ?_
    refine G.icmpNo H112 at_132 (pc' := 135) rfl (by decide) ?_
    refine G.aload H112 at_135 (pc' := 137) rfl rfl rfl ?_
    have F116 := (Exa.keep F93 K104)
    have F117 := (Fld.keep (U90 "com/example/passenger_flow_sim/passengerflowsim/simulation/Vehicle" "load" "I" (.int (1 : Int32)) F73 (slot_ne (Or.inl (wd181 V)) (Or.inl (wd140 V)) (by decide) (t := .int) (t' := .int) (by decide) (by decide))) K104 nin0)
    refine G.callV H112 (m54_load V p1 h98_ H112.old F117) (wd226 V) (wd227 V) (nf_sel (wd229 V)) (wd229 V) (wd228 V) (wd32 V) (wd230 V) (by decide) F116 (argsL := []) (rest := []) (W := 0) rfl rfl (lenOf (pd_1) rfl) rfl rfl at_137 (pc' := 140) rfl (by decide) (by decide) (by decide) (by decide) all0 ?_
    intro T118 h118_ v119 s120 H118 Q121
    obtain ⟨rfl, rfl, rfl⟩ := Q121
    show Go p e below _ (T118.setTop (mkF m 140 #[.val (.int x0), .val (.int x1), .val (.int x2), .val (.int x3), .val (.int (1 : Int32)), .val (.int x5), .val (.ref p0), .val (.ref p1), .val (.ref a102)] [(.int (1 : Int32))]))
    refine G.iload H118 at_140 (pc' := 142) rfl rfl ?_
    refine G.icmpYes H118 at_142 (by decide) (by decide) (pc' := 147) rfl ?_
    refine G.iload H118 at_147 (pc' := 149) rfl rfl ?_
    refine G.ifNo H118 at_149 (pc' := 152) rfl (XT.i0_eq_f cc10) ?_
    refine G.aload H118 at_152 (pc' := 154) rfl rfl rfl ?_
    have F122 := (Fld.keep F91 K104 nin0)
    have F123 := (Fld.keep F94 K104 nin0)
    have K124 : Keep h0 h98_ [p1, p5] := (Keep.trans (Keep.trans (Keep.trans (Keep.refl h0 [p1, p5]) K67 (allS (Or.inl (List.mem_of_getElem? (i := 0) rfl)) (allS (Or.inl (List.mem_of_getElem? (i := 1) rfl)) all0))) K89 (allS (Or.inl (List.mem_of_getElem? (i := 0) rfl)) all0)) K104 all0)
    have F125 := (Exa.keep f11 K124)
    have N126 : p0 ≠ p1 := Exa.ne F125 F116 (by decide)
    have F127 := (Fld.keep f12 K124 (ninS N126 (ninS q23 nin0)))
    have F128 := (Arv.keep f13 K124 (ninS q14 (ninS q24 nin0)))
    refine G.callV H118 (m82_isDone V p1 p0 p3 c1 h98_ H118.old F122 F123 F125 F127 F128) (wd231 V) (wd232 V) (nf_sel (wd234 V)) (wd234 V) (wd233 V) (wd32 V) (wd235 V) (by decide) F116 (argsL := []) (rest := []) (W := 0) rfl rfl (lenOf (pd_18) rfl) rfl rfl at_154 (pc' := 157) rfl (by decide) (by decide) (by decide) (by decide) all0 ?_
    intro T129 h129_ v130 s131 H129 Q132
    obtain ⟨rfl, rfl, rfl⟩ := Q132
    show Go p e below _ (T129.setTop (mkF m 157 #[.val (.int x0), .val (.int x1), .val (.int x2), .val (.int x3), .val (.int (1 : Int32)), .val (.int x5), .val (.ref p0), .val (.ref p1), .val (.ref a102)] [(.int (1 : Int32))]))
    refine G.ifNo H129 at_157 (pc' := 160) rfl (by decide) ?_
    refine G.aload H129 at_160 (pc' := 162) rfl rfl rfl ?_
    refine G.iconst H129 at_162 (pc' := 163) rfl (v := (1 : Int32)) rfl ?_
    refine G.callV H129 (m83_hasLeft V p1 h98_ H129.old F122) (wd241 V) (wd242 V) (nf_sel (wd244 V)) (wd244 V) (wd243 V) (wd32 V) (wd245 V) (by decide) F116 (argsL := [(.int (1 : Int32))]) (rest := []) (W := 0) rfl rfl (lenOf (pd_19) rfl) rfl rfl at_163 (pc' := 166) rfl (by decide) (by decide) (by decide) (by decide) all0 ?_
    intro T133 h133_ v134 s135 H133 Q136
    obtain ⟨rfl, rfl, rfl⟩ := Q136
    show Go p e below _ (T133.setTop (mkF m 166 #[.val (.int x0), .val (.int x1), .val (.int x2), .val (.int x3), .val (.int (1 : Int32)), .val (.int x5), .val (.ref p0), .val (.ref p1), .val (.ref a102)] [(.int (1 : Int32))]))
    refine G.ifNo H133 at_166 (pc' := 169) rfl (by decide) ?_
    refine G.aload H133 at_169 (pc' := 171) rfl rfl rfl ?_
    refine G.iconst H133 at_171 (pc' := 172) rfl (v := (0 : Int32)) rfl ?_
    refine G.callV H133 (m34_load V a102 a103 c0 h98_ H133.old F109 F110) (wd257 V) (wd258 V) (nf_sel (wd260 V)) (wd260 V) (wd259 V) (wd210 V) (wd261 V) (by decide) F107 (argsL := [(.int (0 : Int32))]) (rest := []) (W := 0) rfl rfl (lenOf (pd_20) rfl) rfl rfl at_172 (pc' := 175) rfl (by decide) (by decide) (by decide) (by decide) all0 ?_
    intro T137 h137_ v138 s139 H137 Q140
    obtain ⟨rfl, rfl, rfl⟩ := Q140
    show Go p e below _ (T137.setTop (mkF m 175 #[.val (.int x0), .val (.int x1), .val (.int x2), .val (.int x3), .val (.int (1 : Int32)), .val (.int x5), .val (.ref p0), .val (.ref p1), .val (.ref a102)] [(.int (0 : Int32))]))
    refine G.ifNo H137 at_175 (pc' := 178) rfl (by decide) ?_
    refine G.iconst H137 at_178 (pc' := 179) rfl (v := (1 : Int32)) rfl ?_
    refine G.goto H137 at_179 (by decide) (pc' := 183) rfl ?_
    exact G.retN H137 (t := .boolean) rfl (by decide) at_183 (so := []) all0 (by decide) (by decide) rfl
  ·
    refine G.aload H at_107 (pc' := 109) rfl rfl rfl ?_
    refine G.iload H at_109 (pc' := 111) rfl rfl ?_
    refine G.callS H (m60_boardSome V p1 p4 p5 c2 h0 H.old f1 f9 g5 f15 f16 f17 f18 f19 g20 o21) (wd194 V) (wd195 V) (wd196 V) (wd197 V) (by decide) (argsL := [(.ref p1), (.int (2 : Int32))]) (rest := []) (W := 0) rfl rfl (lenOf (pd_15) rfl) rfl rfl at_111 (pc' := 114) rfl (by decide) (by decide) (by decide) (by decide) all0 ?_
    intro T141 h141_ v142 s143 H141 Q144
    obtain ⟨a145, a146, k147, rfl, rfl, K148, g149, g150, U151, O152, F153, F154, F155, F156, F157, F158, F159, F160, F161, F162⟩ := Q144
    have na145 : n0 ≤ a145 := Nat.le_trans H.le g149
    have na146 : n0 ≤ a146 := Nat.le_trans H.le (Nat.le_of_lt (Nat.lt_of_le_of_lt g149 g150))
    show Go p e below _ (T141.setTop (mkF m 114 #[.val (.int x0), .val (.int x1), .val (.int x2), .val (.int x3), .val (.int (2 : Int32)), .val (.int x5), .val (.ref p0), .val (.ref p1), .unset] []))
    refine G.aload H141 at_114 (pc' := 116) rfl rfl rfl ?_
    have F163 := (U151 "com/example/passenger_flow_sim/passengerflowsim/simulation/Vehicle" "step" "I" (.int (3 : Int32)) f2 (slot_ne (Or.inl (wd140 V)) (Or.inl (wd181 V)) (by decide) (t := .int) (t' := .int) (by decide) (by decide)))
    have F164 := (U151 "com/example/passenger_flow_sim/passengerflowsim/simulation/Vehicle" "loads" "[I" (.ref p2) f3 (slot_ne (Or.inr (wd47 V)) (Or.inl (wd181 V)) (by decide) (t := (.array .int)) (t' := .int) (by decide) (by decide)))
    have F165 := (Arv.keep f4 K148 (ninS q8 (ninS q22 nin0)))
    refine G.callV H141 (m81_leave V p1 p2 c0 h141_ H141.old F163 F164 F165 F153 g5) (wd198 V) (wd199 V) (nf_sel (wd201 V)) (wd201 V) (wd200 V) (wd32 V) (wd202 V) (by decide) F153 (argsL := []) (rest := []) (W := 0) rfl rfl (lenOf (pd_2) rfl) rfl rfl at_116 (pc' := 119) rfl (by decide) (by decide) (by decide) (by decide) all0 ?_
    intro T166 h166_ v167 s168 H166 Q169
    obtain ⟨rfl, rfl, K170, U171, F172, F173, F174⟩ := Q169
    show Go p e below _ (T166.setTop (mkF m 119 #[.val (.int x0), .val (.int x1), .val (.int x2), .val (.int x3), .val (.int (2 : Int32)), .val (.int x5), .val (.ref p0), .val (.ref p1), .unset] []))
    refine G.aload H166 at_119 (pc' := 121) rfl rfl rfl ?_
    have F175 := (U171 "com/example/passenger_flow_sim/passengerflowsim/simulation/Vehicle" "trip" "Lcom/example/passenger_flow_sim/passengerflowsim/timetable/Trip;" (.ref p0) (U151 "com/example/passenger_flow_sim/passengerflowsim/simulation/Vehicle" "trip" "Lcom/example/passenger_flow_sim/passengerflowsim/timetable/Trip;" (.ref p0) f6 (slot_ne (Or.inr (wd38 V)) (Or.inl (wd181 V)) (by decide) (t := (.object "com/example/passenger_flow_sim/passengerflowsim/timetable/Trip")) (t' := .int) (by decide) (by decide))) (slot_ne (Or.inr (wd38 V)) (Or.inl (wd140 V)) (by decide) (t := (.object "com/example/passenger_flow_sim/passengerflowsim/timetable/Trip")) (t' := .int) (by decide) (by decide)))
    have K176 : Keep h0 h166_ [p1, p5] := (Keep.trans (Keep.trans (Keep.refl h0 [p1, p5]) K148 (allS (Or.inl (List.mem_of_getElem? (i := 0) rfl)) (allS (Or.inl (List.mem_of_getElem? (i := 1) rfl)) all0))) K170 (allS (Or.inl (List.mem_of_getElem? (i := 0) rfl)) all0))
    have F177 := (Exa.keep f7 K176)
    have F178 := (Arv.keep F165 K170 (ninS q8 nin0))
    refine G.callV H166 (m25_loads V p1 p0 p2 c0 h166_ H166.old F175 F173 F177 F178) (wd203 V) (wd204 V) (nf_sel (wd206 V)) (wd206 V) (wd205 V) (wd32 V) (wd207 V) (by decide) F174 (argsL := []) (rest := []) (W := 0) rfl rfl (lenOf (pd_17) rfl) rfl rfl at_121 (pc' := 124) rfl (by decide) (by decide) (by decide) (by decide) all0 ?_
    intro T179 h179_ v180 s181 H179 Q182
    obtain ⟨a183, a184, rfl, rfl, K185, g186, g187, F188, F189, F190, F191, F192⟩ := Q182
    have na183 : n0 ≤ a183 := Nat.le_trans H166.le g186
    have na184 : n0 ≤ a184 := Nat.le_trans H166.le (Nat.le_of_lt (Nat.lt_of_le_of_lt g186 g187))
    show Go p e below _ (T179.setTop (mkF m 124 #[.val (.int x0), .val (.int x1), .val (.int x2), .val (.int x3), .val (.int (2 : Int32)), .val (.int x5), .val (.ref p0), .val (.ref p1), .unset] [(.ref a183)]))
    refine G.astore H179 (L' := #[.val (.int x0), .val (.int x1), .val (.int x2), .val (.int x3), .val (.int (2 : Int32)), .val (.int x5), .val (.ref p0), .val (.ref p1), .val (.ref a183)]) at_124 (pc' := 126) rfl rfl rfl ?_
    refine G.aload H179 at_126 (pc' := 128) rfl rfl rfl ?_
    refine G.callV H179 (m26_linkCount V a183 a184 c0 h179_ H179.old F190 F191) (wd221 V) (wd222 V) (nf_sel (wd224 V)) (wd224 V) (wd223 V) (wd210 V) (wd225 V) (by decide) F188 (argsL := []) (rest := []) (W := 0) rfl rfl (lenOf (pd_1) rfl) rfl rfl at_128 (pc' := 131) rfl (by decide) (by decide) (by decide) (by decide) all0 ?_
    intro T193 h193_ v194 s195 H193 Q196
    obtain ⟨rfl, rfl, rfl⟩ := Q196
    show Go p e below _ (T193.setTop (mkF m 131 #[.val (.int x0), .val (.int x1), .val (.int x2), .val (.int x3), .val (.int (2 : Int32)), .val (.int x5), .val (.ref p0), .val (.ref p1), .val (.ref a183)] [(.int (1 : Int32))]))
    refine G.iconst H193 at_131 (pc' := 132) rfl (v := (1 : Int32)) rfl ?_
    refine G.icmpNo H193 at_132 (pc' := 135) rfl (by decide) ?_
    refine G.aload H193 at_135 (pc' := 137) rfl rfl rfl ?_
    have F197 := (Exa.keep F174 K185)
    have F198 := (Fld.keep (U171 "com/example/passenger_flow_sim/passengerflowsim/simulation/Vehicle" "load" "I" (.int (2 : Int32)) F154 (slot_ne (Or.inl (wd181 V)) (Or.inl (wd140 V)) (by decide) (t := .int) (t' := .int) (by decide) (by decide))) K185 nin0)
    refine G.callV H193 (m64_load V p1 h179_ H193.old F198) (wd226 V) (wd227 V) (nf_sel (wd229 V)) (wd229 V) (wd228 V) (wd32 V) (wd230 V) (by decide) F197 (argsL := []) (rest := []) (W := 0) rfl rfl (lenOf (pd_1) rfl) rfl rfl at_137 (pc' := 140) rfl (by decide) (by decide) (by decide) (by decide) all0 ?_
    intro T199 h199_ v200 s201 H199 Q202
    obtain ⟨rfl, rfl, rfl⟩ := Q202
    show Go p e below _ (T199.setTop (mkF m 140 #[.val (.int x0), .val (.int x1), .val (.int x2), .val (.int x3), .val (.int (2 : Int32)), .val (.int x5), .val (.ref p0), .val (.ref p1), .val (.ref a183)] [(.int (2 : Int32))]))
    refine G.iload H199 at_140 (pc' := 142) rfl rfl ?_
    refine G.icmpYes H199 at_142 (by decide) (by decide) (pc' := 147) rfl ?_
    refine G.iload H199 at_147 (pc' := 149) rfl rfl ?_
    refine G.ifNo H199 at_149 (pc' := 152) rfl (XT.i0_eq_f cc10) ?_
    refine G.aload H199 at_152 (pc' := 154) rfl rfl rfl ?_
    have F203 := (Fld.keep F172 K185 nin0)
    have F204 := (Fld.keep F175 K185 nin0)
    have K205 : Keep h0 h179_ [p1, p5] := (Keep.trans (Keep.trans (Keep.trans (Keep.refl h0 [p1, p5]) K148 (allS (Or.inl (List.mem_of_getElem? (i := 0) rfl)) (allS (Or.inl (List.mem_of_getElem? (i := 1) rfl)) all0))) K170 (allS (Or.inl (List.mem_of_getElem? (i := 0) rfl)) all0)) K185 all0)
    have F206 := (Exa.keep f11 K205)
    have N207 : p0 ≠ p1 := Exa.ne F206 F197 (by decide)
    have F208 := (Fld.keep f12 K205 (ninS N207 (ninS q23 nin0)))
    have F209 := (Arv.keep f13 K205 (ninS q14 (ninS q24 nin0)))
    refine G.callV H199 (m82_isDone V p1 p0 p3 c1 h179_ H199.old F203 F204 F206 F208 F209) (wd231 V) (wd232 V) (nf_sel (wd234 V)) (wd234 V) (wd233 V) (wd32 V) (wd235 V) (by decide) F197 (argsL := []) (rest := []) (W := 0) rfl rfl (lenOf (pd_18) rfl) rfl rfl at_154 (pc' := 157) rfl (by decide) (by decide) (by decide) (by decide) all0 ?_
    intro T210 h210_ v211 s212 H210 Q213
    obtain ⟨rfl, rfl, rfl⟩ := Q213
    show Go p e below _ (T210.setTop (mkF m 157 #[.val (.int x0), .val (.int x1), .val (.int x2), .val (.int x3), .val (.int (2 : Int32)), .val (.int x5), .val (.ref p0), .val (.ref p1), .val (.ref a183)] [(.int (1 : Int32))]))
    refine G.ifNo H210 at_157 (pc' := 160) rfl (by decide) ?_
    refine G.aload H210 at_160 (pc' := 162) rfl rfl rfl ?_
    refine G.iconst H210 at_162 (pc' := 163) rfl (v := (1 : Int32)) rfl ?_
    refine G.callV H210 (m83_hasLeft V p1 h179_ H210.old F203) (wd241 V) (wd242 V) (nf_sel (wd244 V)) (wd244 V) (wd243 V) (wd32 V) (wd245 V) (by decide) F197 (argsL := [(.int (1 : Int32))]) (rest := []) (W := 0) rfl rfl (lenOf (pd_19) rfl) rfl rfl at_163 (pc' := 166) rfl (by decide) (by decide) (by decide) (by decide) all0 ?_
    intro T214 h214_ v215 s216 H214 Q217
    obtain ⟨rfl, rfl, rfl⟩ := Q217
    show Go p e below _ (T214.setTop (mkF m 166 #[.val (.int x0), .val (.int x1), .val (.int x2), .val (.int x3), .val (.int (2 : Int32)), .val (.int x5), .val (.ref p0), .val (.ref p1), .val (.ref a183)] [(.int (1 : Int32))]))
    refine G.ifNo H214 at_166 (pc' := 169) rfl (by decide) ?_
    refine G.aload H214 at_169 (pc' := 171) rfl rfl rfl ?_
    refine G.iconst H214 at_171 (pc' := 172) rfl (v := (0 : Int32)) rfl ?_
    refine G.callV H214 (m34_load V a183 a184 c0 h179_ H214.old F190 F191) (wd257 V) (wd258 V) (nf_sel (wd260 V)) (wd260 V) (wd259 V) (wd210 V) (wd261 V) (by decide) F188 (argsL := [(.int (0 : Int32))]) (rest := []) (W := 0) rfl rfl (lenOf (pd_20) rfl) rfl rfl at_172 (pc' := 175) rfl (by decide) (by decide) (by decide) (by decide) all0 ?_
    intro T218 h218_ v219 s220 H218 Q221
    obtain ⟨rfl, rfl, rfl⟩ := Q221
    show Go p e below _ (T218.setTop (mkF m 175 #[.val (.int x0), .val (.int x1), .val (.int x2), .val (.int x3), .val (.int (2 : Int32)), .val (.int x5), .val (.ref p0), .val (.ref p1), .val (.ref a183)] [(.int (0 : Int32))]))
    refine G.ifNo H218 at_175 (pc' := 178) rfl (by decide) ?_
    refine G.iconst H218 at_178 (pc' := 179) rfl (v := (1 : Int32)) rfl ?_
    refine G.goto H218 at_179 (by decide) (pc' := 183) rfl ?_
    exact G.retN H218 (t := .boolean) rfl (by decide) at_183 (so := []) all0 (by decide) (by decide) rfl
  ·
    refine G.aload H at_107 (pc' := 109) rfl rfl rfl ?_
    refine G.iload H at_109 (pc' := 111) rfl rfl ?_
    refine G.callS H (m70_boardSome V p1 p4 p5 c2 h0 H.old f1 f9 g5 f15 f16 f17 f18 f19 g20 o21) (wd194 V) (wd195 V) (wd196 V) (wd197 V) (by decide) (argsL := [(.ref p1), (.int (3 : Int32))]) (rest := []) (W := 0) rfl rfl (lenOf (pd_15) rfl) rfl rfl at_111 (pc' := 114) rfl (by decide) (by decide) (by decide) (by decide) all0 ?_
    intro T222 h222_ v223 s224 H222 Q225
    obtain ⟨a226, a227, k228, rfl, rfl, K229, g230, g231, U232, O233, F234, F235, F236, F237, F238, F239, F240, F241, F242, F243⟩ := Q225
    have na226 : n0 ≤ a226 := Nat.le_trans H.le g230
    have na227 : n0 ≤ a227 := Nat.le_trans H.le (Nat.le_of_lt (Nat.lt_of_le_of_lt g230 g231))
    show Go p e below _ (T222.setTop (mkF m 114 #[.val (.int x0), .val (.int x1), .val (.int x2), .val (.int x3), .val (.int (3 : Int32)), .val (.int x5), .val (.ref p0), .val (.ref p1), .unset] []))
    refine G.aload H222 at_114 (pc' := 116) rfl rfl rfl ?_
    have F244 := (U232 "com/example/passenger_flow_sim/passengerflowsim/simulation/Vehicle" "step" "I" (.int (3 : Int32)) f2 (slot_ne (Or.inl (wd140 V)) (Or.inl (wd181 V)) (by decide) (t := .int) (t' := .int) (by decide) (by decide)))
    have F245 := (U232 "com/example/passenger_flow_sim/passengerflowsim/simulation/Vehicle" "loads" "[I" (.ref p2) f3 (slot_ne (Or.inr (wd47 V)) (Or.inl (wd181 V)) (by decide) (t := (.array .int)) (t' := .int) (by decide) (by decide)))
    have F246 := (Arv.keep f4 K229 (ninS q8 (ninS q22 nin0)))
    refine G.callV H222 (m81_leave V p1 p2 c0 h222_ H222.old F244 F245 F246 F234 g5) (wd198 V) (wd199 V) (nf_sel (wd201 V)) (wd201 V) (wd200 V) (wd32 V) (wd202 V) (by decide) F234 (argsL := []) (rest := []) (W := 0) rfl rfl (lenOf (pd_2) rfl) rfl rfl at_116 (pc' := 119) rfl (by decide) (by decide) (by decide) (by decide) all0 ?_
    intro T247 h247_ v248 s249 H247 Q250
    obtain ⟨rfl, rfl, K251, U252, F253, F254, F255⟩ := Q250
    show Go p e below _ (T247.setTop (mkF m 119 #[.val (.int x0), .val (.int x1), .val (.int x2), .val (.int x3), .val (.int (3 : Int32)), .val (.int x5), .val (.ref p0), .val (.ref p1), .unset] []))
    refine G.aload H247 at_119 (pc' := 121) rfl rfl rfl ?_
    have F256 := (U252 "com/example/passenger_flow_sim/passengerflowsim/simulation/Vehicle" "trip" "Lcom/example/passenger_flow_sim/passengerflowsim/timetable/Trip;" (.ref p0) (U232 "com/example/passenger_flow_sim/passengerflowsim/simulation/Vehicle" "trip" "Lcom/example/passenger_flow_sim/passengerflowsim/timetable/Trip;" (.ref p0) f6 (slot_ne (Or.inr (wd38 V)) (Or.inl (wd181 V)) (by decide) (t := (.object "com/example/passenger_flow_sim/passengerflowsim/timetable/Trip")) (t' := .int) (by decide) (by decide))) (slot_ne (Or.inr (wd38 V)) (Or.inl (wd140 V)) (by decide) (t := (.object "com/example/passenger_flow_sim/passengerflowsim/timetable/Trip")) (t' := .int) (by decide) (by decide)))
    have K257 : Keep h0 h247_ [p1, p5] := (Keep.trans (Keep.trans (Keep.refl h0 [p1, p5]) K229 (allS (Or.inl (List.mem_of_getElem? (i := 0) rfl)) (allS (Or.inl (List.mem_of_getElem? (i := 1) rfl)) all0))) K251 (allS (Or.inl (List.mem_of_getElem? (i := 0) rfl)) all0))
    have F258 := (Exa.keep f7 K257)
    have F259 := (Arv.keep F246 K251 (ninS q8 nin0))
    refine G.callV H247 (m25_loads V p1 p0 p2 c0 h247_ H247.old F256 F254 F258 F259) (wd203 V) (wd204 V) (nf_sel (wd206 V)) (wd206 V) (wd205 V) (wd32 V) (wd207 V) (by decide) F255 (argsL := []) (rest := []) (W := 0) rfl rfl (lenOf (pd_17) rfl) rfl rfl at_121 (pc' := 124) rfl (by decide) (by decide) (by decide) (by decide) all0 ?_
    intro T260 h260_ v261 s262 H260 Q263
    obtain ⟨a264, a265, rfl, rfl, K266, g267, g268, F269, F270, F271, F272, F273⟩ := Q263
    have na264 : n0 ≤ a264 := Nat.le_trans H247.le g267
    have na265 : n0 ≤ a265 := Nat.le_trans H247.le (Nat.le_of_lt (Nat.lt_of_le_of_lt g267 g268))
    show Go p e below _ (T260.setTop (mkF m 124 #[.val (.int x0), .val (.int x1), .val (.int x2), .val (.int x3), .val (.int (3 : Int32)), .val (.int x5), .val (.ref p0), .val (.ref p1), .unset] [(.ref a264)]))
    refine G.astore H260 (L' := #[.val (.int x0), .val (.int x1), .val (.int x2), .val (.int x3), .val (.int (3 : Int32)), .val (.int x5), .val (.ref p0), .val (.ref p1), .val (.ref a264)]) at_124 (pc' := 126) rfl rfl rfl ?_
    refine G.aload H260 at_126 (pc' := 128) rfl rfl rfl ?_
    refine G.callV H260 (m26_linkCount V a264 a265 c0 h260_ H260.old F271 F272) (wd221 V) (wd222 V) (nf_sel (wd224 V)) (wd224 V) (wd223 V) (wd210 V) (wd225 V) (by decide) F269 (argsL := []) (rest := []) (W := 0) rfl rfl (lenOf (pd_1) rfl) rfl rfl at_128 (pc' := 131) rfl (by decide) (by decide) (by decide) (by decide) all0 ?_
    intro T274 h274_ v275 s276 H274 Q277
    obtain ⟨rfl, rfl, rfl⟩ := Q277
    show Go p e below _ (T274.setTop (mkF m 131 #[.val (.int x0), .val (.int x1), .val (.int x2), .val (.int x3), .val (.int (3 : Int32)), .val (.int x5), .val (.ref p0), .val (.ref p1), .val (.ref a264)] [(.int (1 : Int32))]))
    refine G.iconst H274 at_131 (pc' := 132) rfl (v := (1 : Int32)) rfl ?_
    refine G.icmpNo H274 at_132 (pc' := 135) rfl (by decide) ?_
    refine G.aload H274 at_135 (pc' := 137) rfl rfl rfl ?_
    have F278 := (Exa.keep F255 K266)
    have F279 := (Fld.keep (U252 "com/example/passenger_flow_sim/passengerflowsim/simulation/Vehicle" "load" "I" (.int (3 : Int32)) F235 (slot_ne (Or.inl (wd181 V)) (Or.inl (wd140 V)) (by decide) (t := .int) (t' := .int) (by decide) (by decide))) K266 nin0)
    refine G.callV H274 (m74_load V p1 h260_ H274.old F279) (wd226 V) (wd227 V) (nf_sel (wd229 V)) (wd229 V) (wd228 V) (wd32 V) (wd230 V) (by decide) F278 (argsL := []) (rest := []) (W := 0) rfl rfl (lenOf (pd_1) rfl) rfl rfl at_137 (pc' := 140) rfl (by decide) (by decide) (by decide) (by decide) all0 ?_
    intro T280 h280_ v281 s282 H280 Q283
    obtain ⟨rfl, rfl, rfl⟩ := Q283
    show Go p e below _ (T280.setTop (mkF m 140 #[.val (.int x0), .val (.int x1), .val (.int x2), .val (.int x3), .val (.int (3 : Int32)), .val (.int x5), .val (.ref p0), .val (.ref p1), .val (.ref a264)] [(.int (3 : Int32))]))
    refine G.iload H280 at_140 (pc' := 142) rfl rfl ?_
    refine G.icmpYes H280 at_142 (by decide) (by decide) (pc' := 147) rfl ?_
    refine G.iload H280 at_147 (pc' := 149) rfl rfl ?_
    refine G.ifNo H280 at_149 (pc' := 152) rfl (XT.i0_eq_f cc10) ?_
    refine G.aload H280 at_152 (pc' := 154) rfl rfl rfl ?_
    have F284 := (Fld.keep F253 K266 nin0)
    have F285 := (Fld.keep F256 K266 nin0)
    have K286 : Keep h0 h260_ [p1, p5] := (Keep.trans (Keep.trans (Keep.trans (Keep.refl h0 [p1, p5]) K229 (allS (Or.inl (List.mem_of_getElem? (i := 0) rfl)) (allS (Or.inl (List.mem_of_getElem? (i := 1) rfl)) all0))) K251 (allS (Or.inl (List.mem_of_getElem? (i := 0) rfl)) all0)) K266 all0)
    have F287 := (Exa.keep f11 K286)
    have N288 : p0 ≠ p1 := Exa.ne F287 F278 (by decide)
    have F289 := (Fld.keep f12 K286 (ninS N288 (ninS q23 nin0)))
    have F290 := (Arv.keep f13 K286 (ninS q14 (ninS q24 nin0)))
    refine G.callV H280 (m82_isDone V p1 p0 p3 c1 h260_ H280.old F284 F285 F287 F289 F290) (wd231 V) (wd232 V) (nf_sel (wd234 V)) (wd234 V) (wd233 V) (wd32 V) (wd235 V) (by decide) F278 (argsL := []) (rest := []) (W := 0) rfl rfl (lenOf (pd_18) rfl) rfl rfl at_154 (pc' := 157) rfl (by decide) (by decide) (by decide) (by decide) all0 ?_
    intro T291 h291_ v292 s293 H291 Q294
    obtain ⟨rfl, rfl, rfl⟩ := Q294
    show Go p e below _ (T291.setTop (mkF m 157 #[.val (.int x0), .val (.int x1), .val (.int x2), .val (.int x3), .val (.int (3 : Int32)), .val (.int x5), .val (.ref p0), .val (.ref p1), .val (.ref a264)] [(.int (1 : Int32))]))
    refine G.ifNo H291 at_157 (pc' := 160) rfl (by decide) ?_
    refine G.aload H291 at_160 (pc' := 162) rfl rfl rfl ?_
    refine G.iconst H291 at_162 (pc' := 163) rfl (v := (1 : Int32)) rfl ?_
    refine G.callV H291 (m83_hasLeft V p1 h260_ H291.old F284) (wd241 V) (wd242 V) (nf_sel (wd244 V)) (wd244 V) (wd243 V) (wd32 V) (wd245 V) (by decide) F278 (argsL := [(.int (1 : Int32))]) (rest := []) (W := 0) rfl rfl (lenOf (pd_19) rfl) rfl rfl at_163 (pc' := 166) rfl (by decide) (by decide) (by decide) (by decide) all0 ?_
    intro T295 h295_ v296 s297 H295 Q298
    obtain ⟨rfl, rfl, rfl⟩ := Q298
    show Go p e below _ (T295.setTop (mkF m 166 #[.val (.int x0), .val (.int x1), .val (.int x2), .val (.int x3), .val (.int (3 : Int32)), .val (.int x5), .val (.ref p0), .val (.ref p1), .val (.ref a264)] [(.int (1 : Int32))]))
    refine G.ifNo H295 at_166 (pc' := 169) rfl (by decide) ?_
    refine G.aload H295 at_169 (pc' := 171) rfl rfl rfl ?_
    refine G.iconst H295 at_171 (pc' := 172) rfl (v := (0 : Int32)) rfl ?_
    refine G.callV H295 (m34_load V a264 a265 c0 h260_ H295.old F271 F272) (wd257 V) (wd258 V) (nf_sel (wd260 V)) (wd260 V) (wd259 V) (wd210 V) (wd261 V) (by decide) F269 (argsL := [(.int (0 : Int32))]) (rest := []) (W := 0) rfl rfl (lenOf (pd_20) rfl) rfl rfl at_172 (pc' := 175) rfl (by decide) (by decide) (by decide) (by decide) all0 ?_
    intro T299 h299_ v300 s301 H299 Q302
    obtain ⟨rfl, rfl, rfl⟩ := Q302
    show Go p e below _ (T299.setTop (mkF m 175 #[.val (.int x0), .val (.int x1), .val (.int x2), .val (.int x3), .val (.int (3 : Int32)), .val (.int x5), .val (.ref p0), .val (.ref p1), .val (.ref a264)] [(.int (0 : Int32))]))
    refine G.ifNo H299 at_175 (pc' := 178) rfl (by decide) ?_
    refine G.iconst H299 at_178 (pc' := 179) rfl (v := (1 : Int32)) rfl ?_
    refine G.goto H299 at_179 (by decide) (pc' := 183) rfl ?_
    exact G.retN H299 (t := .boolean) rfl (by decide) at_183 (so := []) all0 (by decide) (by decide) rfl
set_option maxRecDepth 65536 in
set_option maxHeartbeats 40000000 in
theorem cut85_21 (V : Env1 Z a0 n0 uu0 uu1 uu2 uu3 uu4 uu5 uu6 uu7 uu8 uu9) (x0 : Int32) (x1 : Int32) (x2 : Int32) (x3 : Int32) (x4 : Int32) (x5 : Int32) (H : Hs p l e room_1 s m as' below meth c Z a0 [] False x.cls n0 code maxLocals ret x.name T h0 0 0 []) (bo_x5 : x5 = 0 ∨ x5 = 1) (cc1 : ¬ (x3 + (1 : Int32)) < x3) (cc2 : ¬ (x3 + (3 : Int32)) < (x3 + (2 : Int32))) (cc3 : ¬ (x3 + (2 : Int32)) < (x3 + (1 : Int32))) (sq4 : x4 = (0 : Int32) ∨ x4 = (1 : Int32) ∨ x4 = (2 : Int32) ∨ x4 = (3 : Int32)) :
    Go p e below (FinP s below Z [] False n0 room_1.cells room_1.slots (fun v h so => v = some (.int 1))) (T.setTop (mkF m 21 #[.val (.int x0), .val (.int x1), .val (.int x2), .val (.int x3), .val (.int x4), .unset, .unset, .unset, .unset] [(.int x5)])) := by
  refine G.istore H (L' := #[.val (.int x0), .val (.int x1), .val (.int x2), .val (.int x3), .val (.int x4), .val (.int x5), .unset, .unset, .unset]) at_21 (pc' := 23) rfl rfl ?_
  refine G.new H (wd1 V) (wd2 V) (wd3 V) at_23 (pc' := 26) rfl (by decide) (by decide) ?_
  intro T1 h1_ a2 ga2 H1 E3 A4 D5
  have na2 := H.nle ga2
  refine G.dup H1 at_26 (pc' := 27) rfl rfl ?_
  refine G.aconstNull H1 at_27 (pc' := 28) rfl ?_
  refine G.aconstNull H1 at_28 (pc' := 29) rfl ?_
  refine G.iconst H1 at_29 (pc' := 30) rfl (v := (2 : Int32)) rfl ?_
  refine G.newP H1 (aty := .int) (wd4 V) at_30 (pc' := 32) rfl (by decide) (cap := 2) (by decide) (by decide) (by decide) (by decide) (vs := [(.int (0 : Int32)), (.int (0 : Int32))]) rfl (ad := "[I") rfl ?_
  intro T6 h6_ a7 k10 ga7 H6 E8 A9 X11
  have na7 := H1.nle ga7
  replace A9 : Arv Z h6_ a7 k10 .int (2 : Int32) [(.int (0 : Int32)), (.int (0 : Int32))] (.int 0) := A9
  refine G.dup H6 at_32 (pc' := 33) rfl rfl ?_
  refine G.iconst H6 at_33 (pc' := 34) rfl (v := (0 : Int32)) rfl ?_
  refine G.iconst H6 at_34 (pc' := 35) rfl (v := (0 : Int32)) rfl ?_
  refine G.stI H6 A9 (by decide) (i := 0) rfl (Nat.le_of_ble_eq_true rfl) na7 at_35 (pc' := 36) rfl ?_
  intro T12 h12_ H12 W13 A14
  replace A14 : Arv Z h12_ a7 k10 .int (2 : Int32) [(.int (0 : Int32)), (.int (0 : Int32))] (.int 0) := A14
  refine G.dup H12 at_36 (pc' := 37) rfl rfl ?_
  refine G.iconst H12 at_37 (pc' := 38) rfl (v := (1 : Int32)) rfl ?_
  refine G.iconst H12 at_38 (pc' := 39) rfl (v := (1 : Int32)) rfl ?_
  refine G.stI H12 A14 (by decide) (i := 1) rfl (Nat.le_of_ble_eq_true rfl) na7 at_39 (pc' := 40) rfl ?_
  intro T15 h15_ H15 W16 A17
  replace A17 : Arv Z h15_ a7 k10 .int (2 : Int32) [(.int (0 : Int32)), (.int (1 : Int32))] (.int 0) := A17
  refine G.iconst H15 at_40 (pc' := 41) rfl (v := (2 : Int32)) rfl ?_
  refine G.newP H15 (aty := .int) (wd4 V) at_41 (pc' := 43) rfl (by decide) (cap := 2) (by decide) (by decide) (by decide) (by decide) (vs := [(.int (0 : Int32)), (.int (0 : Int32))]) rfl (ad := "[I") rfl ?_
  intro T18 h18_ a19 k22 ga19 H18 E20 A21 X23
  have na19 := H15.nle ga19
  replace A21 : Arv Z h18_ a19 k22 .int (2 : Int32) [(.int (0 : Int32)), (.int (0 : Int32))] (.int 0) := A21
  refine G.dup H18 at_43 (pc' := 44) rfl rfl ?_
  refine G.iconst H18 at_44 (pc' := 45) rfl (v := (0 : Int32)) rfl ?_
  refine G.iloadN H18 at_45 (pc' := 46) rfl rfl ?_
  refine G.stI H18 A21 (by decide) (i := 0) rfl (Nat.le_of_ble_eq_true rfl) na19 at_46 (pc' := 47) rfl ?_
  intro T24 h24_ H24 W25 A26
  replace A26 : Arv Z h24_ a19 k22 .int (2 : Int32) [(.int x3), (.int (0 : Int32))] (.int 0) := A26
  refine G.dup H24 at_47 (pc' := 48) rfl rfl ?_
  refine G.iconst H24 at_48 (pc' := 49) rfl (v := (1 : Int32)) rfl ?_
  refine G.iloadN H24 at_49 (pc' := 50) rfl rfl ?_
  refine G.iconst H24 at_50 (pc' := 51) rfl (v := (2 : Int32)) rfl ?_
  refine G.iadd H24 at_51 (pc' := 52) rfl ?_
  refine G.stI H24 A26 (by decide) (i := 1) rfl (Nat.le_of_ble_eq_true rfl) na19 at_52 (pc' := 53) rfl ?_
  intro T27 h27_ H27 W28 A29
  replace A29 : Arv Z h27_ a19 k22 .int (2 : Int32) [(.int x3), (.int (x3 + (2 : Int32)))] (.int 0) := A29
  refine G.iconst H27 at_53 (pc' := 54) rfl (v := (2 : Int32)) rfl ?_
  refine G.newP H27 (aty := .int) (wd4 V) at_54 (pc' := 56) rfl (by decide) (cap := 2) (by decide) (by decide) (by decide) (by decide) (vs := [(.int (0 : Int32)), (.int (0 : Int32))]) rfl (ad := "[I") rfl ?_
  intro T30 h30_ a31 k34 ga31 H30 E32 A33 X35
  have na31 := H27.nle ga31
  replace A33 : Arv Z h30_ a31 k34 .int (2 : Int32) [(.int (0 : Int32)), (.int (0 : Int32))] (.int 0) := A33
  refine G.dup H30 at_56 (pc' := 57) rfl rfl ?_
  refine G.iconst H30 at_57 (pc' := 58) rfl (v := (0 : Int32)) rfl ?_
  refine G.iloadN H30 at_58 (pc' := 59) rfl rfl ?_
  refine G.iconst H30 at_59 (pc' := 60) rfl (v := (1 : Int32)) rfl ?_
  refine G.iadd H30 at_60 (pc' := 61) rfl ?_
  refine G.stI H30 A33 (by decide) (i := 0) rfl (Nat.le_of_ble_eq_true rfl) na31 at_61 (pc' := 62) rfl ?_
  intro T36 h36_ H36 W37 A38
  replace A38 : Arv Z h36_ a31 k34 .int (2 : Int32) [(.int (x3 + (1 : Int32))), (.int (0 : Int32))] (.int 0) := A38
  refine G.dup H36 at_62 (pc' := 63) rfl rfl ?_
  refine G.iconst H36 at_63 (pc' := 64) rfl (v := (1 : Int32)) rfl ?_
  refine G.iloadN H36 at_64 (pc' := 65) rfl rfl ?_
  refine G.iconst H36 at_65 (pc' := 66) rfl (v := (3 : Int32)) rfl ?_
  refine G.iadd H36 at_66 (pc' := 67) rfl ?_
  refine G.stI H36 A38 (by decide) (i := 1) rfl (Nat.le_of_ble_eq_true rfl) na31 at_67 (pc' := 68) rfl ?_
  intro T39 h39_ H39 W40 A41
  replace A41 : Arv Z h39_ a31 k34 .int (2 : Int32) [(.int (x3 + (1 : Int32))), (.int (x3 + (3 : Int32)))] (.int 0) := A41
  have K42 : Keep h15_ h27_ [] := (Keep.wr (Keep.wr (Keep.ext (Keep.refl h15_ []) E20) W25 (Or.inr (Nat.le_of_eq ga19.symm))) W28 (Or.inr (Nat.le_of_eq ga19.symm)))
  have K43 : Keep h15_ h39_ [] := (Keep.wr (Keep.wr (Keep.ext (Keep.wr (Keep.wr (Keep.ext (Keep.refl h15_ []) E20) W25 (Or.inr (Nat.le_of_eq ga19.symm))) W28 (Or.inr (Nat.le_of_eq ga19.symm))) E32) W37 (Or.inr (Nat.le_trans K42.1 (Nat.le_of_eq ga31.symm)))) W40 (Or.inr (Nat.le_trans K42.1 (Nat.le_of_eq ga31.symm))))
  have F44 := (Arv.keep A17 K43 nin0)
  have K45 : Keep h27_ h39_ [] := (Keep.wr (Keep.wr (Keep.ext (Keep.refl h27_ []) E32) W37 (Or.inr (Nat.le_of_eq ga31.symm))) W40 (Or.inr (Nat.le_of_eq ga31.symm)))
  have F46 := (Arv.keep A29 K45 nin0)
  have K47 : Keep h1_ h15_ [] := (Keep.wr (Keep.wr (Keep.ext (Keep.refl h1_ []) E8) W13 (Or.inr (Nat.le_of_eq ga7.symm))) W16 (Or.inr (Nat.le_of_eq ga7.symm)))
  have K48 : Keep h1_ h27_ [] := (Keep.wr (Keep.wr (Keep.ext (Keep.wr (Keep.wr (Keep.ext (Keep.refl h1_ []) E8) W13 (Or.inr (Nat.le_of_eq ga7.symm))) W16 (Or.inr (Nat.le_of_eq ga7.symm))) E20) W25 (Or.inr (Nat.le_trans K47.1 (Nat.le_of_eq ga19.symm)))) W28 (Or.inr (Nat.le_trans K47.1 (Nat.le_of_eq ga19.symm))))
  have K49 : Keep h1_ h39_ [] := (Keep.wr (Keep.wr (Keep.ext (Keep.wr (Keep.wr (Keep.ext (Keep.wr (Keep.wr (Keep.ext (Keep.refl h1_ []) E8) W13 (Or.inr (Nat.le_of_eq ga7.symm))) W16 (Or.inr (Nat.le_of_eq ga7.symm))) E20) W25 (Or.inr (Nat.le_trans K47.1 (Nat.le_of_eq ga19.symm)))) W28 (Or.inr (Nat.le_trans K47.1 (Nat.le_of_eq ga19.symm)))) E32) W37 (Or.inr (Nat.le_trans K48.1 (Nat.le_of_eq ga31.symm)))) W40 (Or.inr (Nat.le_trans K48.1 (Nat.le_of_eq ga31.symm))))
  have F50 := (Exa.keep A4 K49)
  have F51 : Fld Z h1_ a2 "com/example/passenger_flow_sim/passengerflowsim/timetable/Trip" "id" "Ljava/lang/String;" .null := D5 (Or.inr (wd12 V)) (ty := (.object "java/lang/String")) (by decide)
  have F52 := (Fld.keep F51 K49 nin0)
  have F53 : Fld Z h1_ a2 "com/example/passenger_flow_sim/passengerflowsim/timetable/Trip" "routeId" "Ljava/lang/String;" .null := D5 (Or.inr (wd14 V)) (ty := (.object "java/lang/String")) (by decide)
  have F54 := (Fld.keep F53 K49 nin0)
  have K55 : Keep h6_ h15_ [a7] := (Keep.wr (Keep.wr (Keep.refl h6_ [a7]) W13 (Or.inl (List.mem_of_getElem? (i := 0) rfl))) W16 (Or.inl (List.mem_of_getElem? (i := 0) rfl)))
  have K56 : Keep h6_ h27_ [a7] := (Keep.wr (Keep.wr (Keep.ext (Keep.wr (Keep.wr (Keep.refl h6_ [a7]) W13 (Or.inl (List.mem_of_getElem? (i := 0) rfl))) W16 (Or.inl (List.mem_of_getElem? (i := 0) rfl))) E20) W25 (Or.inr (Nat.le_trans K55.1 (Nat.le_of_eq ga19.symm)))) W28 (Or.inr (Nat.le_trans K55.1 (Nat.le_of_eq ga19.symm))))
  have K57 : Keep h6_ h39_ [a7] := (Keep.wr (Keep.wr (Keep.ext (Keep.wr (Keep.wr (Keep.ext (Keep.wr (Keep.wr (Keep.refl h6_ [a7]) W13 (Or.inl (List.mem_of_getElem? (i := 0) rfl))) W16 (Or.inl (List.mem_of_getElem? (i := 0) rfl))) E20) W25 (Or.inr (Nat.le_trans K55.1 (Nat.le_of_eq ga19.symm)))) W28 (Or.inr (Nat.le_trans K55.1 (Nat.le_of_eq ga19.symm)))) E32) W37 (Or.inr (Nat.le_trans K56.1 (Nat.le_of_eq ga31.symm)))) W40 (Or.inr (Nat.le_trans K56.1 (Nat.le_of_eq ga31.symm))))
  have F58 := (Exa.keep X11 K57)
  have N59 : a7 ≠ a2 := Ne.symm (Exa.neArv F50 F44 (wd2 V))
  have F60 : Fld Z h1_ a2 "com/example/passenger_flow_sim/passengerflowsim/timetable/Trip" "stops" "[I" .null := D5 (Or.inr (wd25 V)) (ty := (.array .int)) (by decide)
  have F61 := (Fld.keep F60 K49 nin0)
  have K62 : Keep h18_ h27_ [a19] := (Keep.wr (Keep.wr (Keep.refl h18_ [a19]) W25 (Or.inl (List.mem_of_getElem? (i := 0) rfl))) W28 (Or.inl (List.mem_of_getElem? (i := 0) rfl)))
  have K63 : Keep h18_ h39_ [a19] := (Keep.wr (Keep.wr (Keep.ext (Keep.wr (Keep.wr (Keep.refl h18_ [a19]) W25 (Or.inl (List.mem_of_getElem? (i := 0) rfl))) W28 (Or.inl (List.mem_of_getElem? (i := 0) rfl))) E32) W37 (Or.inr (Nat.le_trans K62.1 (Nat.le_of_eq ga31.symm)))) W40 (Or.inr (Nat.le_trans K62.1 (Nat.le_of_eq ga31.symm))))
  have F64 := (Exa.keep X23 K63)
  have N65 : a19 ≠ a2 := Ne.symm (Exa.neArv F50 F46 (wd2 V))
  have F66 : Fld Z h1_ a2 "com/example/passenger_flow_sim/passengerflowsim/timetable/Trip" "arrivals" "[I" .null := D5 (Or.inr (wd27 V)) (ty := (.array .int)) (by decide)
  have F67 := (Fld.keep F66 K49 nin0)
  have K68 : Keep h30_ h39_ [a31] := (Keep.wr (Keep.wr (Keep.refl h30_ [a31]) W37 (Or.inl (List.mem_of_getElem? (i := 0) rfl))) W40 (Or.inl (List.mem_of_getElem? (i := 0) rfl)))
  have F69 := (Exa.keep X35 K68)
  have N70 : a31 ≠ a2 := Ne.symm (Exa.neArv F50 A41 (wd2 V))
  have F71 : Fld Z h1_ a2 "com/example/passenger_flow_sim/passengerflowsim/timetable/Trip" "departures" "[I" .null := D5 (Or.inr (wd29 V)) (ty := (.array .int)) (by decide)
  have F72 := (Fld.keep F71 K49 nin0)
  refine G.callI H39 (m1_init V a2 a7 a19 a31 k10 k22 x3 (x3 + (2 : Int32)) k34 (x3 + (1 : Int32)) (x3 + (3 : Int32)) h39_ H39.old F44 F46 A41 cc1 cc2 cc3 F50 F52 na2 F54 F58 N59 F61 F64 N65 F67 F69 N70 F72) rfl (wd5 V) (wd6 V) (wd3 V) (wd7 V) (by decide) (a := a2) (argsL := [.null, .null, (.ref a7), (.ref a19), (.ref a31)]) (rest := [(.ref a2)]) (W := 1) rfl rfl (lenOf (pd_0) rfl) rfl rfl at_68 (pc' := 71) rfl (by decide) (by decide) (by decide) (by decide) all0 ?_
  intro T73 h73_ v74 s75 H73 Q76
  obtain ⟨a77, a78, a79, rfl, rfl, K80, g81, g82, g83, U84, F85, F86, F87, F88, F89, F90, F91, F92, F93, F94, F95, F96⟩ := Q76
  have na77 : n0 ≤ a77 := Nat.le_trans H39.le g81
  have na78 : n0 ≤ a78 := Nat.le_trans H39.le (Nat.le_of_lt (Nat.lt_of_le_of_lt g81 g82))
  have na79 : n0 ≤ a79 := Nat.le_trans H39.le (Nat.le_of_lt (Nat.lt_of_le_of_lt (Nat.le_of_lt (Nat.lt_of_le_of_lt g81 g82)) g83))
  show Go p e below _ (T73.setTop (mkF m 71 #[.val (.int x0), .val (.int x1), .val (.int x2), .val (.int x3), .val (.int x4), .val (.int x5), .unset, .unset, .unset] [(.ref a2)]))
  refine G.astore H73 (L' := #[.val (.int x0), .val (.int x1), .val (.int x2), .val (.int x3), .val (.int x4), .val (.int x5), .val (.ref a2), .unset, .unset]) at_71 (pc' := 73) rfl rfl rfl ?_
  refine G.new H73 (wd30 V) (wd31 V) (wd32 V) at_73 (pc' := 76) rfl (by decide) (by decide) ?_
  intro T97 h97_ a98 ga98 H97 E99 A100 D101
  have na98 := H73.nle ga98
  refine G.dup H97 at_76 (pc' := 77) rfl rfl ?_
  refine G.aload H97 at_77 (pc' := 79) rfl rfl rfl ?_
  refine G.iloadN H97 at_79 (pc' := 80) rfl rfl ?_
  have F102 : Fld Z h97_ a98 "com/example/passenger_flow_sim/passengerflowsim/simulation/Vehicle" "trip" "Lcom/example/passenger_flow_sim/passengerflowsim/timetable/Trip;" .null := D101 (Or.inr (wd38 V)) (ty := (.object "com/example/passenger_flow_sim/passengerflowsim/timetable/Trip")) (by decide)
  have F103 : Fld Z h97_ a98 "com/example/passenger_flow_sim/passengerflowsim/simulation/Vehicle" "order" "I" (.int (0 : Int32)) := D101 (Or.inr (wd40 V)) (ty := .int) (by decide)
  have F104 := (Exa.ext E99 F85)
  have F105 := (Fld.ext E99 F88)
  have F106 := (Arv.ext F91 E99)
  have N107 : a77 ≠ a98 := Ne.symm (Exa.neArv A100 F106 (wd31 V))
  have F108 : Fld Z h97_ a98 "com/example/passenger_flow_sim/passengerflowsim/simulation/Vehicle" "loads" "[I" .null := D101 (Or.inr (wd47 V)) (ty := (.array .int)) (by decide)
  have F109 : Fld Z h97_ a98 "com/example/passenger_flow_sim/passengerflowsim/simulation/Vehicle" "waiting" "Ljava/util/List;" .null := D101 (Or.inr (wd131 V)) (ty := (.object "java/util/List")) (by decide)
  have F110 : Fld Z h97_ a98 "com/example/passenger_flow_sim/passengerflowsim/simulation/Vehicle" "alighting" "Ljava/util/List;" .null := D101 (Or.inr (wd133 V)) (ty := (.object "java/util/List")) (by decide)
  refine G.callI H97 (m12_init V a98 a2 x2 a77 k10 h97_ H97.old A100 F102 na98 F103 F104 F105 F106 N107 F108 F109 F110) rfl (wd33 V) (wd34 V) (wd32 V) (wd35 V) (by decide) (a := a98) (argsL := [(.ref a2), (.int x2)]) (rest := [(.ref a98)]) (W := 1) rfl rfl (lenOf (pd_9) rfl) rfl rfl at_80 (pc' := 83) rfl (by decide) (by decide) (by decide) (by decide) all0 ?_
  intro T111 h111_ v112 s113 H111 Q114
  obtain ⟨a115, a116, a117, a118, a119, k120, k121, k122, rfl, rfl, K123, g124, g125, g126, g127, g128, U129, O130, O131, F132, F133, F134, F135, F136, F137, F138, F139, F140, F141, F142, F143, F144, F145, F146, F147, F148, F149, F150, F151⟩ := Q114
  have na115 : n0 ≤ a115 := Nat.le_trans H97.le g124
  have na116 : n0 ≤ a116 := Nat.le_trans H97.le (Nat.le_of_lt (Nat.lt_of_le_of_lt g124 g125))
  have na117 : n0 ≤ a117 := Nat.le_trans H97.le (Nat.le_of_lt (Nat.lt_of_le_of_lt (Nat.le_of_lt (Nat.lt_of_le_of_lt g124 g125)) g126))
  have na118 : n0 ≤ a118 := Nat.le_trans H97.le (Nat.le_of_lt (Nat.lt_of_le_of_lt (Nat.le_of_lt (Nat.lt_of_le_of_lt (Nat.le_of_lt (Nat.lt_of_le_of_lt g124 g125)) g126)) g127))
  have na119 : n0 ≤ a119 := Nat.le_trans H97.le (Nat.le_of_lt (Nat.lt_of_le_of_lt (Nat.le_of_lt (Nat.lt_of_le_of_lt (Nat.le_of_lt (Nat.lt_of_le_of_lt (Nat.le_of_lt (Nat.lt_of_le_of_lt g124 g125)) g126)) g127)) g128))
  show Go p e below _ (T111.setTop (mkF m 83 #[.val (.int x0), .val (.int x1), .val (.int x2), .val (.int x3), .val (.int x4), .val (.int x5), .val (.ref a2), .unset, .unset] [(.ref a98)]))
  refine G.astore H111 (L' := #[.val (.int x0), .val (.int x1), .val (.int x2), .val (.int x3), .val (.int x4), .val (.int x5), .val (.ref a2), .val (.ref a98), .unset]) at_83 (pc' := 85) rfl rfl rfl ?_
  refine G.aload H111 at_85 (pc' := 87) rfl rfl rfl ?_
  have F152 : Fld Z h97_ a98 "com/example/passenger_flow_sim/passengerflowsim/simulation/Vehicle" "step" "I" (.int (0 : Int32)) := D101 (Or.inl (wd140 V)) (ty := .int) (by decide)
  have F153 := (U129 "com/example/passenger_flow_sim/passengerflowsim/simulation/Vehicle" "step" "I" (.int (0 : Int32)) F152 (slot_ne (Or.inl (wd140 V)) (Or.inr (wd38 V)) (by decide) (t := .int) (t' := (.object "com/example/passenger_flow_sim/passengerflowsim/timetable/Trip")) (by decide) (by decide)) (slot_ne (Or.inl (wd140 V)) (Or.inr (wd40 V)) (by decide) (t := .int) (t' := .int) (by decide) (by decide)) (slot_ne (Or.inl (wd140 V)) (Or.inr (wd47 V)) (by decide) (t := .int) (t' := (.array .int)) (by decide) (by decide)) (slot_ne (Or.inl (wd140 V)) (Or.inr (wd131 V)) (by decide) (t := .int) (t' := (.object "java/util/List")) (by decide) (by decide)) (slot_ne (Or.inl (wd140 V)) (Or.inr (wd133 V)) (by decide) (t := .int) (t' := (.object "java/util/List")) (by decide) (by decide)))
  have F154 : Fld Z h97_ a98 "com/example/passenger_flow_sim/passengerflowsim/simulation/Vehicle" "load" "I" (.int (0 : Int32)) := D101 (Or.inl (wd181 V)) (ty := .int) (by decide)
  have F155 := (U129 "com/example/passenger_flow_sim/passengerflowsim/simulation/Vehicle" "load" "I" (.int (0 : Int32)) F154 (slot_ne (Or.inl (wd181 V)) (Or.inr (wd38 V)) (by decide) (t := .int) (t' := (.object "com/example/passenger_flow_sim/passengerflowsim/timetable/Trip")) (by decide) (by decide)) (slot_ne (Or.inl (wd181 V)) (Or.inr (wd40 V)) (by decide) (t := .int) (t' := .int) (by decide) (by decide)) (slot_ne (Or.inl (wd181 V)) (Or.inr (wd47 V)) (by decide) (t := .int) (t' := (.array .int)) (by decide) (by decide)) (slot_ne (Or.inl (wd181 V)) (Or.inr (wd131 V)) (by decide) (t := .int) (t' := (.object "java/util/List")) (by decide) (by decide)) (slot_ne (Or.inl (wd181 V)) (Or.inr (wd133 V)) (by decide) (t := .int) (t' := (.object "java/util/List")) (by decide) (by decide)))
  have N156 : a98 ≠ a119 := Exa.neArv F132 F150 (wd31 V)
  refine G.callV H111 (m21_arrive V a98 a118 a119 k122 h111_ H111.old F137 F153 F146 F148 F149 F150 na119 F155 N156 F132 na98) (wd134 V) (wd135 V) (nf_sel (wd137 V)) (wd137 V) (wd136 V) (wd32 V) (wd138 V) (by decide) F132 (argsL := []) (rest := []) (W := 0) rfl rfl (lenOf (pd_13) rfl) rfl rfl at_87 (pc' := 90) rfl (by decide) (by decide) (by decide) (by decide) all0 ?_
  intro T157 h157_ v158 s159 H157 Q160
  obtain ⟨rfl, rfl, K161, U162, F163, F164, F165, F166, F167⟩ := Q160
  show Go p e below _ (T157.setTop (mkF m 90 #[.val (.int x0), .val (.int x1), .val (.int x2), .val (.int x3), .val (.int x4), .val (.int x5), .val (.ref a2), .val (.ref a98), .unset] [(.ref uu1)]))
  refine G.pop H157 at_90 (pc' := 91) rfl rfl ?_
  refine G.iload H157 at_91 (pc' := 93) rfl rfl ?_
  by_cases c168 : x5 = (0 : Int32)
  ·
    refine G.ifYes H157 at_93 (XT.i0_eq_t c168) (by decide) (pc' := 107) rfl ?_
    have F169 := (U162 "com/example/passenger_flow_sim/passengerflowsim/simulation/Vehicle" "loads" "[I" (.ref a115) F135 (slot_ne (Or.inr (wd47 V)) (Or.inl (wd181 V)) (by decide) (t := (.array .int)) (t' := .int) (by decide) (by decide)) (slot_ne (Or.inr (wd47 V)) (Or.inl (wd140 V)) (by decide) (t := (.array .int)) (t' := .int) (by decide) (by decide)))
    have N170 : a115 ≠ a98 := (Ne.symm (Nat.ne_of_lt (Nat.lt_of_lt_of_le A100.lt g124)))
    have N171 : a115 ≠ a119 := (Nat.ne_of_lt (Nat.lt_trans (Nat.lt_trans (Nat.lt_trans g125 g126) g127) g128))
    have F172 := (Arv.keep F138 K161 (ninS N171 (ninS N170 nin0)))
    have F173 := (U162 "com/example/passenger_flow_sim/passengerflowsim/simulation/Vehicle" "trip" "Lcom/example/passenger_flow_sim/passengerflowsim/timetable/Trip;" (.ref a2) F133 (slot_ne (Or.inr (wd38 V)) (Or.inl (wd181 V)) (by decide) (t := (.object "com/example/passenger_flow_sim/passengerflowsim/timetable/Trip")) (t' := .int) (by decide) (by decide)) (slot_ne (Or.inr (wd38 V)) (Or.inl (wd140 V)) (by decide) (t := (.object "com/example/passenger_flow_sim/passengerflowsim/timetable/Trip")) (t' := .int) (by decide) (by decide)))
    have F174 := (Exa.keep F139 K161)
    have K175 : Keep h97_ h157_ [a98] := (Keep.trans (Keep.trans (Keep.refl h97_ [a98]) K123 (allS (Or.inl (List.mem_of_getElem? (i := 0) rfl)) all0)) K161 (allS (Or.inr (Nat.le_of_lt (Nat.lt_of_le_of_lt (Nat.le_of_lt (Nat.lt_of_le_of_lt (Nat.le_of_lt (Nat.lt_of_le_of_lt (Nat.le_of_lt (Nat.lt_of_le_of_lt g124 g125)) g126)) g127)) g128))) (allS (Or.inl (List.mem_of_getElem? (i := 0) rfl)) all0)))
    have F176 := (Exa.keep F104 K175)
    have N177 : a2 ≠ a98 := Exa.ne F176 F167 (by decide)
    have F178 := (Fld.keep F105 K175 (ninS N177 nin0))
    have N179 : a2 ≠ a115 := Exa.neArv F176 F172 (wd2 V)
    have F180 := (Arv.keep F106 K175 (ninS N107 nin0))
    have K181 : Keep h73_ h97_ [] := (Keep.ext (Keep.refl h73_ []) E99)
    have N182 : a77 ≠ a115 := (Nat.ne_of_lt (Nat.lt_of_lt_of_le (Nat.lt_of_lt_of_le F91.lt K181.1) g124))
    have K183 : Keep h73_ h157_ [] := (Keep.trans (Keep.trans (Keep.ext (Keep.refl h73_ []) E99) K123 (allS (Or.inr (Nat.le_of_eq ga98.symm)) all0)) K161 (allS (Or.inr (Nat.le_trans K181.1 (Nat.le_of_lt (Nat.lt_of_le_of_lt (Nat.le_of_lt (Nat.lt_of_le_of_lt (Nat.le_of_lt (Nat.lt_of_le_of_lt (Nat.le_of_lt (Nat.lt_of_le_of_lt g124 g125)) g126)) g127)) g128)))) (allS (Or.inr (Nat.le_of_eq ga98.symm)) all0)))
    have F184 := (Fld.keep F89 K183 nin0)
    have F185 := (Arv.keep F93 K183 nin0)
    have N186 : a78 ≠ a98 := Ne.symm (Exa.neArv F167 F185 (wd31 V))
    have N187 : a78 ≠ a115 := (Nat.ne_of_lt (Nat.lt_of_lt_of_le (Nat.lt_of_lt_of_le F93.lt K181.1) g124))
    have F188 := (Exa.keep F146 K161)
    have N189 : a118 ≠ a98 := Exa.ne F188 F167 (by decide)
    have N190 : a118 ≠ a119 := Exa.neArv F188 F163 (wd49 V)
    have F191 := (Fld.keep F148 K161 (ninS N190 (ninS N189 nin0)))
    have F192 := (Fld.keep F149 K161 (ninS N190 (ninS N189 nin0)))
    have N193 : a2 ≠ a119 := Exa.neArv F176 F163 (wd2 V)
    have N194 : a77 ≠ a119 := arv_tyne F180 F163 (by decide)
    have N195 : a78 ≠ a119 := arv_tyne F185 F163 (by decide)
    exact cut76_107 V x0 x1 x2 x3 x4 x5 a2 a98 a115 k120 a77 k10 a78 k22 (x3 + (2 : Int32)) a118 a119 k122 ((H157.less all0).mono (C' := 17) (S' := 45) (by decide) (by decide)) sq4 F167 F165 F169 F172 F166 na115 na98 F173 F174 c168 F176 F178 N179 F180 N107 N182 F184 F185 N186 N187 rfl F164 F188 F191 F192 F163 na119 O131 N171 N170 N193 N194 N195
  ·
    refine G.ifNo H157 at_93 (pc' := 96) rfl (XT.i0_eq_f c168) ?_
    refine G.aload H157 at_96 (pc' := 98) rfl rfl rfl ?_
    have F196 := (U162 "com/example/passenger_flow_sim/passengerflowsim/simulation/Vehicle" "loads" "[I" (.ref a115) F135 (slot_ne (Or.inr (wd47 V)) (Or.inl (wd181 V)) (by decide) (t := (.array .int)) (t' := .int) (by decide) (by decide)) (slot_ne (Or.inr (wd47 V)) (Or.inl (wd140 V)) (by decide) (t := (.array .int)) (t' := .int) (by decide) (by decide)))
    have N197 : a115 ≠ a98 := (Ne.symm (Nat.ne_of_lt (Nat.lt_of_lt_of_le A100.lt g124)))
    have N198 : a115 ≠ a119 := (Nat.ne_of_lt (Nat.lt_trans (Nat.lt_trans (Nat.lt_trans g125 g126) g127) g128))
    have F199 := (Arv.keep F138 K161 (ninS N198 (ninS N197 nin0)))
    refine G.callV H157 (m23_leave V a98 a115 k120 h157_ H157.old F165 F196 F199 F166 na115 (Ne.symm N197) F167 na98) (wd198 V) (wd199 V) (nf_sel (wd201 V)) (wd201 V) (wd200 V) (wd32 V) (wd202 V) (by decide) F167 (argsL := []) (rest := []) (W := 0) rfl rfl (lenOf (pd_2) rfl) rfl rfl at_98 (pc' := 101) rfl (by decide) (by decide) (by decide) (by decide) all0 ?_
    intro T200 h200_ v201 s202 H200 Q203
    obtain ⟨rfl, rfl, K204, U205, F206, F207, F208, F209, F210⟩ := Q203
    show Go p e below _ (T200.setTop (mkF m 101 #[.val (.int x0), .val (.int x1), .val (.int x2), .val (.int x3), .val (.int x4), .val (.int x5), .val (.ref a2), .val (.ref a98), .unset] []))
    refine G.aload H200 at_101 (pc' := 103) rfl rfl rfl ?_
    have F211 := (U205 "com/example/passenger_flow_sim/passengerflowsim/simulation/Vehicle" "alighting" "Ljava/util/List;" (.ref a118) F164 (slot_ne (Or.inr (wd133 V)) (Or.inl (wd140 V)) (by decide) (t := (.object "java/util/List")) (t' := .int) (by decide) (by decide)))
    have K212 : Keep h111_ h200_ [a119, a98, a115] := (Keep.trans (Keep.trans (Keep.refl h111_ [a119, a98, a115]) K161 (allS (Or.inl (List.mem_of_getElem? (i := 0) rfl)) (allS (Or.inl (List.mem_of_getElem? (i := 1) rfl)) all0))) K204 (allS (Or.inl (List.mem_of_getElem? (i := 2) rfl)) (allS (Or.inl (List.mem_of_getElem? (i := 1) rfl)) all0)))
    have F213 := (Exa.keep F146 K212)
    have N214 : a118 ≠ a115 := Exa.neArv F213 F206 (wd49 V)
    have N215 : a118 ≠ a98 := Exa.ne F213 F210 (by decide)
    have N216 : a118 ≠ a119 := (Nat.ne_of_lt g128)
    have F217 := (Fld.keep F148 K212 (ninS N216 (ninS N215 (ninS N214 nin0))))
    have F218 := (Fld.keep F149 K212 (ninS N216 (ninS N215 (ninS N214 nin0))))
    have F219 := (Arv.keep F163 K204 (ninS (Ne.symm N198) (ninS (Ne.symm N156) nin0)))
    refine G.callV H200 (m80_arrive V a98 a118 a119 k122 h200_ H200.old F211 F207 F213 F217 F218 F219 na119 F209 N156 F210 na98) (wd134 V) (wd135 V) (nf_sel (wd137 V)) (wd137 V) (wd136 V) (wd32 V) (wd138 V) (by decide) F210 (argsL := []) (rest := []) (W := 0) rfl rfl (lenOf (pd_13) rfl) rfl rfl at_103 (pc' := 106) rfl (by decide) (by decide) (by decide) (by decide) all0 ?_
    intro T220 h220_ v221 s222 H220 Q223
    obtain ⟨rfl, rfl, K224, U225, F226, F227, F228, F229, F230⟩ := Q223
    show Go p e below _ (T220.setTop (mkF m 106 #[.val (.int x0), .val (.int x1), .val (.int x2), .val (.int x3), .val (.int x4), .val (.int x5), .val (.ref a2), .val (.ref a98), .unset] [(.ref uu1)]))
    refine G.pop H220 at_106 (pc' := 107) rfl rfl ?_
    have F231 := (U225 "com/example/passenger_flow_sim/passengerflowsim/simulation/Vehicle" "loads" "[I" (.ref a115) F208 (slot_ne (Or.inr (wd47 V)) (Or.inl (wd181 V)) (by decide) (t := (.array .int)) (t' := .int) (by decide) (by decide)) (slot_ne (Or.inr (wd47 V)) (Or.inl (wd140 V)) (by decide) (t := (.array .int)) (t' := .int) (by decide) (by decide)))
    have F232 := (Arv.keep F206 K224 (ninS N198 (ninS N197 nin0)))
    have F233 := (U225 "com/example/passenger_flow_sim/passengerflowsim/simulation/Vehicle" "trip" "Lcom/example/passenger_flow_sim/passengerflowsim/timetable/Trip;" (.ref a2) (U205 "com/example/passenger_flow_sim/passengerflowsim/simulation/Vehicle" "trip" "Lcom/example/passenger_flow_sim/passengerflowsim/timetable/Trip;" (.ref a2) (U162 "com/example/passenger_flow_sim/passengerflowsim/simulation/Vehicle" "trip" "Lcom/example/passenger_flow_sim/passengerflowsim/timetable/Trip;" (.ref a2) F133 (slot_ne (Or.inr (wd38 V)) (Or.inl (wd181 V)) (by decide) (t := (.object "com/example/passenger_flow_sim/passengerflowsim/timetable/Trip")) (t' := .int) (by decide) (by decide)) (slot_ne (Or.inr (wd38 V)) (Or.inl (wd140 V)) (by decide) (t := (.object "com/example/passenger_flow_sim/passengerflowsim/timetable/Trip")) (t' := .int) (by decide) (by decide))) (slot_ne (Or.inr (wd38 V)) (Or.inl (wd140 V)) (by decide) (t := (.object "com/example/passenger_flow_sim/passengerflowsim/timetable/Trip")) (t' := .int) (by decide) (by decide))) (slot_ne (Or.inr (wd38 V)) (Or.inl (wd181 V)) (by decide) (t := (.object "com/example/passenger_flow_sim/passengerflowsim/timetable/Trip")) (t' := .int) (by decide) (by decide)) (slot_ne (Or.inr (wd38 V)) (Or.inl (wd140 V)) (by decide) (t := (.object "com/example/passenger_flow_sim/passengerflowsim/timetable/Trip")) (t' := .int) (by decide) (by decide)))
    have K234 : Keep h111_ h220_ [a119, a98, a115] := (Keep.trans (Keep.trans (Keep.trans (Keep.refl h111_ [a119, a98, a115]) K161 (allS (Or.inl (List.mem_of_getElem? (i := 0) rfl)) (allS (Or.inl (List.mem_of_getElem? (i := 1) rfl)) all0))) K204 (allS (Or.inl (List.mem_of_getElem? (i := 2) rfl)) (allS (Or.inl (List.mem_of_getElem? (i := 1) rfl)) all0))) K224 (allS (Or.inl (List.mem_of_getElem? (i := 0) rfl)) (allS (Or.inl (List.mem_of_getElem? (i := 1) rfl)) all0)))
    have F235 := (Exa.keep F139 K234)
    have K236 : Keep h97_ h220_ [a98] := (Keep.trans (Keep.trans (Keep.trans (Keep.trans (Keep.refl h97_ [a98]) K123 (allS (Or.inl (List.mem_of_getElem? (i := 0) rfl)) all0)) K161 (allS (Or.inr (Nat.le_of_lt (Nat.lt_of_le_of_lt (Nat.le_of_lt (Nat.lt_of_le_of_lt (Nat.le_of_lt (Nat.lt_of_le_of_lt (Nat.le_of_lt (Nat.lt_of_le_of_lt g124 g125)) g126)) g127)) g128))) (allS (Or.inl (List.mem_of_getElem? (i := 0) rfl)) all0))) K204 (allS (Or.inr g124) (allS (Or.inl (List.mem_of_getElem? (i := 0) rfl)) all0))) K224 (allS (Or.inr (Nat.le_of_lt (Nat.lt_of_le_of_lt (Nat.le_of_lt (Nat.lt_of_le_of_lt (Nat.le_of_lt (Nat.lt_of_le_of_lt (Nat.le_of_lt (Nat.lt_of_le_of_lt g124 g125)) g126)) g127)) g128))) (allS (Or.inl (List.mem_of_getElem? (i := 0) rfl)) all0)))
    have F237 := (Exa.keep F104 K236)
    have N238 : a2 ≠ a98 := Exa.ne F237 F230 (by decide)
    have F239 := (Fld.keep F105 K236 (ninS N238 nin0))
    have F240 := (Arv.keep F106 K236 (ninS N107 nin0))
    have F241 := (Exa.keep F213 K224)
    have F242 := (Fld.keep F217 K224 (ninS N216 (ninS N215 nin0)))
    have F243 := (Fld.keep F218 K224 (ninS N216 (ninS N215 nin0)))
    have N244 : a2 ≠ a119 := Exa.neArv F237 F226 (wd2 V)
    have N245 : a77 ≠ a119 := arv_tyne F240 F226 (by decide)
    exact cut84_107 V x0 x1 x2 x3 x4 x5 a2 a98 a115 k120 a77 k10 a118 a119 k122 ((H220.less all0).mono (C' := 17) (S' := 45) (by decide) (by decide)) sq4 F230 F228 F231 F232 na98 F233 F235 N197 F229 c168 F237 F239 F240 N107 F227 F241 F242 F243 F226 na119 O131 N198 N244 N245
set_option maxRecDepth 65536 in
set_option maxHeartbeats 40000000 in
theorem rmLaw (V : Env1 Z a0 n0 uu0 uu1 uu2 uu3 uu4 uu5 uu6 uu7 uu8 uu9) (x0 : Int32) (x1 : Int32) (x2 : Int32) (h0 : Heap) (hO : Old Z n0 h0) :
    Met Z a0 [] False n0 l x code maxLocals ret room_1 #[(.int x0), (.int x1), (.int x2)] h0 [] (fun v h so => v = some (.int 1)) := by
  refine Met.of (EWl V) (by first | decide +kernel | rfl) hO (L0 := #[.val (.int x0), .val (.int x1), .val (.int x2), .unset, .unset, .unset, .unset, .unset, .unset]) rfl ?_
  intro p e s m below meth c T H
  show Go p e below _ (T.setTop (mkF m 0 #[.val (.int x0), .val (.int x1), .val (.int x2), .unset, .unset, .unset, .unset, .unset, .unset] []))
  refine G.iloadN H at_0 (pc' := 1) rfl rfl ?_
  refine G.ldcI H (wd0 V) at_1 (pc' := 3) rfl ?_
  refine G.iand H at_3 (pc' := 4) rfl ?_
  refine G.istoreN H (L' := #[.val (.int x0), .val (.int x1), .val (.int x2), .val (.int (x1 &&& (1073741823 : Int32))), .unset, .unset, .unset, .unset, .unset]) at_4 (pc' := 5) rfl rfl ?_
  refine G.iloadN H at_5 (pc' := 6) rfl rfl ?_
  refine G.iconst H at_6 (pc' := 7) rfl (v := (3 : Int32)) rfl ?_
  refine G.iand H at_7 (pc' := 8) rfl ?_
  refine G.istore H (L' := #[.val (.int x0), .val (.int x1), .val (.int x2), .val (.int (x1 &&& (1073741823 : Int32))), .val (.int (x0 &&& (3 : Int32))), .unset, .unset, .unset, .unset]) at_8 (pc' := 10) rfl rfl ?_
  refine G.iloadN H at_10 (pc' := 11) rfl rfl ?_
  refine G.iconst H at_11 (pc' := 12) rfl (v := (4 : Int32)) rfl ?_
  refine G.iand H at_12 (pc' := 13) rfl ?_
  by_cases c1 : (x0 &&& (4 : Int32)) = (0 : Int32)
  ·
    refine G.ifYes H at_13 (XT.i0_eq_t c1) (by decide) (pc' := 20) rfl ?_
    refine G.iconst H at_20 (pc' := 21) rfl (v := (0 : Int32)) rfl ?_
    exact cut77_21 V x0 x1 x2 (x1 &&& (1073741823 : Int32)) (x0 &&& (3 : Int32)) (0 : Int32) ((H.less all0).mono (C' := 0) (S' := 0) (by decide) (by decide)) (Or.inl rfl) (own_x _).1 (own_x _).2.1 (own_x _).2.2 rfl (own_and3 _)
  ·
    refine G.ifNo H at_13 (pc' := 16) rfl (XT.i0_eq_f c1) ?_
    refine G.iconst H at_16 (pc' := 17) rfl (v := (1 : Int32)) rfl ?_
    refine G.goto H at_17 (by decide) (pc' := 21) rfl ?_
    exact cut85_21 V x0 x1 x2 (x1 &&& (1073741823 : Int32)) (x0 &&& (3 : Int32)) (1 : Int32) ((H.less all0).mono (C' := 0) (S' := 0) (by decide) (by decide)) (Or.inr rfl) (own_x _).1 (own_x _).2.1 (own_x _).2.2 (own_and3 _)

set_option maxRecDepth 65536 in
set_option maxHeartbeats 40000000 in
theorem comes_1 {Post : Tables → Env → Array Value → State → Outcome → State → Prop} (hpost : ∀ tb e args s v u, (limb_1_1.after args s (.returned v) u = true ∧ limb_1_2.after args s (.returned v) u = true ∧ True) → FrameEnd s (.returned v) u (Jvm.fieldLocs frame_1_writes args s ++ Jvm.arrayLocs frame_1_arrays args s ++ Jvm.staticLocs frame_1_statics s) 56 192 → Post tb e args s (.returned v) u) :
    ArmFor flags0 classFile x code maxLocals ret World_1 tables_1 room_1 Calls_1 rest_1 Pre_1 Post := by
  intro l hfl _ _ p e ha hc hk s m args below hf hA hF happ hP
  obtain ⟨hcalls, hrest, hpre⟩ := hP
  obtain ⟨-, -, -, hnamed, -, -, -, hat⟩ := (Spec.applies_iff hf).mp happ
  obtain ⟨hg, hn⟩ := and_e (Cond.before_iff.mp (show (Jvm.Cond.and given_1 narrow_1).before args s = true from hpre))
  obtain ⟨hg0, hg1⟩ := and_e hg
  obtain ⟨ha0, hg2⟩ := and_e hg1
  obtain ⟨ha1, hg3⟩ := and_e hg2
  have ha2 := hg3
  obtain ⟨w0, w1, w2, rfl⟩ : ∃ w0 w1 w2 : Value, args = #[w0, w1, w2] := by
    have hs : args.size = 3 := by simpa [Cond.value, given_1] using hg0
    obtain ⟨L⟩ := args
    match L, hs with
    | [w0, w1, w2], _ => exact ⟨w0, w1, w2, rfl⟩
  have hw := fun d (hd : d ∈ tables_1) => atoms_spec (ws := Jvm.Cond.code x code maxLocals ret :: tables_1) hat d (List.mem_cons_of_mem _ hd)
  obtain ⟨hsets, hown0⟩ := atoms_of _ (rest_1_c_eq ▸ (show rest_1_c.before _ s = true from hrest))
  have hr0 := Cond.before_iff.mp hown0
  have hfit : Fit s := fun {y c} hc i hi => by
    obtain ⟨ha, rfl⟩ := Array.getElem?_eq_some_iff.mp hc
    have q := List.all_eq_true.mp ((Array.all_eq_true_iff_forall_mem.mp hF) _ (Array.getElem_mem ha)) i (List.mem_range.mpr hi)
    simpa [Array.getElem?_eq_getElem hi] using q
  obtain ⟨i0, e0⟩ := is_v ha0
  obtain rfl : w0 = (.int i0) := Option.some.inj e0
  obtain ⟨i1, e1⟩ := is_v ha1
  obtain rfl : w1 = (.int i1) := Option.some.inj e1
  obtain ⟨i2, e2⟩ := is_v ha2
  obtain rfl : w2 = (.int i2) := Option.some.inj e2
  obtain ⟨uu0, e_DEFAULTCAPACITY_EMPTY_ELEMENTDATA⟩ := exa_v (Cond.before_iff.mp (hsets _ (List.mem_of_getElem? (i := 17) rfl)))
  have hv0 := Sta.start e_DEFAULTCAPACITY_EMPTY_ELEMENTDATA (Or.inr ⟨hw _ (List.mem_of_getElem? (i := 50) rfl), hsets _ (List.mem_of_getElem? (i := 12) rfl)⟩)
  have hv1 := Exa.start e_DEFAULTCAPACITY_EMPTY_ELEMENTDATA (Cond.before_iff.mp (hsets _ (List.mem_of_getElem? (i := 17) rfl)))
  obtain ⟨uu1, e_EMPTY_LIST⟩ := exa_v (Cond.before_iff.mp (hsets _ (List.mem_of_getElem? (i := 5) rfl)))
  have hv2 := Sta.start e_EMPTY_LIST (Or.inl (hsets _ (List.mem_of_getElem? (i := 4) rfl)))
  have hv3 := Exa.start e_EMPTY_LIST (Cond.before_iff.mp (hsets _ (List.mem_of_getElem? (i := 5) rfl)))
  obtain ⟨uu2, e_EMPTY_ELEMENTDATA⟩ := exa_v (Cond.before_iff.mp (hsets _ (List.mem_of_getElem? (i := 14) rfl)))
  have hv4 := Sta.start e_EMPTY_ELEMENTDATA (Or.inl (hsets _ (List.mem_of_getElem? (i := 11) rfl)))
  have hv5 := Exa.start e_EMPTY_ELEMENTDATA (Cond.before_iff.mp (hsets _ (List.mem_of_getElem? (i := 14) rfl)))
  obtain ⟨uu3, e_EMPTY_LIST_elements⟩ := exa_v (Cond.before_iff.mp (hsets _ (List.mem_of_getElem? (i := 7) rfl)))
  have hv6 := Fld.start ((fld_at e_EMPTY_LIST).symm.trans e_EMPTY_LIST_elements)
  have hv7 := Exa.start e_EMPTY_LIST_elements (Cond.before_iff.mp (hsets _ (List.mem_of_getElem? (i := 7) rfl)))
  obtain ⟨cl_DEFAULTCAPACITY_EMPTY_ELEMENTDATA, Ar_DEFAULTCAPACITY_EMPTY_ELEMENTDATA⟩ := Arr.start e_DEFAULTCAPACITY_EMPTY_ELEMENTDATA (Cond.before_iff.mp (hsets _ (List.mem_of_getElem? (i := 16) rfl)))
  obtain ⟨sz_DEFAULTCAPACITY_EMPTY_ELEMENTDATA, ln_DEFAULTCAPACITY_EMPTY_ELEMENTDATA⟩ := own_len e_DEFAULTCAPACITY_EMPTY_ELEMENTDATA Ar_DEFAULTCAPACITY_EMPTY_ELEMENTDATA (Cond.before_iff.mp (hsets _ (List.mem_of_getElem? (i := 18) rfl)))
  have hv8 : Arv s s.heap uu0 cl_DEFAULTCAPACITY_EMPTY_ELEMENTDATA.cls (.object "java/lang/Object") (0 : Int32) [] .null := Arv.start hfit Ar_DEFAULTCAPACITY_EMPTY_ELEMENTDATA sz_DEFAULTCAPACITY_EMPTY_ELEMENTDATA ln_DEFAULTCAPACITY_EMPTY_ELEMENTDATA (by decide) rfl trivial
  obtain ⟨cl_EMPTY_ELEMENTDATA, Ar_EMPTY_ELEMENTDATA⟩ := Arr.start e_EMPTY_ELEMENTDATA (Cond.before_iff.mp (hsets _ (List.mem_of_getElem? (i := 13) rfl)))
  obtain ⟨sz_EMPTY_ELEMENTDATA, ln_EMPTY_ELEMENTDATA⟩ := own_len e_EMPTY_ELEMENTDATA Ar_EMPTY_ELEMENTDATA (Cond.before_iff.mp (hsets _ (List.mem_of_getElem? (i := 15) rfl)))
  have hv9 : Arv s s.heap uu2 cl_EMPTY_ELEMENTDATA.cls (.object "java/lang/Object") (0 : Int32) [] .null := Arv.start hfit Ar_EMPTY_ELEMENTDATA sz_EMPTY_ELEMENTDATA ln_EMPTY_ELEMENTDATA (by decide) rfl trivial
  obtain ⟨cl_EMPTY_LIST_elements, Ar_EMPTY_LIST_elements⟩ := Arr.start e_EMPTY_LIST_elements (Cond.before_iff.mp (hsets _ (List.mem_of_getElem? (i := 6) rfl)))
  obtain ⟨sz_EMPTY_LIST_elements, ln_EMPTY_LIST_elements⟩ := own_len e_EMPTY_LIST_elements Ar_EMPTY_LIST_elements (Cond.before_iff.mp (hsets _ (List.mem_of_getElem? (i := 8) rfl)))
  have hv10 : Arv s s.heap uu3 cl_EMPTY_LIST_elements.cls (.object "java/lang/Object") (0 : Int32) [] .null := Arv.start hfit Ar_EMPTY_LIST_elements sz_EMPTY_LIST_elements ln_EMPTY_LIST_elements (by decide) rfl trivial
  have hv11 := Sta.start (own_evI (Cond.before_iff.mp (hsets _ (List.mem_of_getElem? (i := 2) rfl)))) (Or.inl (hsets _ (List.mem_of_getElem? (i := 1) rfl)))
  have hv12 := own_fldeq e_EMPTY_LIST (Cond.before_iff.mp (hsets _ (List.mem_of_getElem? (i := 9) rfl)))
  obtain ⟨cM1, kM1, uu7, f1M1, f2M1, f3M1, f4M1⟩ := hcalls.1
  have hv13 : Mir s "java/util/Collections$CopiesList" uu7 := ⟨cM1, kM1, f1M1, f2M1, f3M1, f4M1⟩
  obtain ⟨cM2, kM2, uu8, f1M2, f2M2, f3M2, f4M2⟩ := hcalls.2.1
  have hv14 : Mir s "java/util/ArrayList" uu8 := ⟨cM2, kM2, f1M2, f2M2, f3M2, f4M2⟩
  obtain ⟨cM3, kM3, uu9, f1M3, f2M3, f3M3, f4M3⟩ := hcalls.2.2.1
  have hv15 : Mir s "[Ljava/lang/Object;" uu9 := ⟨cM3, kM3, f1M3, f2M3, f3M3, f4M3⟩
  have V : Env1 s _ s.heap.size uu0 uu1 uu2 uu3 cl_DEFAULTCAPACITY_EMPTY_ELEMENTDATA.cls cl_EMPTY_ELEMENTDATA.cls cl_EMPTY_LIST_elements.cls uu7 uu8 uu9 := ⟨hw, EW.nil, hv0, hv1, hv2, hv3, hv4, hv5, hv6, hv7, hv8, hv9, hv10, hv11, hv12, hv13, hv14, hv15, trivial⟩
  have hCH : CHv s [] s.vm s.heap := fun q hq => nomatch hq
  obtain ⟨n, o, g1, g2, g3, v, L, so, rfl, rfl, -, N, -, -, hq, hq2⟩ := rmLaw (l := l) V i0 i1 i2 s.heap (Old.start s) tables_1 p e ha hc hk s m _ below hf ((Spec.applies_iff_loose hf).mp happ).1 ⟨rfl, State.Warmed39.refl s, rfl, hCH, fun _ q => nomatch q⟩ trivial
  have hq := hq2.resolve_left (fun q => q)
  refine ⟨n, _, g1, g2, g3, hpost _ _ _ _ _ _ ⟨Cond.after_iff.mpr rfl, Cond.after_iff.mpr (eq_i res_at (Term.int_eval (1)) rfl), trivial⟩ ⟨hq.1, hq.2.1, (hq.2.2.sift fun y hy => Or.inr (N y hy)).mono (by decide) (by decide)⟩⟩
theorem main_1_1 : Claimed_1_1 := comes_1 fun _ _ _ _ _ _ h hF => ⟨h.1, hF⟩
theorem main_1_2 : Claimed_1_2 := comes_1 fun _ _ _ _ _ _ h hF => ⟨h.2.1, hF⟩
end Jvm.Pilot.@@N@@
namespace Jvm.Pilot.@@N@@
open Jvm Jvm.ClassFile Sem Op Lib Jvm.Free Jvm.Stand Jvm.Pilot.@@N@@.Jvm.D
/-! MADE BY PROGRAM (witnessworld.py) out of the Statement's table words and the real class files: 32 classes; the members and pool entries that the words name. The judged class is class 1, her method 1. -/
namespace start1
open Jvm.ClassFile
def u (s : String) : CpInfo := .utf8 (stringToUtf16 s)
/-- a pool by its gaps: so many unusable entries, then the entry; so many at the end -/
def gap : Nat → List CpInfo → List CpInfo
  | 0, r => r
  | n + 1, r => .unusable :: gap n r
def poolList (es : List (Nat × CpInfo)) (last : Nat) : List CpInfo := es.foldr (fun e r => gap e.1 (e.2 :: r)) (gap last [])
def pool (es : List (Nat × CpInfo)) (last : Nat) : Array CpInfo := ⟨poolList es last⟩
def fileOf (pool : Array CpInfo) (this : Nat) (attrs : Array Attribute := #[]) (ms : Array MethodInfo := #[]) (fl : Nat := 33) (sup : Nat := 0) (ifs : Array Nat := #[]) (fds : Array FieldInfo := #[]) : ClassFile where
  minorVersion := 0
  majorVersion := 65
  constantPool := pool
  accessFlags := fl
  thisClass := this
  superClass := sup
  interfaces := ifs
  fields := fds
  methods := ms
  attributes := attrs
def plain (name : String) (sup : Option ClassId) : Class where
  name := name
  kind := .ordinary
  loader := none
  accessFlags := 33
  super := sup
  interfaces := #[]
  cf := none
  fields := #[]
  methods := #[]
  instanceTypes := #[]
  staticTypes := #[]
  resolved := #[]
  callSites := []
  init := .initialized
  statics := none
  mirror := none

def pool0 : Array CpInfo := pool [(5, u "<init>"), (0, u "()V"), (1, .class_ 10), (1, u "java/lang/Object"), (0, u "getClass"), (0, u "()Ljava/lang/Class;"), (83, u "clone"), (0, u "()Ljava/lang/Object;")] 26

def k0c0 : Code := { maxStack := 0, maxLocals := 1, code := object_method_1_code, exceptionTable := #[], attributes := #[] }
def k0m0 : Method := { name := "<init>", desc := "()V", sig := { parameters := [], returnType := none }, accessFlags := 1, code := some k0c0 }
def k0m1 : Method := { name := "getClass", desc := "()Ljava/lang/Class;", sig := { parameters := [], returnType := some (.object "java/lang/Class") }, accessFlags := 273, code := none }
def k0m2 : Method := { name := "clone", desc := "()Ljava/lang/Object;", sig := { parameters := [], returnType := some (.object "java/lang/Object") }, accessFlags := 260, code := none }
/-- java/lang/Object -/
def k0 : Class := { plain "java/lang/Object" none with
  accessFlags := 33
  interfaces := #[]
  cf := some (fileOf pool0 8 #[] #[{ accessFlags := 1, nameIndex := 5, descriptorIndex := 6, attributes := #[] }, { accessFlags := 273, nameIndex := 11, descriptorIndex := 12, attributes := #[] }, { accessFlags := 260, nameIndex := 96, descriptorIndex := 97, attributes := #[] }] 33 0 #[] #[])
  fields := #[]
  methods := #[k0m0, k0m1, k0m2]
  instanceTypes := #[]
  staticTypes := #[]
  resolved := Array.replicate 124 none
  statics := none }

def pool1 : Array CpInfo := pool [(2, .class_ 4), (1, u "java/lang/Object"), (0, u "<init>"), (0, u "()V"), (0, .integer 1073741823), (0, .class_ 9), (0, u "com/example/passenger_flow_sim/passengerflowsim/timetable/Trip"), (0, .methodref 8 11), (0, .nameAndType 5 12), (0, u "(Ljava/lang/String;Ljava/lang/String;[I[I[I)V"), (0, .class_ 14), (0, u "com/example/passenger_flow_sim/passengerflowsim/simulation/Vehicle"), (0, .methodref 13 16), (0, .nameAndType 5 17), (0, u "(Lcom/example/passenger_flow_sim/passengerflowsim/timetable/Trip;I)V"), (0, .methodref 13 19), (0, .nameAndType 20 21), (0, u "arrive"), (0, u "()Ljava/util/List;"), (0, .methodref 13 23), (0, .nameAndType 24 6), (0, u "leave"), (0, .methodref 26 27), (0, .class_ 28), (0, .nameAndType 29 30), (0, u "com/example/passenger_flow_sim/passengerflowsim/simulation/VehicleLeavePinLaw"), (0, u "boardSome"), (0, u "(Lcom/example/passenger_flow_sim/passengerflowsim/simulation/Vehicle;I)V"), (0, .methodref 13 32), (0, .nameAndType 33 34), (0, u "loads"), (0, u "()Lcom/example/passenger_flow_sim/passengerflowsim/simulation/TripLoads;"), (0, .methodref 36 37), (0, .class_ 38), (0, .nameAndType 39 40), (0, u "com/example/passenger_flow_sim/passengerflowsim/simulation/TripLoads"), (0, u "linkCount"), (0, u "()I"), (0, .methodref 13 42), (0, .nameAndType 43 40), (0, u "load"), (0, .methodref 13 45), (0, .nameAndType 46 47), (0, u "isDone"), (0, u "()Z"), (0, .methodref 13 49), (0, .nameAndType 50 51), (0, u "hasLeft"), (0, u "(I)Z"), (0, .methodref 36 53), (0, .nameAndType 43 54), (0, u "(I)I"), (0, .methodref 13 56), (0, .nameAndType 57 47), (0, u "isDeparting"), (0, .methodref 13 59), (0, .nameAndType 60 40), (0, u "nextTime"), (0, .methodref 13 62), (0, .nameAndType 63 64), (0, u "board"), (0, u "(Lcom/example/passenger_flow_sim/passengerflowsim/simulation/Traveller;I)V"), (2, u "law"), (0, u "(III)Z")] 3

def k1m0 : Method := { name := "<init>", desc := "()V", sig := { parameters := [], returnType := none }, accessFlags := 1, code := none }
def k1c1 : Code := { maxStack := 11, maxLocals := 9, code := code, exceptionTable := #[], attributes := #[] }
def k1m1 : Method := { name := "law", desc := "(III)Z", sig := { parameters := [.int, .int, .int], returnType := some .boolean }, accessFlags := 9, code := some k1c1 }
def k1c2 : Code := { maxStack := 3, maxLocals := 2, code := method_3_code, exceptionTable := #[], attributes := #[] }
def k1m2 : Method := { name := "boardSome", desc := "(Lcom/example/passenger_flow_sim/passengerflowsim/simulation/Vehicle;I)V", sig := { parameters := [(.object "com/example/passenger_flow_sim/passengerflowsim/simulation/Vehicle"), .int], returnType := none }, accessFlags := 10, code := some k1c2 }
/-- com/example/passenger_flow_sim/passengerflowsim/simulation/VehicleLeavePinLaw -/
def k1 : Class := { plain "com/example/passenger_flow_sim/passengerflowsim/simulation/VehicleLeavePinLaw" (some 0) with
  accessFlags := 49
  interfaces := #[]
  cf := some (fileOf pool1 26 #[] #[{ accessFlags := 1, nameIndex := 5, descriptorIndex := 6, attributes := #[] }, { accessFlags := 9, nameIndex := 67, descriptorIndex := 68, attributes := #[] }, { accessFlags := 10, nameIndex := 29, descriptorIndex := 30, attributes := #[] }] 49 2 #[] #[])
  fields := #[]
  methods := #[k1m0, k1m1, k1m2]
  instanceTypes := #[]
  staticTypes := #[]
  resolved := Array.replicate 72 none
  statics := none }

def pool2 : Array CpInfo := pool [(1, .methodref 2 3), (0, .class_ 4), (0, .nameAndType 5 6), (0, u "java/lang/Object"), (0, u "<init>"), (0, u "()V"), (34, .fieldref 42 43), (0, .class_ 44), (0, .nameAndType 45 46), (0, u "com/example/passenger_flow_sim/passengerflowsim/timetable/Trip"), (0, u "id"), (0, u "Ljava/lang/String;"), (0, .fieldref 42 48), (0, .nameAndType 49 46), (0, u "routeId"), (0, .methodref 51 52), (0, .class_ 53), (0, .nameAndType 54 55), (0, u "[I"), (0, u "clone"), (0, u "()Ljava/lang/Object;"), (0, .fieldref 42 57), (0, .nameAndType 58 53), (0, u "stops"), (0, .fieldref 42 60), (0, .nameAndType 61 53), (0, u "arrivals"), (0, .fieldref 42 63), (0, .nameAndType 64 53), (0, u "departures"), (0, u "(Ljava/lang/String;Ljava/lang/String;[I[I[I)V"), (4, u "length"), (0, u "()I"), (1, u "(I)I"), (0, u "arrival")] 3

def k2c0 : Code := { maxStack := 10, maxLocals := 7, code := prog_42_method_1_code, exceptionTable := #[], attributes := #[] }
def k2m0 : Method := { name := "<init>", desc := "(Ljava/lang/String;Ljava/lang/String;[I[I[I)V", sig := { parameters := [(.object "java/lang/String"), (.object "java/lang/String"), (.array .int), (.array .int), (.array .int)], returnType := none }, accessFlags := 1, code := some k2c0 }
def k2c1 : Code := { maxStack := 1, maxLocals := 1, code := prog_42_method_4_code, exceptionTable := #[], attributes := #[] }
def k2m1 : Method := { name := "length", desc := "()I", sig := { parameters := [], returnType := some .int }, accessFlags := 1, code := some k2c1 }
def k2c2 : Code := { maxStack := 2, maxLocals := 2, code := prog_42_method_6_code, exceptionTable := #[], attributes := #[] }
def k2m2 : Method := { name := "arrival", desc := "(I)I", sig := { parameters := [.int], returnType := some .int }, accessFlags := 1, code := some k2c2 }
/-- com/example/passenger_flow_sim/passengerflowsim/timetable/Trip -/
def k2 : Class := { plain "com/example/passenger_flow_sim/passengerflowsim/timetable/Trip" (some 0) with
  accessFlags := 49
  interfaces := #[]
  cf := some (fileOf pool2 42 #[] #[{ accessFlags := 1, nameIndex := 5, descriptorIndex := 65, attributes := #[] }, { accessFlags := 1, nameIndex := 70, descriptorIndex := 71, attributes := #[] }, { accessFlags := 1, nameIndex := 74, descriptorIndex := 73, attributes := #[] }] 49 2 #[] #[{ accessFlags := 18, nameIndex := 45, descriptorIndex := 46, attributes := #[] }, { accessFlags := 18, nameIndex := 49, descriptorIndex := 46, attributes := #[] }, { accessFlags := 18, nameIndex := 58, descriptorIndex := 53, attributes := #[] }, { accessFlags := 18, nameIndex := 61, descriptorIndex := 53, attributes := #[] }, { accessFlags := 18, nameIndex := 64, descriptorIndex := 53, attributes := #[] }])
  fields := #[{ name := "id", type := (.object "java/lang/String"), accessFlags := 18, slot := 0, constantValue := 0 }, { name := "routeId", type := (.object "java/lang/String"), accessFlags := 18, slot := 1, constantValue := 0 }, { name := "stops", type := (.array .int), accessFlags := 18, slot := 2, constantValue := 0 }, { name := "arrivals", type := (.array .int), accessFlags := 18, slot := 3, constantValue := 0 }, { name := "departures", type := (.array .int), accessFlags := 18, slot := 4, constantValue := 0 }]
  methods := #[k2m0, k2m1, k2m2]
  instanceTypes := #[(.object "java/lang/String"), (.object "java/lang/String"), (.array .int), (.array .int), (.array .int)]
  staticTypes := #[]
  resolved := Array.replicate 78 none
  statics := none }

def pool3 : Array CpInfo := pool [(1, .class_ 2), (0, u "java/lang/Cloneable"), (0, .class_ 4), (0, u "java/lang/Object")] 2

/-- java/lang/Cloneable -/
def k3 : Class := { plain "java/lang/Cloneable" (some 0) with
  accessFlags := 1537
  interfaces := #[]
  cf := some (fileOf pool3 1 #[] #[] 1537 3 #[] #[])
  fields := #[]
  methods := #[]
  instanceTypes := #[]
  staticTypes := #[]
  resolved := Array.replicate 7 none
  statics := none }

def pool4 : Array CpInfo := pool [(1, .methodref 2 3), (0, .class_ 4), (0, .nameAndType 5 6), (0, u "java/lang/Object"), (0, u "<init>"), (0, u "()V"), (0, .fieldref 8 9), (0, .class_ 10), (0, .nameAndType 11 12), (0, u "com/example/passenger_flow_sim/passengerflowsim/simulation/Vehicle"), (0, u "trip"), (0, u "Lcom/example/passenger_flow_sim/passengerflowsim/timetable/Trip;"), (0, .fieldref 8 14), (0, .nameAndType 15 16), (0, u "order"), (0, u "I"), (0, .methodref 18 19), (0, .class_ 20), (0, .nameAndType 21 22), (0, u "com/example/passenger_flow_sim/passengerflowsim/timetable/Trip"), (0, u "length"), (0, u "()I"), (0, .fieldref 8 24), (0, .nameAndType 25 26), (0, u "loads"), (0, u "[I"), (0, .class_ 28), (0, u "java/util/ArrayList"), (0, .methodref 30 31), (0, .class_ 32), (0, .nameAndType 33 34), (0, u "java/util/Collections"), (0, u "nCopies"), (0, u "(ILjava/lang/Object;)Ljava/util/List;"), (0, .methodref 27 36), (0, .nameAndType 5 37), (0, u "(Ljava/util/Collection;)V"), (0, .fieldref 8 39), (0, .nameAndType 40 41), (0, u "waiting"), (0, u "Ljava/util/List;"), (0, .fieldref 8 43), (0, .nameAndType 44 41), (0, u "alighting"), (0, .fieldref 8 46), (0, .nameAndType 47 16), (0, u "load"), (0, .fieldref 8 49), (0, .nameAndType 50 16), (0, u "step"), (0, .methodref 8 52), (0, .nameAndType 53 54), (0, u "isDeparting"), (0, u "()Z"), (3, u "(I)I"), (0, .methodref 18 60), (0, .nameAndType 61 58), (0, u "arrival"), (0, .methodref 8 63), (0, .nameAndType 64 65), (0, u "add"), (0, u "(Ljava/util/List;ILcom/example/passenger_flow_sim/passengerflowsim/simulation/Traveller;)V"), (0, .methodref 8 67), (0, .nameAndType 68 69), (0, u "take"), (0, u "(Ljava/util/List;I)Ljava/util/List;"), (0, .interfaceMethodref 71 72), (0, .class_ 73), (0, .nameAndType 74 22), (0, u "java/util/List"), (0, u "size"), (0, .class_ 76), (0, u "com/example/passenger_flow_sim/passengerflowsim/simulation/TripLoads"), (0, .methodref 78 79), (0, .class_ 26), (0, .nameAndType 80 81), (0, u "clone"), (0, u "()Ljava/lang/Object;"), (0, .methodref 75 83), (0, .nameAndType 5 84), (0, u "(Lcom/example/passenger_flow_sim/passengerflowsim/timetable/Trip;[I)V"), (0, .interfaceMethodref 71 86), (0, .nameAndType 87 88), (0, u "get"), (0, u "(I)Ljava/lang/Object;"), (0, .methodref 27 3), (0, .interfaceMethodref 71 91), (0, .nameAndType 92 93), (0, u "set"), (0, u "(ILjava/lang/Object;)Ljava/lang/Object;"), (0, .interfaceMethodref 71 95), (0, .nameAndType 64 96), (0, u "(Ljava/lang/Object;)Z"), (0, .interfaceMethodref 71 98), (0, .nameAndType 99 100), (0, u "of"), (0, u "()Ljava/util/List;"), (2, u "(Lcom/example/passenger_flow_sim/passengerflowsim/timetable/Trip;I)V"), (3, u "isDone"), (1, u "nextTime"), (0, u "hasLeft"), (0, u "(I)Z"), (2, u "arrive"), (2, u "board"), (0, u "(Lcom/example/passenger_flow_sim/passengerflowsim/simulation/Traveller;I)V"), (0, u "leave"), (0, u "()Lcom/example/passenger_flow_sim/passengerflowsim/simulation/TripLoads;")] 4

def k4c0 : Code := { maxStack := 5, maxLocals := 3, code := prog_32_method_1_code, exceptionTable := #[], attributes := #[] }
def k4m0 : Method := { name := "<init>", desc := "(Lcom/example/passenger_flow_sim/passengerflowsim/timetable/Trip;I)V", sig := { parameters := [(.object "com/example/passenger_flow_sim/passengerflowsim/timetable/Trip"), .int], returnType := none }, accessFlags := 0, code := some k4c0 }
def k4c1 : Code := { maxStack := 1, maxLocals := 1, code := prog_32_method_4_code, exceptionTable := #[], attributes := #[] }
def k4m1 : Method := { name := "load", desc := "()I", sig := { parameters := [], returnType := some .int }, accessFlags := 0, code := some k4c1 }
def k4c2 : Code := { maxStack := 3, maxLocals := 1, code := prog_32_method_5_code, exceptionTable := #[], attributes := #[] }
def k4m2 : Method := { name := "isDone", desc := "()Z", sig := { parameters := [], returnType := some .boolean }, accessFlags := 0, code := some k4c2 }
def k4c3 : Code := { maxStack := 2, maxLocals := 1, code := prog_32_method_6_code, exceptionTable := #[], attributes := #[] }
def k4m3 : Method := { name := "isDeparting", desc := "()Z", sig := { parameters := [], returnType := some .boolean }, accessFlags := 0, code := some k4c3 }
def k4c4 : Code := { maxStack := 2, maxLocals := 2, code := prog_32_method_7_code, exceptionTable := #[], attributes := #[] }
def k4m4 : Method := { name := "nextTime", desc := "()I", sig := { parameters := [], returnType := some .int }, accessFlags := 0, code := some k4c4 }
def k4c5 : Code := { maxStack := 3, maxLocals := 2, code := prog_32_method_8_code, exceptionTable := #[], attributes := #[] }
def k4m5 : Method := { name := "hasLeft", desc := "(I)Z", sig := { parameters := [.int], returnType := some .boolean }, accessFlags := 0, code := some k4c5 }
def k4c6 : Code := { maxStack := 3, maxLocals := 2, code := prog_32_method_10_code, exceptionTable := #[], attributes := #[] }
def k4m6 : Method := { name := "arrive", desc := "()Ljava/util/List;", sig := { parameters := [], returnType := some (.object "java/util/List") }, accessFlags := 0, code := some k4c6 }
def k4c7 : Code := { maxStack := 3, maxLocals := 3, code := prog_32_method_12_code, exceptionTable := #[], attributes := #[] }
def k4m7 : Method := { name := "board", desc := "(Lcom/example/passenger_flow_sim/passengerflowsim/simulation/Traveller;I)V", sig := { parameters := [(.object "com/example/passenger_flow_sim/passengerflowsim/simulation/Traveller"), .int], returnType := none }, accessFlags := 0, code := some k4c7 }
def k4c8 : Code := { maxStack := 3, maxLocals := 2, code := prog_32_method_13_code, exceptionTable := #[], attributes := #[] }
def k4m8 : Method := { name := "leave", desc := "()V", sig := { parameters := [], returnType := none }, accessFlags := 0, code := some k4c8 }
def k4c9 : Code := { maxStack := 4, maxLocals := 1, code := prog_32_method_14_code, exceptionTable := #[], attributes := #[] }
def k4m9 : Method := { name := "loads", desc := "()Lcom/example/passenger_flow_sim/passengerflowsim/simulation/TripLoads;", sig := { parameters := [], returnType := some (.object "com/example/passenger_flow_sim/passengerflowsim/simulation/TripLoads") }, accessFlags := 0, code := some k4c9 }
def k4c10 : Code := { maxStack := 4, maxLocals := 3, code := prog_32_method_15_code, exceptionTable := #[], attributes := #[] }
def k4m10 : Method := { name := "add", desc := "(Ljava/util/List;ILcom/example/passenger_flow_sim/passengerflowsim/simulation/Traveller;)V", sig := { parameters := [(.object "java/util/List"), .int, (.object "com/example/passenger_flow_sim/passengerflowsim/simulation/Traveller")], returnType := none }, accessFlags := 10, code := some k4c10 }
def k4c11 : Code := { maxStack := 3, maxLocals := 3, code := prog_32_method_16_code, exceptionTable := #[], attributes := #[] }
def k4m11 : Method := { name := "take", desc := "(Ljava/util/List;I)Ljava/util/List;", sig := { parameters := [(.object "java/util/List"), .int], returnType := some (.object "java/util/List") }, accessFlags := 10, code := some k4c11 }
/-- com/example/passenger_flow_sim/passengerflowsim/simulation/Vehicle -/
def k4 : Class := { plain "com/example/passenger_flow_sim/passengerflowsim/simulation/Vehicle" (some 0) with
  accessFlags := 48
  interfaces := #[]
  cf := some (fileOf pool4 8 #[] #[{ accessFlags := 0, nameIndex := 5, descriptorIndex := 103, attributes := #[] }, { accessFlags := 0, nameIndex := 47, descriptorIndex := 22, attributes := #[] }, { accessFlags := 0, nameIndex := 107, descriptorIndex := 54, attributes := #[] }, { accessFlags := 0, nameIndex := 53, descriptorIndex := 54, attributes := #[] }, { accessFlags := 0, nameIndex := 109, descriptorIndex := 22, attributes := #[] }, { accessFlags := 0, nameIndex := 110, descriptorIndex := 111, attributes := #[] }, { accessFlags := 0, nameIndex := 114, descriptorIndex := 100, attributes := #[] }, { accessFlags := 0, nameIndex := 117, descriptorIndex := 118, attributes := #[] }, { accessFlags := 0, nameIndex := 119, descriptorIndex := 6, attributes := #[] }, { accessFlags := 0, nameIndex := 25, descriptorIndex := 120, attributes := #[] }, { accessFlags := 10, nameIndex := 64, descriptorIndex := 65, attributes := #[] }, { accessFlags := 10, nameIndex := 68, descriptorIndex := 69, attributes := #[] }] 48 2 #[] #[{ accessFlags := 18, nameIndex := 11, descriptorIndex := 12, attributes := #[] }, { accessFlags := 18, nameIndex := 15, descriptorIndex := 16, attributes := #[] }, { accessFlags := 18, nameIndex := 25, descriptorIndex := 26, attributes := #[] }, { accessFlags := 18, nameIndex := 40, descriptorIndex := 41, attributes := #[] }, { accessFlags := 18, nameIndex := 44, descriptorIndex := 41, attributes := #[] }, { accessFlags := 2, nameIndex := 47, descriptorIndex := 16, attributes := #[] }, { accessFlags := 2, nameIndex := 50, descriptorIndex := 16, attributes := #[] }])
  fields := #[{ name := "trip", type := (.object "com/example/passenger_flow_sim/passengerflowsim/timetable/Trip"), accessFlags := 18, slot := 0, constantValue := 0 }, { name := "order", type := .int, accessFlags := 18, slot := 1, constantValue := 0 }, { name := "loads", type := (.array .int), accessFlags := 18, slot := 2, constantValue := 0 }, { name := "waiting", type := (.object "java/util/List"), accessFlags := 18, slot := 3, constantValue := 0 }, { name := "alighting", type := (.object "java/util/List"), accessFlags := 18, slot := 4, constantValue := 0 }, { name := "load", type := .int, accessFlags := 2, slot := 5, constantValue := 0 }, { name := "step", type := .int, accessFlags := 2, slot := 6, constantValue := 0 }]
  methods := #[k4m0, k4m1, k4m2, k4m3, k4m4, k4m5, k4m6, k4m7, k4m8, k4m9, k4m10, k4m11]
  instanceTypes := #[(.object "com/example/passenger_flow_sim/passengerflowsim/timetable/Trip"), .int, (.array .int), (.object "java/util/List"), (.object "java/util/List"), .int, .int]
  staticTypes := #[]
  resolved := Array.replicate 125 none
  statics := none }

def pool5 : Array CpInfo := pool [(8, .class_ 10), (1, u "java/lang/Iterable"), (24, .class_ 36), (0, u "java/lang/Object")] 25

/-- java/lang/Iterable -/
def k5 : Class := { plain "java/lang/Iterable" (some 0) with
  accessFlags := 1537
  interfaces := #[]
  cf := some (fileOf pool5 8 #[] #[] 1537 35 #[] #[])
  fields := #[]
  methods := #[]
  instanceTypes := #[]
  staticTypes := #[]
  resolved := Array.replicate 62 none
  statics := none }

def pool6 : Array CpInfo := pool [(10, .class_ 12), (1, u "java/util/Collection"), (0, u "toArray"), (46, .class_ 61), (0, u "java/lang/Object"), (0, .class_ 63), (0, u "java/lang/Iterable"), (6, u "()[Ljava/lang/Object;")] 44

def k6m0 : Method := { name := "toArray", desc := "()[Ljava/lang/Object;", sig := { parameters := [], returnType := some (.array (.object "java/lang/Object")) }, accessFlags := 1025, code := none }
/-- java/util/Collection -/
def k6 : Class := { plain "java/util/Collection" (some 0) with
  accessFlags := 1537
  interfaces := #[5]
  cf := some (fileOf pool6 10 #[] #[{ accessFlags := 1025, nameIndex := 13, descriptorIndex := 70, attributes := #[] }] 1537 60 #[62] #[])
  fields := #[]
  methods := #[k6m0]
  instanceTypes := #[]
  staticTypes := #[]
  resolved := Array.replicate 115 none
  statics := none }

def pool7 : Array CpInfo := pool [(1, .methodref 2 3), (0, .class_ 4), (0, .nameAndType 5 6), (0, u "java/lang/Object"), (0, u "<init>"), (0, u "()V"), (1, .class_ 10), (1, u "java/util/AbstractCollection"), (66, .class_ 78), (0, u "java/util/Collection")] 81

def k7c0 : Code := { maxStack := 1, maxLocals := 1, code := jdk_22_method_1_code, exceptionTable := #[], attributes := #[] }
def k7m0 : Method := { name := "<init>", desc := "()V", sig := { parameters := [], returnType := none }, accessFlags := 4, code := some k7c0 }
/-- java/util/AbstractCollection -/
def k7 : Class := { plain "java/util/AbstractCollection" (some 0) with
  accessFlags := 1057
  interfaces := #[6]
  cf := some (fileOf pool7 8 #[] #[{ accessFlags := 4, nameIndex := 5, descriptorIndex := 6, attributes := #[] }] 1057 2 #[77] #[])
  fields := #[]
  methods := #[k7m0]
  instanceTypes := #[]
  staticTypes := #[]
  resolved := Array.replicate 160 none
  statics := none }

def pool8 : Array CpInfo := pool [(8, .class_ 10), (1, u "java/util/SequencedCollection"), (15, .class_ 27), (0, u "java/lang/Object"), (0, .class_ 29), (0, u "java/util/Collection")] 27

/-- java/util/SequencedCollection -/
def k8 : Class := { plain "java/util/SequencedCollection" (some 0) with
  accessFlags := 1537
  interfaces := #[6]
  cf := some (fileOf pool8 8 #[] #[] 1537 26 #[28] #[])
  fields := #[]
  methods := #[]
  instanceTypes := #[]
  staticTypes := #[]
  resolved := Array.replicate 57 none
  statics := none }

def pool9 : Array CpInfo := pool [(8, .class_ 10), (1, u "java/util/List"), (19, u "set"), (29, u "add"), (3, u "(Ljava/lang/Object;)Z"), (10, u "get"), (0, u "(I)Ljava/lang/Object;"), (2, u "size"), (0, u "()I"), (7, u "of"), (1, .fieldref 91 92), (0, .class_ 93), (0, .nameAndType 94 95), (0, u "java/util/ImmutableCollections"), (0, u "EMPTY_LIST"), (0, u "Ljava/util/ImmutableCollections$ListN;"), (7, .class_ 104), (0, u "java/lang/Object"), (14, u "()Ljava/util/List;"), (0, .class_ 121), (0, u "java/util/SequencedCollection"), (51, u "(ILjava/lang/Object;)Ljava/lang/Object;")] 77

def k9m0 : Method := { name := "size", desc := "()I", sig := { parameters := [], returnType := some .int }, accessFlags := 1025, code := none }
def k9m1 : Method := { name := "add", desc := "(Ljava/lang/Object;)Z", sig := { parameters := [(.object "java/lang/Object")], returnType := some .boolean }, accessFlags := 1025, code := none }
def k9m2 : Method := { name := "get", desc := "(I)Ljava/lang/Object;", sig := { parameters := [.int], returnType := some (.object "java/lang/Object") }, accessFlags := 1025, code := none }
def k9m3 : Method := { name := "set", desc := "(ILjava/lang/Object;)Ljava/lang/Object;", sig := { parameters := [.int, (.object "java/lang/Object")], returnType := some (.object "java/lang/Object") }, accessFlags := 1025, code := none }
def k9c4 : Code := { maxStack := 1, maxLocals := 0, code := jdk_40_method_36_code, exceptionTable := #[], attributes := #[] }
def k9m4 : Method := { name := "of", desc := "()Ljava/util/List;", sig := { parameters := [], returnType := some (.object "java/util/List") }, accessFlags := 9, code := some k9c4 }
/-- java/util/List -/
def k9 : Class := { plain "java/util/List" (some 0) with
  accessFlags := 1537
  interfaces := #[8]
  cf := some (fileOf pool9 8 #[] #[{ accessFlags := 1025, nameIndex := 79, descriptorIndex := 80, attributes := #[] }, { accessFlags := 1025, nameIndex := 60, descriptorIndex := 64, attributes := #[] }, { accessFlags := 1025, nameIndex := 75, descriptorIndex := 76, attributes := #[] }, { accessFlags := 1025, nameIndex := 30, descriptorIndex := 173, attributes := #[] }, { accessFlags := 9, nameIndex := 88, descriptorIndex := 119, attributes := #[] }] 1537 103 #[120] #[])
  fields := #[]
  methods := #[k9m0, k9m1, k9m2, k9m3, k9m4]
  instanceTypes := #[]
  staticTypes := #[]
  resolved := Array.replicate 251 none
  statics := none }

def pool10 : Array CpInfo := pool [(1, .methodref 2 3), (0, .class_ 4), (0, .nameAndType 5 6), (0, u "java/util/AbstractCollection"), (0, u "<init>"), (0, u "()V"), (0, .fieldref 8 9), (0, .class_ 10), (0, .nameAndType 11 12), (0, u "java/util/AbstractList"), (0, u "modCount"), (0, u "I"), (64, .class_ 78), (0, u "java/util/AbstractList$Itr"), (3, .class_ 83), (0, u "java/util/AbstractList$ListItr"), (9, .class_ 94), (0, u "java/util/AbstractList$RandomAccessSubList"), (3, .class_ 99), (0, u "java/util/AbstractList$SubList"), (33, .class_ 134), (0, u "java/util/List"), (73, .class_ 209), (0, u "java/util/AbstractList$SubList$1"), (0, .class_ 211), (0, u "java/util/AbstractList$RandomAccessSpliterator")] 6

def k10c0 : Code := { maxStack := 2, maxLocals := 1, code := jdk_39_method_1_code, exceptionTable := #[], attributes := #[] }
def k10m0 : Method := { name := "<init>", desc := "()V", sig := { parameters := [], returnType := none }, accessFlags := 4, code := some k10c0 }
/-- java/util/AbstractList -/
def k10 : Class := { plain "java/util/AbstractList" (some 7) with
  accessFlags := 1057
  interfaces := #[9]
  cf := some (fileOf pool10 8 #[.nestMembers #[93, 98, 208, 210, 82, 77]] #[{ accessFlags := 4, nameIndex := 5, descriptorIndex := 6, attributes := #[] }] 1057 2 #[133] #[{ accessFlags := 132, nameIndex := 11, descriptorIndex := 12, attributes := #[] }])
  fields := #[{ name := "modCount", type := .int, accessFlags := 132, slot := 0, constantValue := 0 }]
  methods := #[k10m0]
  instanceTypes := #[.int]
  staticTypes := #[]
  resolved := Array.replicate 218 none
  statics := none }

def pool11 : Array CpInfo := pool [(1, .class_ 2), (0, u "java/util/RandomAccess"), (0, .class_ 4), (0, u "java/lang/Object")] 2

/-- java/util/RandomAccess -/
def k11 : Class := { plain "java/util/RandomAccess" (some 0) with
  accessFlags := 1537
  interfaces := #[]
  cf := some (fileOf pool11 1 #[] #[] 1537 3 #[] #[])
  fields := #[]
  methods := #[]
  instanceTypes := #[]
  staticTypes := #[]
  resolved := Array.replicate 7 none
  statics := none }

def pool12 : Array CpInfo := pool [(1, .class_ 2), (0, u "java/io/Serializable"), (0, .class_ 4), (0, u "java/lang/Object")] 2

/-- java/io/Serializable -/
def k12 : Class := { plain "java/io/Serializable" (some 0) with
  accessFlags := 1537
  interfaces := #[]
  cf := some (fileOf pool12 1 #[] #[] 1537 3 #[] #[])
  fields := #[]
  methods := #[]
  instanceTypes := #[]
  staticTypes := #[]
  resolved := Array.replicate 7 none
  statics := none }

def pool13 : Array CpInfo := pool [(1, .methodref 2 3), (0, .class_ 4), (0, .nameAndType 5 6), (0, u "java/util/AbstractList"), (0, u "<init>"), (0, u "()V"), (0, .class_ 8), (0, u "java/lang/Object"), (0, .fieldref 10 11), (0, .class_ 12), (0, .nameAndType 13 14), (0, u "java/util/ArrayList"), (0, u "elementData"), (0, u "[Ljava/lang/Object;"), (2, u "EMPTY_ELEMENTDATA"), (21, .fieldref 10 40), (0, .nameAndType 41 14), (0, u "DEFAULTCAPACITY_EMPTY_ELEMENTDATA"), (0, .interfaceMethodref 43 44), (0, .class_ 45), (0, .nameAndType 46 47), (0, u "java/util/Collection"), (0, u "toArray"), (0, u "()[Ljava/lang/Object;"), (0, .fieldref 10 49), (0, .nameAndType 50 51), (0, u "size"), (0, u "I"), (0, .interfaceMethodref 43 53), (0, .nameAndType 54 55), (0, u "getClass"), (0, u "()Ljava/lang/Class;"), (0, .class_ 14), (0, .methodref 58 59), (0, .class_ 60), (0, .nameAndType 61 62), (0, u "java/util/Arrays"), (0, u "copyOf"), (0, u "([Ljava/lang/Object;ILjava/lang/Class;)[Ljava/lang/Object;"), (0, .fieldref 10 64), (0, .nameAndType 65 51), (0, u "modCount"), (3, .methodref 10 70), (0, .nameAndType 71 72), (0, u "grow"), (0, u "(I)[Ljava/lang/Object;"), (6, .methodref 80 81), (0, .class_ 82), (0, .nameAndType 83 84), (0, u "java/lang/Math"), (0, u "max"), (0, u "(II)I"), (11, u "(Ljava/lang/Object;)Z"), (21, .methodref 119 120), (0, .class_ 121), (0, .nameAndType 122 84), (0, u "java/util/Objects"), (0, u "checkIndex"), (0, .methodref 10 124), (0, .nameAndType 13 125), (0, u "(I)Ljava/lang/Object;"), (3, .methodref 10 130), (0, .nameAndType 71 47), (0, .methodref 10 132), (0, .nameAndType 133 134), (0, u "add"), (0, u "(Ljava/lang/Object;[Ljava/lang/Object;I)V"), (13, .class_ 149), (0, u "java/util/List"), (112, .class_ 263), (0, u "java/util/ArrayList$ListItr"), (3, .class_ 268), (0, u "java/util/ArrayList$Itr"), (7, .class_ 277), (0, u "java/util/ArrayList$SubList"), (12, .class_ 291), (0, u "java/util/ArrayList$ArrayListSpliterator"), (37, .class_ 330), (0, u "java/util/RandomAccess"), (0, .class_ 332), (0, u "java/lang/Cloneable"), (0, .class_ 334), (0, u "java/io/Serializable"), (0, u "serialVersionUID"), (0, u "J"), (3, u "DEFAULT_CAPACITY"), (10, u "(Ljava/util/Collection;)V"), (29, u "get"), (4, u "set"), (0, u "(ILjava/lang/Object;)Ljava/lang/Object;"), (112, .class_ 501), (0, u "java/util/ArrayList$SubList$2"), (0, .class_ 503), (0, u "java/util/ArrayList$SubList$1")] 5

def k13c0 : Code := { maxStack := 2, maxLocals := 1, code := jdk_38_method_2_code, exceptionTable := #[], attributes := #[] }
def k13m0 : Method := { name := "<init>", desc := "()V", sig := { parameters := [], returnType := none }, accessFlags := 1, code := some k13c0 }
def k13c1 : Code := { maxStack := 4, maxLocals := 3, code := jdk_38_method_3_code, exceptionTable := #[], attributes := #[] }
def k13m1 : Method := { name := "<init>", desc := "(Ljava/util/Collection;)V", sig := { parameters := [(.object "java/util/Collection")], returnType := none }, accessFlags := 1, code := some k13c1 }
def k13c2 : Code := { maxStack := 4, maxLocals := 4, code := jdk_38_method_6_code, exceptionTable := #[], attributes := #[] }
def k13m2 : Method := { name := "grow", desc := "(I)[Ljava/lang/Object;", sig := { parameters := [.int], returnType := some (.array (.object "java/lang/Object")) }, accessFlags := 2, code := some k13c2 }
def k13c3 : Code := { maxStack := 3, maxLocals := 1, code := jdk_38_method_7_code, exceptionTable := #[], attributes := #[] }
def k13m3 : Method := { name := "grow", desc := "()[Ljava/lang/Object;", sig := { parameters := [], returnType := some (.array (.object "java/lang/Object")) }, accessFlags := 2, code := some k13c3 }
def k13c4 : Code := { maxStack := 2, maxLocals := 2, code := jdk_38_method_18_code, exceptionTable := #[], attributes := #[] }
def k13m4 : Method := { name := "elementData", desc := "(I)Ljava/lang/Object;", sig := { parameters := [.int], returnType := some (.object "java/lang/Object") }, accessFlags := 0, code := some k13c4 }
def k13c5 : Code := { maxStack := 2, maxLocals := 2, code := jdk_38_method_20_code, exceptionTable := #[], attributes := #[] }
def k13m5 : Method := { name := "get", desc := "(I)Ljava/lang/Object;", sig := { parameters := [.int], returnType := some (.object "java/lang/Object") }, accessFlags := 1, code := some k13c5 }
def k13c6 : Code := { maxStack := 3, maxLocals := 4, code := jdk_38_method_23_code, exceptionTable := #[], attributes := #[] }
def k13m6 : Method := { name := "set", desc := "(ILjava/lang/Object;)Ljava/lang/Object;", sig := { parameters := [.int, (.object "java/lang/Object")], returnType := some (.object "java/lang/Object") }, accessFlags := 1, code := some k13c6 }
def k13c7 : Code := { maxStack := 3, maxLocals := 4, code := jdk_38_method_24_code, exceptionTable := #[], attributes := #[] }
def k13m7 : Method := { name := "add", desc := "(Ljava/lang/Object;[Ljava/lang/Object;I)V", sig := { parameters := [(.object "java/lang/Object"), (.array (.object "java/lang/Object")), .int], returnType := none }, accessFlags := 2, code := some k13c7 }
def k13c8 : Code := { maxStack := 4, maxLocals := 2, code := jdk_38_method_25_code, exceptionTable := #[], attributes := #[] }
def k13m8 : Method := { name := "add", desc := "(Ljava/lang/Object;)Z", sig := { parameters := [(.object "java/lang/Object")], returnType := some .boolean }, accessFlags := 1, code := some k13c8 }
/-- java/util/ArrayList -/
def k13 : Class := { plain "java/util/ArrayList" (some 10) with
  accessFlags := 33
  interfaces := #[9, 11, 3, 12]
  cf := some (fileOf pool13 10 #[.nestMembers #[290, 276, 500, 502, 262, 267]] #[{ accessFlags := 1, nameIndex := 5, descriptorIndex := 6, attributes := #[] }, { accessFlags := 1, nameIndex := 5, descriptorIndex := 351, attributes := #[] }, { accessFlags := 2, nameIndex := 71, descriptorIndex := 72, attributes := #[] }, { accessFlags := 2, nameIndex := 71, descriptorIndex := 47, attributes := #[] }, { accessFlags := 0, nameIndex := 13, descriptorIndex := 125, attributes := #[] }, { accessFlags := 1, nameIndex := 381, descriptorIndex := 125, attributes := #[] }, { accessFlags := 1, nameIndex := 386, descriptorIndex := 387, attributes := #[] }, { accessFlags := 2, nameIndex := 133, descriptorIndex := 134, attributes := #[] }, { accessFlags := 1, nameIndex := 133, descriptorIndex := 96, attributes := #[] }] 33 2 #[148, 329, 331, 333] #[{ accessFlags := 26, nameIndex := 335, descriptorIndex := 336, attributes := #[] }, { accessFlags := 26, nameIndex := 340, descriptorIndex := 51, attributes := #[] }, { accessFlags := 26, nameIndex := 17, descriptorIndex := 14, attributes := #[] }, { accessFlags := 26, nameIndex := 41, descriptorIndex := 14, attributes := #[] }, { accessFlags := 128, nameIndex := 13, descriptorIndex := 14, attributes := #[] }, { accessFlags := 2, nameIndex := 50, descriptorIndex := 51, attributes := #[] }])
  fields := #[{ name := "serialVersionUID", type := .long, accessFlags := 26, slot := 0, constantValue := 0 }, { name := "DEFAULT_CAPACITY", type := .int, accessFlags := 26, slot := 1, constantValue := 0 }, { name := "EMPTY_ELEMENTDATA", type := (.array (.object "java/lang/Object")), accessFlags := 26, slot := 2, constantValue := 0 }, { name := "DEFAULTCAPACITY_EMPTY_ELEMENTDATA", type := (.array (.object "java/lang/Object")), accessFlags := 26, slot := 3, constantValue := 0 }, { name := "elementData", type := (.array (.object "java/lang/Object")), accessFlags := 128, slot := 1, constantValue := 0 }, { name := "size", type := .int, accessFlags := 2, slot := 2, constantValue := 0 }]
  methods := #[k13m0, k13m1, k13m2, k13m3, k13m4, k13m5, k13m6, k13m7, k13m8]
  instanceTypes := #[.int, (.array (.object "java/lang/Object")), .int]
  staticTypes := #[.long, .int, (.array (.object "java/lang/Object")), (.array (.object "java/lang/Object"))]
  resolved := Array.replicate 509 none
  mirror := some 4
  statics := some 0 }

def pool14 : Array CpInfo := pool [(2, .class_ 4), (1, u "java/lang/Object"), (0, u "<init>"), (0, u "()V"), (12, .class_ 20), (0, u "java/util/Collections"), (63, u "r"), (0, u "Ljava/util/Random;"), (80, .class_ 167), (0, u "java/util/Collections$UnmodifiableCollection"), (6, .class_ 175), (0, u "java/util/Collections$UnmodifiableSequencedCollection"), (6, .class_ 183), (0, u "java/util/Collections$UnmodifiableSet"), (6, .class_ 191), (0, u "java/util/Collections$UnmodifiableSequencedSet"), (6, .class_ 199), (0, u "java/util/Collections$UnmodifiableSortedSet"), (6, .class_ 207), (0, u "java/util/Collections$UnmodifiableNavigableSet"), (4, .class_ 213), (0, u "java/util/Collections$UnmodifiableList"), (1, .class_ 216), (0, u "java/util/Collections$UnmodifiableRandomAccessList"), (6, .class_ 224), (0, u "java/util/Collections$UnmodifiableMap"), (6, .class_ 232), (0, u "java/util/Collections$UnmodifiableSequencedMap"), (4, .class_ 238), (0, u "java/util/Collections$UnmodifiableSortedMap"), (6, .class_ 246), (0, u "java/util/Collections$UnmodifiableNavigableMap"), (3, .class_ 251), (0, u "java/util/Collections$SynchronizedCollection"), (4, .class_ 257), (0, u "java/util/Collections$SynchronizedSet"), (4, .class_ 263), (0, u "java/util/Collections$SynchronizedSortedSet"), (1, .class_ 266), (0, u "java/util/Collections$SynchronizedNavigableSet"), (1, .class_ 269), (0, u "java/util/Collections$SynchronizedRandomAccessList"), (1, .class_ 272), (0, u "java/util/Collections$SynchronizedList"), (5, .class_ 279), (0, u "java/util/Collections$SynchronizedMap"), (1, .class_ 282), (0, u "java/util/Collections$SynchronizedSortedMap"), (1, .class_ 285), (0, u "java/util/Collections$SynchronizedNavigableMap"), (1, .class_ 288), (0, u "java/util/Collections$CheckedCollection"), (11, .class_ 301), (0, u "java/util/Collections$CheckedQueue"), (3, .class_ 306), (0, u "java/util/Collections$CheckedSet"), (3, .class_ 311), (0, u "java/util/Collections$CheckedSortedSet"), (3, .class_ 316), (0, u "java/util/Collections$CheckedNavigableSet"), (3, .class_ 321), (0, u "java/util/Collections$CheckedRandomAccessList"), (3, .class_ 326), (0, u "java/util/Collections$CheckedList"), (1, .class_ 329), (0, u "java/util/Collections$CheckedMap"), (3, .class_ 334), (0, u "java/util/Collections$CheckedSortedMap"), (3, .class_ 339), (0, u "java/util/Collections$CheckedNavigableMap"), (4, .class_ 346), (1, u "java/util/Collections$EmptyIterator"), (3, .class_ 352), (1, u "java/util/Collections$EmptyListIterator"), (2, .class_ 357), (1, u "java/util/Collections$EmptyEnumeration"), (4, u "EMPTY_SET"), (0, u "Ljava/util/Set;"), (6, u "EMPTY_LIST"), (0, u "Ljava/util/List;"), (2, u "EMPTY_MAP"), (0, u "Ljava/util/Map;"), (4, .class_ 381), (0, u "java/util/Collections$SingletonSet"), (2, .class_ 385), (0, u "java/util/Collections$1"), (1, .class_ 388), (0, u "java/util/Collections$2"), (1, .class_ 391), (0, u "java/util/Collections$SingletonList"), (1, .class_ 394), (0, u "java/util/Collections$SingletonMap"), (22, .class_ 418), (0, u "java/util/Collections$CopiesList"), (0, .methodref 417 420), (0, .nameAndType 5 421), (0, u "(ILjava/lang/Object;)V"), (1, .class_ 425), (1, u "java/util/Collections$ReverseComparator"), (8, .class_ 435), (0, u "java/util/Collections$ReverseComparator2"), (6, .class_ 443), (0, u "java/util/Collections$3"), (25, .class_ 470), (0, u "java/util/Collections$SetFromMap"), (2, .class_ 474), (0, u "java/util/Collections$SequencedSetFromMap"), (3, .class_ 479), (0, u "java/util/Collections$AsLIFOQueue"), (11, .class_ 492), (0, u "java/util/Collections$EmptySet"), (1, .class_ 495), (0, u "java/util/Collections$EmptyList"), (1, .class_ 498), (0, u "java/util/Collections$EmptyMap"), (1, u "BINARYSEARCH_THRESHOLD"), (0, u "I"), (2, u "REVERSE_THRESHOLD"), (1, u "SHUFFLE_THRESHOLD"), (1, u "FILL_THRESHOLD"), (1, u "ROTATE_THRESHOLD"), (1, u "COPY_THRESHOLD"), (1, u "REPLACEALL_THRESHOLD"), (1, u "INDEXOFSUBLIST_THRESHOLD"), (273, u "nCopies"), (0, u "(ILjava/lang/Object;)Ljava/util/List;"), (58, .class_ 851), (0, u "java/util/Collections$CheckedMap$CheckedEntrySet"), (0, .class_ 853), (0, u "java/util/Collections$CheckedMap$CheckedEntrySet$CheckedEntry"), (0, .class_ 855), (0, u "java/util/Collections$CheckedMap$CheckedEntrySet$1"), (0, .class_ 857), (0, u "java/util/Collections$CheckedList$1"), (0, .class_ 859), (0, u "java/util/Collections$CheckedCollection$1"), (0, .class_ 861), (0, u "java/util/Collections$UnmodifiableNavigableMap$EmptyNavigableMap"), (0, .class_ 863), (0, u "java/util/Collections$UnmodifiableMap$UnmodifiableEntrySet"), (0, .class_ 865), (0, u "java/util/Collections$UnmodifiableMap$UnmodifiableEntrySet$UnmodifiableEntry"), (0, .class_ 867), (0, u "java/util/Collections$UnmodifiableMap$UnmodifiableEntrySet$UnmodifiableEntrySetSpliterator"), (0, .class_ 869), (0, u "java/util/Collections$UnmodifiableMap$UnmodifiableEntrySet$1"), (0, .class_ 871), (0, u "java/util/Collections$UnmodifiableList$1"), (0, .class_ 873), (0, u "java/util/Collections$UnmodifiableNavigableSet$EmptyNavigableSet"), (0, .class_ 875), (0, u "java/util/Collections$UnmodifiableCollection$1")] 57

def k14m0 : Method := { name := "<init>", desc := "()V", sig := { parameters := [], returnType := none }, accessFlags := 2, code := none }
def k14c1 : Code := { maxStack := 4, maxLocals := 2, code := jdk_79_method_76_code, exceptionTable := #[], attributes := #[] }
def k14m1 : Method := { name := "nCopies", desc := "(ILjava/lang/Object;)Ljava/util/List;", sig := { parameters := [.int, (.object "java/lang/Object")], returnType := some (.object "java/util/List") }, accessFlags := 9, code := some k14c1 }
/-- java/util/Collections -/
def k14 : Class := { plain "java/util/Collections" (some 0) with
  accessFlags := 33
  interfaces := #[]
  cf := some (fileOf pool14 19 #[.nestMembers #[478, 473, 469, 434, 423, 417, 393, 390, 380, 497, 494, 491, 355, 350, 344, 338, 333, 328, 850, 852, 854, 320, 325, 856, 315, 310, 305, 300, 287, 858, 284, 281, 278, 268, 271, 265, 262, 256, 250, 245, 860, 237, 231, 223, 862, 864, 866, 868, 215, 212, 870, 206, 872, 198, 190, 182, 174, 166, 874, 442, 387, 384]] #[{ accessFlags := 2, nameIndex := 5, descriptorIndex := 6, attributes := #[] }, { accessFlags := 9, nameIndex := 790, descriptorIndex := 791, attributes := #[] }] 33 2 #[] #[{ accessFlags := 26, nameIndex := 500, descriptorIndex := 501, attributes := #[] }, { accessFlags := 26, nameIndex := 504, descriptorIndex := 501, attributes := #[] }, { accessFlags := 26, nameIndex := 506, descriptorIndex := 501, attributes := #[] }, { accessFlags := 26, nameIndex := 508, descriptorIndex := 501, attributes := #[] }, { accessFlags := 26, nameIndex := 510, descriptorIndex := 501, attributes := #[] }, { accessFlags := 26, nameIndex := 512, descriptorIndex := 501, attributes := #[] }, { accessFlags := 26, nameIndex := 514, descriptorIndex := 501, attributes := #[] }, { accessFlags := 26, nameIndex := 516, descriptorIndex := 501, attributes := #[] }, { accessFlags := 10, nameIndex := 84, descriptorIndex := 85, attributes := #[] }, { accessFlags := 25, nameIndex := 362, descriptorIndex := 363, attributes := #[] }, { accessFlags := 25, nameIndex := 370, descriptorIndex := 371, attributes := #[] }, { accessFlags := 25, nameIndex := 374, descriptorIndex := 375, attributes := #[] }])
  fields := #[{ name := "BINARYSEARCH_THRESHOLD", type := .int, accessFlags := 26, slot := 0, constantValue := 0 }, { name := "REVERSE_THRESHOLD", type := .int, accessFlags := 26, slot := 1, constantValue := 0 }, { name := "SHUFFLE_THRESHOLD", type := .int, accessFlags := 26, slot := 2, constantValue := 0 }, { name := "FILL_THRESHOLD", type := .int, accessFlags := 26, slot := 3, constantValue := 0 }, { name := "ROTATE_THRESHOLD", type := .int, accessFlags := 26, slot := 4, constantValue := 0 }, { name := "COPY_THRESHOLD", type := .int, accessFlags := 26, slot := 5, constantValue := 0 }, { name := "REPLACEALL_THRESHOLD", type := .int, accessFlags := 26, slot := 6, constantValue := 0 }, { name := "INDEXOFSUBLIST_THRESHOLD", type := .int, accessFlags := 26, slot := 7, constantValue := 0 }, { name := "r", type := (.object "java/util/Random"), accessFlags := 10, slot := 8, constantValue := 0 }, { name := "EMPTY_SET", type := (.object "java/util/Set"), accessFlags := 25, slot := 9, constantValue := 0 }, { name := "EMPTY_LIST", type := (.object "java/util/List"), accessFlags := 25, slot := 10, constantValue := 0 }, { name := "EMPTY_MAP", type := (.object "java/util/Map"), accessFlags := 25, slot := 11, constantValue := 0 }]
  methods := #[k14m0, k14m1]
  instanceTypes := #[]
  staticTypes := #[.int, .int, .int, .int, .int, .int, .int, .int, (.object "java/util/Random"), (.object "java/util/Set"), (.object "java/util/List"), (.object "java/util/Map")]
  resolved := Array.replicate 933 none
  statics := none }

def pool15 : Array CpInfo := pool [(1, .methodref 2 3), (0, .class_ 4), (0, .nameAndType 5 6), (0, u "java/util/AbstractList"), (0, u "<init>"), (0, u "()V"), (0, .fieldref 8 9), (0, .class_ 10), (0, .nameAndType 11 12), (0, u "java/util/Collections$CopiesList"), (0, u "$assertionsDisabled"), (0, u "Z"), (3, .fieldref 8 17), (0, .nameAndType 18 19), (0, u "n"), (0, u "I"), (0, .fieldref 8 21), (0, .nameAndType 22 23), (0, u "element"), (0, u "Ljava/lang/Object;"), (1, .class_ 27), (1, u "java/util/Collections"), (22, .class_ 51), (0, u "java/lang/Object"), (57, u "(ILjava/lang/Object;)V"), (78, .class_ 189), (0, u "java/util/RandomAccess"), (0, .class_ 191), (0, u "java/io/Serializable"), (0, u "serialVersionUID"), (0, u "J"), (32, u "toArray"), (0, u "()[Ljava/lang/Object;")] 58

def k15c0 : Code := { maxStack := 2, maxLocals := 3, code := jdk_2479_method_1_code, exceptionTable := #[], attributes := #[] }
def k15m0 : Method := { name := "<init>", desc := "(ILjava/lang/Object;)V", sig := { parameters := [.int, (.object "java/lang/Object")], returnType := none }, accessFlags := 0, code := some k15c0 }
def k15c1 : Code := { maxStack := 4, maxLocals := 2, code := jdk_2479_method_8_code, exceptionTable := #[], attributes := #[] }
def k15m1 : Method := { name := "toArray", desc := "()[Ljava/lang/Object;", sig := { parameters := [], returnType := some (.array (.object "java/lang/Object")) }, accessFlags := 1, code := some k15c1 }
/-- java/util/Collections$CopiesList -/
def k15 : Class := { plain "java/util/Collections$CopiesList" (some 10) with
  accessFlags := 32
  interfaces := #[11, 12]
  cf := some (fileOf pool15 8 #[.nestHost 25] #[{ accessFlags := 0, nameIndex := 5, descriptorIndex := 109, attributes := #[] }, { accessFlags := 1, nameIndex := 226, descriptorIndex := 227, attributes := #[] }] 32 2 #[188, 190] #[{ accessFlags := 26, nameIndex := 192, descriptorIndex := 193, attributes := #[] }, { accessFlags := 16, nameIndex := 18, descriptorIndex := 19, attributes := #[] }, { accessFlags := 16, nameIndex := 22, descriptorIndex := 23, attributes := #[] }, { accessFlags := 4120, nameIndex := 11, descriptorIndex := 12, attributes := #[] }])
  fields := #[{ name := "serialVersionUID", type := .long, accessFlags := 26, slot := 0, constantValue := 0 }, { name := "n", type := .int, accessFlags := 16, slot := 1, constantValue := 0 }, { name := "element", type := (.object "java/lang/Object"), accessFlags := 16, slot := 2, constantValue := 0 }, { name := "$assertionsDisabled", type := .boolean, accessFlags := 4120, slot := 1, constantValue := 0 }]
  methods := #[k15m0, k15m1]
  instanceTypes := #[.int, .int, (.object "java/lang/Object")]
  staticTypes := #[.long, .boolean]
  resolved := Array.replicate 286 none
  mirror := some 3
  statics := some 1 }

def pool16 : Array CpInfo := pool [(2, .class_ 4), (1, u "java/lang/Object"), (0, u "<init>"), (0, u "()V"), (7, .class_ 16), (1, u "java/util/Arrays"), (57, .class_ 76), (1, u "java/util/Arrays$NaturalOrder"), (33, .class_ 111), (0, u "[Ljava/lang/Object;"), (1, .class_ 115), (1, u "java/util/Arrays$LegacyMergeSort"), (1, u "Z"), (32, .methodref 151 152), (0, .class_ 153), (0, .nameAndType 154 155), (0, u "java/lang/System"), (0, u "arraycopy"), (0, u "(Ljava/lang/Object;ILjava/lang/Object;II)V"), (146, u "copyOf"), (0, u "([Ljava/lang/Object;ILjava/lang/Class;)[Ljava/lang/Object;"), (0, .methodref 305 306), (0, .class_ 307), (0, .nameAndType 308 309), (0, u "java/lang/Math"), (0, u "min"), (0, u "(II)I"), (65, .class_ 376), (0, u "java/util/Arrays$ArrayList"), (68, u "$assertionsDisabled"), (269, u "MIN_ARRAY_SORT_GRAN"), (0, u "I"), (2, u "INSERTIONSORT_THRESHOLD"), (255, .class_ 976), (0, u "java/util/Arrays$ArrayItr")] 52

def k16m0 : Method := { name := "<init>", desc := "()V", sig := { parameters := [], returnType := none }, accessFlags := 2, code := none }
def k16c1 : Code := { maxStack := 6, maxLocals := 4, code := jdk_65_method_120_code, exceptionTable := #[], attributes := #[] }
def k16m1 : Method := { name := "copyOf", desc := "([Ljava/lang/Object;ILjava/lang/Class;)[Ljava/lang/Object;", sig := { parameters := [(.array (.object "java/lang/Object")), .int, (.object "java/lang/Class")], returnType := some (.array (.object "java/lang/Object")) }, accessFlags := 9, code := some k16c1 }
/-- java/util/Arrays -/
def k16 : Class := { plain "java/util/Arrays" (some 0) with
  accessFlags := 49
  interfaces := #[]
  cf := some (fileOf pool16 14 #[.nestMembers #[975, 375, 113, 74]] #[{ accessFlags := 2, nameIndex := 5, descriptorIndex := 6, attributes := #[] }, { accessFlags := 9, nameIndex := 302, descriptorIndex := 303, attributes := #[] }] 49 2 #[] #[{ accessFlags := 26, nameIndex := 715, descriptorIndex := 716, attributes := #[] }, { accessFlags := 26, nameIndex := 719, descriptorIndex := 716, attributes := #[] }, { accessFlags := 4120, nameIndex := 445, descriptorIndex := 117, attributes := #[] }])
  fields := #[{ name := "MIN_ARRAY_SORT_GRAN", type := .int, accessFlags := 26, slot := 0, constantValue := 0 }, { name := "INSERTIONSORT_THRESHOLD", type := .int, accessFlags := 26, slot := 1, constantValue := 0 }, { name := "$assertionsDisabled", type := .boolean, accessFlags := 4120, slot := 2, constantValue := 0 }]
  methods := #[k16m0, k16m1]
  instanceTypes := #[]
  staticTypes := #[.int, .int, .boolean]
  resolved := Array.replicate 1029 none
  statics := none }

def pool17 : Array CpInfo := pool [(1, .class_ 2), (0, u "java/lang/Math"), (1, .class_ 6), (1, u "java/lang/Object"), (0, u "<init>"), (0, u "()V"), (89, .class_ 100), (1, u "java/lang/Math$RandomNumberGeneratorHolder"), (71, u "negativeZeroFloatBits"), (0, u "J"), (2, u "negativeZeroDoubleBits"), (21, u "max"), (2, u "min"), (43, u "$assertionsDisabled"), (0, u "Z"), (88, u "(II)I"), (2, u "twoToTheDoubleScaleDown"), (0, u "D"), (4, u "twoToTheDoubleScaleUp"), (9, u "E"), (3, u "PI"), (2, u "TAU"), (2, u "DEGREES_TO_RADIANS"), (0, u "RADIANS_TO_DEGREES")] 94

def k17m0 : Method := { name := "<init>", desc := "()V", sig := { parameters := [], returnType := none }, accessFlags := 2, code := none }
def k17c1 : Code := { maxStack := 2, maxLocals := 2, code := jdk_29_method_65_code, exceptionTable := #[], attributes := #[] }
def k17m1 : Method := { name := "max", desc := "(II)I", sig := { parameters := [.int, .int], returnType := some .int }, accessFlags := 9, code := some k17c1 }
def k17c2 : Code := { maxStack := 2, maxLocals := 2, code := jdk_29_method_69_code, exceptionTable := #[], attributes := #[] }
def k17m2 : Method := { name := "min", desc := "(II)I", sig := { parameters := [.int, .int], returnType := some .int }, accessFlags := 9, code := some k17c2 }
/-- java/lang/Math -/
def k17 : Class := { plain "java/lang/Math" (some 0) with
  accessFlags := 49
  interfaces := #[]
  cf := some (fileOf pool17 1 #[.nestMembers #[98]] #[{ accessFlags := 2, nameIndex := 7, descriptorIndex := 8, attributes := #[] }, { accessFlags := 9, nameIndex := 198, descriptorIndex := 335, attributes := #[] }, { accessFlags := 9, nameIndex := 201, descriptorIndex := 335, attributes := #[] }] 49 4 #[] #[{ accessFlags := 25, nameIndex := 354, descriptorIndex := 339, attributes := #[] }, { accessFlags := 25, nameIndex := 358, descriptorIndex := 339, attributes := #[] }, { accessFlags := 25, nameIndex := 361, descriptorIndex := 339, attributes := #[] }, { accessFlags := 26, nameIndex := 364, descriptorIndex := 339, attributes := #[] }, { accessFlags := 26, nameIndex := 365, descriptorIndex := 339, attributes := #[] }, { accessFlags := 26, nameIndex := 172, descriptorIndex := 173, attributes := #[] }, { accessFlags := 26, nameIndex := 176, descriptorIndex := 173, attributes := #[] }, { accessFlags := 8, nameIndex := 344, descriptorIndex := 339, attributes := #[] }, { accessFlags := 8, nameIndex := 338, descriptorIndex := 339, attributes := #[] }, { accessFlags := 4120, nameIndex := 245, descriptorIndex := 246, attributes := #[] }])
  fields := #[{ name := "E", type := .double, accessFlags := 25, slot := 0, constantValue := 0 }, { name := "PI", type := .double, accessFlags := 25, slot := 1, constantValue := 0 }, { name := "TAU", type := .double, accessFlags := 25, slot := 2, constantValue := 0 }, { name := "DEGREES_TO_RADIANS", type := .double, accessFlags := 26, slot := 3, constantValue := 0 }, { name := "RADIANS_TO_DEGREES", type := .double, accessFlags := 26, slot := 4, constantValue := 0 }, { name := "negativeZeroFloatBits", type := .long, accessFlags := 26, slot := 5, constantValue := 0 }, { name := "negativeZeroDoubleBits", type := .long, accessFlags := 26, slot := 6, constantValue := 0 }, { name := "twoToTheDoubleScaleUp", type := .double, accessFlags := 8, slot := 7, constantValue := 0 }, { name := "twoToTheDoubleScaleDown", type := .double, accessFlags := 8, slot := 8, constantValue := 0 }, { name := "$assertionsDisabled", type := .boolean, accessFlags := 4120, slot := 9, constantValue := 0 }]
  methods := #[k17m0, k17m1, k17m2]
  instanceTypes := #[]
  staticTypes := #[.double, .double, .double, .double, .double, .long, .long, .double, .double, .boolean]
  resolved := Array.replicate 460 none
  statics := none }

def pool18 : Array CpInfo := pool [(2, .class_ 4), (1, u "java/lang/Object"), (0, u "<init>"), (0, u "()V"), (1, .class_ 10), (1, u "java/lang/System"), (0, u "allowSecurityManager"), (0, u "I"), (16, u "cons"), (0, u "Ljava/io/Console;"), (77, .class_ 110), (1, u "java/lang/System$CallersHolder"), (43, u "initialErrStream"), (0, u "Ljava/io/PrintStream;"), (19, u "security"), (0, u "Ljava/lang/SecurityManager;"), (31, .class_ 209), (0, u "java/lang/System$1"), (7, u "props"), (0, u "Ljava/util/Properties;"), (2, u "lineSeparator"), (0, u "Ljava/lang/String;"), (96, .class_ 321), (1, u "java/lang/System$LoggerFinder"), (5, .class_ 328), (0, u "java/lang/System$Logger"), (67, u "err"), (2, u "out"), (91, u "notSupportedJnuEncoding"), (15, u "in"), (17, u "initialIn"), (0, u "Ljava/io/InputStream;"), (35, u "bootLayer"), (0, u "Ljava/lang/ModuleLayer;"), (99, .class_ 664), (0, u "java/lang/System$2"), (9, u "NEVER"), (2, u "MAYBE"), (49, u "arraycopy"), (0, u "(Ljava/lang/Object;ILjava/lang/Object;II)V"), (72, .class_ 802), (0, u "java/lang/System$Logger$Level")] 31

def k18m0 : Method := { name := "<init>", desc := "()V", sig := { parameters := [], returnType := none }, accessFlags := 2, code := none }
def k18m1 : Method := { name := "arraycopy", desc := "(Ljava/lang/Object;ILjava/lang/Object;II)V", sig := { parameters := [(.object "java/lang/Object"), .int, (.object "java/lang/Object"), .int, .int], returnType := none }, accessFlags := 265, code := none }
/-- java/lang/System -/
def k18 : Class := { plain "java/lang/System" (some 0) with
  accessFlags := 49
  interfaces := #[]
  cf := some (fileOf pool18 8 #[.nestMembers #[319, 327, 801, 108, 663, 208]] #[{ accessFlags := 2, nameIndex := 5, descriptorIndex := 6, attributes := #[] }, { accessFlags := 265, nameIndex := 727, descriptorIndex := 728, attributes := #[] }] 49 2 #[] #[{ accessFlags := 25, nameIndex := 507, descriptorIndex := 526, attributes := #[] }, { accessFlags := 25, nameIndex := 399, descriptorIndex := 155, attributes := #[] }, { accessFlags := 25, nameIndex := 396, descriptorIndex := 155, attributes := #[] }, { accessFlags := 10, nameIndex := 525, descriptorIndex := 526, attributes := #[] }, { accessFlags := 26, nameIndex := 674, descriptorIndex := 12, attributes := #[] }, { accessFlags := 26, nameIndex := 677, descriptorIndex := 12, attributes := #[] }, { accessFlags := 10, nameIndex := 11, descriptorIndex := 12, attributes := #[] }, { accessFlags := 74, nameIndex := 175, descriptorIndex := 176, attributes := #[] }, { accessFlags := 10, nameIndex := 491, descriptorIndex := 222, attributes := #[] }, { accessFlags := 74, nameIndex := 29, descriptorIndex := 30, attributes := #[] }, { accessFlags := 74, nameIndex := 154, descriptorIndex := 155, attributes := #[] }, { accessFlags := 10, nameIndex := 217, descriptorIndex := 218, attributes := #[] }, { accessFlags := 10, nameIndex := 221, descriptorIndex := 222, attributes := #[] }, { accessFlags := 8, nameIndex := 562, descriptorIndex := 563, attributes := #[] }])
  fields := #[{ name := "in", type := (.object "java/io/InputStream"), accessFlags := 25, slot := 0, constantValue := 0 }, { name := "out", type := (.object "java/io/PrintStream"), accessFlags := 25, slot := 1, constantValue := 0 }, { name := "err", type := (.object "java/io/PrintStream"), accessFlags := 25, slot := 2, constantValue := 0 }, { name := "initialIn", type := (.object "java/io/InputStream"), accessFlags := 10, slot := 3, constantValue := 0 }, { name := "NEVER", type := .int, accessFlags := 26, slot := 4, constantValue := 0 }, { name := "MAYBE", type := .int, accessFlags := 26, slot := 5, constantValue := 0 }, { name := "allowSecurityManager", type := .int, accessFlags := 10, slot := 6, constantValue := 0 }, { name := "security", type := (.object "java/lang/SecurityManager"), accessFlags := 74, slot := 7, constantValue := 0 }, { name := "notSupportedJnuEncoding", type := (.object "java/lang/String"), accessFlags := 10, slot := 8, constantValue := 0 }, { name := "cons", type := (.object "java/io/Console"), accessFlags := 74, slot := 9, constantValue := 0 }, { name := "initialErrStream", type := (.object "java/io/PrintStream"), accessFlags := 74, slot := 10, constantValue := 0 }, { name := "props", type := (.object "java/util/Properties"), accessFlags := 10, slot := 11, constantValue := 0 }, { name := "lineSeparator", type := (.object "java/lang/String"), accessFlags := 10, slot := 12, constantValue := 0 }, { name := "bootLayer", type := (.object "java/lang/ModuleLayer"), accessFlags := 8, slot := 13, constantValue := 0 }]
  methods := #[k18m0, k18m1]
  instanceTypes := #[]
  staticTypes := #[(.object "java/io/InputStream"), (.object "java/io/PrintStream"), (.object "java/io/PrintStream"), (.object "java/io/InputStream"), .int, .int, .int, (.object "java/lang/SecurityManager"), (.object "java/lang/String"), (.object "java/io/Console"), (.object "java/io/PrintStream"), (.object "java/util/Properties"), (.object "java/lang/String"), (.object "java/lang/ModuleLayer")]
  resolved := Array.replicate 834 none
  statics := none }

def pool19 : Array CpInfo := pool [(2, .class_ 4), (1, u "java/lang/Object"), (0, u "<init>"), (0, u "()V"), (35, .class_ 44), (1, u "java/util/Objects"), (60, .methodref 106 107), (0, .class_ 108), (0, .nameAndType 109 110), (0, u "jdk/internal/util/Preconditions"), (0, u "checkIndex"), (0, u "(IILjava/util/function/BiFunction;)I"), (60, u "(II)I")] 12

def k19m0 : Method := { name := "<init>", desc := "()V", sig := { parameters := [], returnType := none }, accessFlags := 2, code := none }
def k19c1 : Code := { maxStack := 3, maxLocals := 2, code := jdk_31_method_17_code, exceptionTable := #[], attributes := #[] }
def k19m1 : Method := { name := "checkIndex", desc := "(II)I", sig := { parameters := [.int, .int], returnType := some .int }, accessFlags := 9, code := some k19c1 }
/-- java/util/Objects -/
def k19 : Class := { plain "java/util/Objects" (some 0) with
  accessFlags := 49
  interfaces := #[]
  cf := some (fileOf pool19 42 #[] #[{ accessFlags := 2, nameIndex := 5, descriptorIndex := 6, attributes := #[] }, { accessFlags := 9, nameIndex := 109, descriptorIndex := 171, attributes := #[] }] 49 2 #[] #[])
  fields := #[]
  methods := #[k19m0, k19m1]
  instanceTypes := #[]
  staticTypes := #[]
  resolved := Array.replicate 184 none
  statics := none }

def pool20 : Array CpInfo := pool [(2, .class_ 4), (1, u "java/lang/Object"), (0, u "<init>"), (0, u "()V"), (17, .class_ 26), (1, u "jdk/internal/util/Preconditions"), (6, u "checkIndex"), (21, .class_ 56), (0, u "jdk/internal/util/Preconditions$4"), (57, .class_ 115), (0, u "jdk/internal/util/Preconditions$1"), (7, u "SIOOBE_FORMATTER"), (0, u "Ljava/util/function/BiFunction;"), (0, .class_ 126), (0, u "jdk/internal/util/Preconditions$2"), (3, u "AIOOBE_FORMATTER"), (0, .class_ 132), (0, u "jdk/internal/util/Preconditions$3"), (3, u "IOOBE_FORMATTER"), (41, u "(IILjava/util/function/BiFunction;)I")] 15

def k20m0 : Method := { name := "<init>", desc := "()V", sig := { parameters := [], returnType := none }, accessFlags := 1, code := none }
def k20c1 : Code := { maxStack := 3, maxLocals := 3, code := jdk_41_method_11_code, exceptionTable := #[], attributes := #[] }
def k20m1 : Method := { name := "checkIndex", desc := "(IILjava/util/function/BiFunction;)I", sig := { parameters := [.int, .int, (.object "java/util/function/BiFunction")], returnType := some .int }, accessFlags := 9, code := some k20c1 }
/-- jdk/internal/util/Preconditions -/
def k20 : Class := { plain "jdk/internal/util/Preconditions" (some 0) with
  accessFlags := 33
  interfaces := #[]
  cf := some (fileOf pool20 24 #[.nestMembers #[55, 131, 125, 114]] #[{ accessFlags := 1, nameIndex := 5, descriptorIndex := 6, attributes := #[] }, { accessFlags := 9, nameIndex := 33, descriptorIndex := 178, attributes := #[] }] 33 2 #[] #[{ accessFlags := 25, nameIndex := 123, descriptorIndex := 124, attributes := #[] }, { accessFlags := 25, nameIndex := 130, descriptorIndex := 124, attributes := #[] }, { accessFlags := 25, nameIndex := 136, descriptorIndex := 124, attributes := #[] }])
  fields := #[{ name := "SIOOBE_FORMATTER", type := (.object "java/util/function/BiFunction"), accessFlags := 25, slot := 0, constantValue := 0 }, { name := "AIOOBE_FORMATTER", type := (.object "java/util/function/BiFunction"), accessFlags := 25, slot := 1, constantValue := 0 }, { name := "IOOBE_FORMATTER", type := (.object "java/util/function/BiFunction"), accessFlags := 25, slot := 2, constantValue := 0 }]
  methods := #[k20m0, k20m1]
  instanceTypes := #[]
  staticTypes := #[(.object "java/util/function/BiFunction"), (.object "java/util/function/BiFunction"), (.object "java/util/function/BiFunction")]
  resolved := Array.replicate 194 none
  statics := none }

def pool21 : Array CpInfo := pool [(2, .class_ 4), (1, u "java/lang/Object"), (0, u "<init>"), (0, u "()V"), (3, .class_ 11), (0, u "java/util/ImmutableCollections$List12"), (0, .class_ 13), (0, u "java/util/ImmutableCollections$ListN"), (3, u "Z"), (29, .class_ 49), (1, u "java/util/ImmutableCollections"), (0, u "$assertionsDisabled"), (5, u "[Ljava/lang/Object;"), (5, u "EMPTY_LIST"), (0, u "Ljava/util/ImmutableCollections$ListN;"), (8, u "EMPTY_LIST_NULLS"), (22, u "SALT32L"), (0, u "J"), (2, u "REVERSE"), (6, u "archivedObjects"), (2, u "EMPTY"), (0, u "Ljava/lang/Object;"), (0, .class_ 112), (0, u "java/util/ImmutableCollections$SetN"), (5, u "EMPTY_SET"), (0, u "Ljava/util/ImmutableCollections$SetN;"), (0, .class_ 121), (0, u "java/util/ImmutableCollections$MapN"), (3, u "EMPTY_MAP"), (0, u "Ljava/util/ImmutableCollections$MapN;"), (4, u "EXPAND_FACTOR"), (0, u "I"), (36, .class_ 170), (0, u "java/util/ImmutableCollections$MapN$MapNIterator"), (0, .class_ 172), (0, u "java/util/ImmutableCollections$MapN$1"), (0, .class_ 174), (0, u "java/util/ImmutableCollections$Map1"), (0, .class_ 176), (0, u "java/util/ImmutableCollections$AbstractImmutableMap"), (0, .class_ 178), (0, u "java/util/ImmutableCollections$SetN$SetNIterator"), (0, .class_ 180), (0, u "java/util/ImmutableCollections$Set12"), (0, .class_ 182), (0, u "java/util/ImmutableCollections$Set12$1"), (0, .class_ 184), (0, u "java/util/ImmutableCollections$AbstractImmutableSet"), (0, .class_ 186), (0, u "java/util/ImmutableCollections$SubList"), (0, .class_ 188), (0, u "java/util/ImmutableCollections$ListItr"), (0, .class_ 190), (0, u "java/util/ImmutableCollections$AbstractImmutableList"), (0, .class_ 192), (0, u "java/util/ImmutableCollections$AbstractImmutableCollection"), (0, .class_ 194), (0, u "java/util/ImmutableCollections$Access"), (0, .class_ 196), (0, u "java/util/ImmutableCollections$Access$1")] 16

def k21m0 : Method := { name := "<init>", desc := "()V", sig := { parameters := [], returnType := none }, accessFlags := 2, code := none }
/-- java/util/ImmutableCollections -/
def k21 : Class := { plain "java/util/ImmutableCollections" (some 0) with
  accessFlags := 32
  interfaces := #[]
  cf := some (fileOf pool21 47 #[.nestMembers #[120, 169, 171, 173, 175, 111, 177, 179, 181, 183, 12, 10, 185, 187, 189, 191, 193, 195]] #[{ accessFlags := 2, nameIndex := 5, descriptorIndex := 6, attributes := #[] }] 32 2 #[] #[{ accessFlags := 26, nameIndex := 95, descriptorIndex := 96, attributes := #[] }, { accessFlags := 26, nameIndex := 99, descriptorIndex := 17, attributes := #[] }, { accessFlags := 10, nameIndex := 106, descriptorIndex := 56, attributes := #[] }, { accessFlags := 26, nameIndex := 109, descriptorIndex := 110, attributes := #[] }, { accessFlags := 24, nameIndex := 62, descriptorIndex := 63, attributes := #[] }, { accessFlags := 24, nameIndex := 72, descriptorIndex := 63, attributes := #[] }, { accessFlags := 24, nameIndex := 118, descriptorIndex := 119, attributes := #[] }, { accessFlags := 24, nameIndex := 125, descriptorIndex := 126, attributes := #[] }, { accessFlags := 24, nameIndex := 131, descriptorIndex := 132, attributes := #[] }, { accessFlags := 4120, nameIndex := 50, descriptorIndex := 17, attributes := #[] }])
  fields := #[{ name := "SALT32L", type := .long, accessFlags := 26, slot := 0, constantValue := 0 }, { name := "REVERSE", type := .boolean, accessFlags := 26, slot := 1, constantValue := 0 }, { name := "archivedObjects", type := (.array (.object "java/lang/Object")), accessFlags := 10, slot := 2, constantValue := 0 }, { name := "EMPTY", type := (.object "java/lang/Object"), accessFlags := 26, slot := 3, constantValue := 0 }, { name := "EMPTY_LIST", type := (.object "java/util/ImmutableCollections$ListN"), accessFlags := 24, slot := 4, constantValue := 0 }, { name := "EMPTY_LIST_NULLS", type := (.object "java/util/ImmutableCollections$ListN"), accessFlags := 24, slot := 5, constantValue := 0 }, { name := "EMPTY_SET", type := (.object "java/util/ImmutableCollections$SetN"), accessFlags := 24, slot := 6, constantValue := 0 }, { name := "EMPTY_MAP", type := (.object "java/util/ImmutableCollections$MapN"), accessFlags := 24, slot := 7, constantValue := 0 }, { name := "EXPAND_FACTOR", type := .int, accessFlags := 24, slot := 8, constantValue := 0 }, { name := "$assertionsDisabled", type := .boolean, accessFlags := 4120, slot := 9, constantValue := 0 }]
  methods := #[k21m0]
  instanceTypes := #[]
  staticTypes := #[.long, .boolean, (.array (.object "java/lang/Object")), (.object "java/lang/Object"), (.object "java/util/ImmutableCollections$ListN"), (.object "java/util/ImmutableCollections$ListN"), (.object "java/util/ImmutableCollections$SetN"), (.object "java/util/ImmutableCollections$MapN"), .int, .boolean]
  resolved := Array.replicate 213 none
  statics := some 2 }

def pool22 : Array CpInfo := pool [(2, .class_ 4), (1, u "java/util/AbstractCollection"), (0, u "<init>"), (0, u "()V"), (1, .class_ 10), (1, u "java/util/ImmutableCollections"), (2, .class_ 14), (0, u "java/util/ImmutableCollections$AbstractImmutableCollection")] 41

def k22m0 : Method := { name := "<init>", desc := "()V", sig := { parameters := [], returnType := none }, accessFlags := 0, code := none }
/-- java/util/ImmutableCollections$AbstractImmutableCollection -/
def k22 : Class := { plain "java/util/ImmutableCollections$AbstractImmutableCollection" (some 7) with
  accessFlags := 1056
  interfaces := #[]
  cf := some (fileOf pool22 13 #[.nestHost 8] #[{ accessFlags := 0, nameIndex := 5, descriptorIndex := 6, attributes := #[] }] 1056 2 #[] #[])
  fields := #[]
  methods := #[k22m0]
  instanceTypes := #[]
  staticTypes := #[]
  resolved := Array.replicate 56 none
  statics := none }

def pool23 : Array CpInfo := pool [(2, .class_ 4), (1, u "java/util/ImmutableCollections$AbstractImmutableCollection"), (0, u "<init>"), (0, u "()V"), (1, .class_ 10), (1, u "java/util/ImmutableCollections"), (3, .class_ 16), (1, u "java/util/ImmutableCollections$AbstractImmutableList"), (60, .class_ 78), (0, u "java/util/List"), (45, .class_ 125), (0, u "java/util/RandomAccess")] 70

def k23m0 : Method := { name := "<init>", desc := "()V", sig := { parameters := [], returnType := none }, accessFlags := 0, code := none }
/-- java/util/ImmutableCollections$AbstractImmutableList -/
def k23 : Class := { plain "java/util/ImmutableCollections$AbstractImmutableList" (some 22) with
  accessFlags := 1056
  interfaces := #[9, 11]
  cf := some (fileOf pool23 14 #[.nestHost 8] #[{ accessFlags := 0, nameIndex := 5, descriptorIndex := 6, attributes := #[] }] 1056 2 #[77, 124] #[])
  fields := #[]
  methods := #[k23m0]
  instanceTypes := #[]
  staticTypes := #[]
  resolved := Array.replicate 196 none
  statics := none }

def pool24 : Array CpInfo := pool [(2, .class_ 4), (1, u "java/util/ImmutableCollections$AbstractImmutableList"), (2, .fieldref 8 9), (0, .class_ 10), (0, .nameAndType 11 12), (0, u "java/util/ImmutableCollections$ListN"), (0, u "elements"), (0, u "[Ljava/lang/Object;"), (2, u "allowNulls"), (0, u "Z"), (42, .class_ 60), (0, u "java/io/Serializable"), (16, u "size"), (0, u "()I"), (35, .class_ 115), (0, u "java/util/ImmutableCollections")] 3

def k24c0 : Code := { maxStack := 1, maxLocals := 1, code := jdk_45_method_3_code, exceptionTable := #[], attributes := #[] }
def k24m0 : Method := { name := "size", desc := "()I", sig := { parameters := [], returnType := some .int }, accessFlags := 1, code := some k24c0 }
/-- java/util/ImmutableCollections$ListN -/
def k24 : Class := { plain "java/util/ImmutableCollections$ListN" (some 23) with
  accessFlags := 48
  interfaces := #[12]
  cf := some (fileOf pool24 8 #[.nestHost 114] #[{ accessFlags := 1, nameIndex := 77, descriptorIndex := 78, attributes := #[] }] 48 2 #[59] #[{ accessFlags := 18, nameIndex := 11, descriptorIndex := 12, attributes := #[] }, { accessFlags := 18, nameIndex := 15, descriptorIndex := 16, attributes := #[] }])
  fields := #[{ name := "elements", type := (.array (.object "java/lang/Object")), accessFlags := 18, slot := 0, constantValue := 0 }, { name := "allowNulls", type := .boolean, accessFlags := 18, slot := 1, constantValue := 0 }]
  methods := #[k24m0]
  instanceTypes := #[(.array (.object "java/lang/Object")), .boolean]
  staticTypes := #[]
  resolved := Array.replicate 119 none
  statics := none }

def pool25 : Array CpInfo := pool [(1, .methodref 2 3), (0, .class_ 4), (0, .nameAndType 5 6), (0, u "java/lang/Object"), (0, u "<init>"), (0, u "()V"), (0, .fieldref 8 9), (0, .class_ 10), (0, .nameAndType 11 12), (0, u "com/example/passenger_flow_sim/passengerflowsim/simulation/TripLoads"), (0, u "trip"), (0, u "Lcom/example/passenger_flow_sim/passengerflowsim/timetable/Trip;"), (0, .fieldref 8 14), (0, .nameAndType 15 16), (0, u "loads"), (0, u "[I"), (0, u "(Lcom/example/passenger_flow_sim/passengerflowsim/timetable/Trip;[I)V"), (3, u "linkCount"), (0, u "()I"), (0, u "load"), (0, u "(I)I")] 2

def k25c0 : Code := { maxStack := 2, maxLocals := 3, code := prog_31_method_1_code, exceptionTable := #[], attributes := #[] }
def k25m0 : Method := { name := "<init>", desc := "(Lcom/example/passenger_flow_sim/passengerflowsim/timetable/Trip;[I)V", sig := { parameters := [(.object "com/example/passenger_flow_sim/passengerflowsim/timetable/Trip"), (.array .int)], returnType := none }, accessFlags := 0, code := some k25c0 }
def k25c1 : Code := { maxStack := 1, maxLocals := 1, code := prog_31_method_3_code, exceptionTable := #[], attributes := #[] }
def k25m1 : Method := { name := "linkCount", desc := "()I", sig := { parameters := [], returnType := some .int }, accessFlags := 1, code := some k25c1 }
def k25c2 : Code := { maxStack := 2, maxLocals := 2, code := prog_31_method_4_code, exceptionTable := #[], attributes := #[] }
def k25m2 : Method := { name := "load", desc := "(I)I", sig := { parameters := [.int], returnType := some .int }, accessFlags := 1, code := some k25c2 }
/-- com/example/passenger_flow_sim/passengerflowsim/simulation/TripLoads -/
def k25 : Class := { plain "com/example/passenger_flow_sim/passengerflowsim/simulation/TripLoads" (some 0) with
  accessFlags := 49
  interfaces := #[]
  cf := some (fileOf pool25 8 #[] #[{ accessFlags := 0, nameIndex := 5, descriptorIndex := 17, attributes := #[] }, { accessFlags := 1, nameIndex := 21, descriptorIndex := 22, attributes := #[] }, { accessFlags := 1, nameIndex := 23, descriptorIndex := 24, attributes := #[] }] 49 2 #[] #[{ accessFlags := 18, nameIndex := 11, descriptorIndex := 12, attributes := #[] }, { accessFlags := 18, nameIndex := 15, descriptorIndex := 16, attributes := #[] }])
  fields := #[{ name := "trip", type := (.object "com/example/passenger_flow_sim/passengerflowsim/timetable/Trip"), accessFlags := 18, slot := 0, constantValue := 0 }, { name := "loads", type := (.array .int), accessFlags := 18, slot := 1, constantValue := 0 }]
  methods := #[k25m0, k25m1, k25m2]
  instanceTypes := #[(.object "com/example/passenger_flow_sim/passengerflowsim/timetable/Trip"), (.array .int)]
  staticTypes := #[]
  resolved := Array.replicate 27 none
  statics := none }

def pool26 : Array CpInfo := pool [(1, u "java/lang/Class"), (0, .class_ 1), (0, u "java/lang/Object"), (0, .class_ 3)] 0

/-- java/lang/Class -/
def k26 : Class := { plain "java/lang/Class" (some 0) with
  accessFlags := 49
  interfaces := #[]
  cf := some (fileOf pool26 2 #[] #[] 49 4 #[] #[])
  fields := #[]
  methods := #[]
  instanceTypes := #[]
  staticTypes := #[]
  resolved := Array.replicate 5 none
  statics := none }

/-- the primitive byte -/
def k27 : Class := { plain "byte" none with kind := .primitive 'B', accessFlags := 0x411 }
/-- [B -/
def k28 : Class := { plain "[B" (some 0) with kind := .array 27 .byte, interfaces := #[3, 12], accessFlags := 1041 }

/-- the primitive int -/
def k29 : Class := { plain "int" none with kind := .primitive 'I', accessFlags := 0x411 }
/-- [I -/
def k30 : Class := { plain "[I" (some 0) with kind := .array 29 .int, interfaces := #[3, 12], accessFlags := 1041 }

/-- [Ljava/lang/Object; -/
def k31 : Class := { plain "[Ljava/lang/Object;" (some 0) with mirror := some 5, kind := .array 0 (.object "java/lang/Object"), interfaces := #[3, 12], accessFlags := 1041 }

def heap : Heap := #[{ cls := 13, slots := #[.long 0, .int 0, .ref 7, .ref 8], vm := .statics 13 },
  { cls := 15, slots := #[.long 0, .int 1], vm := .statics 15 },
  { cls := 21, slots := #[.long 0, .int 0, .null, .null, .ref 9, .null, .null, .null, .int 0, .int 0], vm := .statics 21 },
  { cls := 26, slots := #[], vm := .mirror 15 },
  { cls := 26, slots := #[], vm := .mirror 13 },
  { cls := 26, slots := #[], vm := .mirror 31 },
  { cls := 31, slots := #[], vm := .none },
  { cls := 31, slots := #[], vm := .none },
  { cls := 31, slots := #[], vm := .none },
  { cls := 24, slots := #[.ref 6, .int 0], vm := .none }]
def classes : Array Class := #[k0, k1, k2, k3, k4, k5, k6, k7, k8, k9, k10, k11, k12, k13, k14, k15, k16, k17, k18, k19, k20, k21, k22, k23, k24, k25, k26, k27, k28, k29, k30, k31]
def interned : List (Array UInt16 × Addr) := []
def slotsUsed : Nat := 18
def theMethod : MethodId := ⟨1, 1⟩
def args0 : Array Value := #[.int 5, .int 7, .int 1]
def aboutOver (below : List Frame) : State where
  vm := { classes := classes, interned := interned.toArray }
  heap := heap
  slotsUsed := slotsUsed
  threads := #[{ frames := .invoking theMethod args0 :: below }]
def below0 : List Frame := [.native { method := ⟨0, 0⟩, args := #[] }]
def about1 : State := aboutOver below0
def p0 : Program := .bare "" "" ""
def e0 : Env := launch0.env 0 0 0
theorem w_frames : about1.frames = Frame.invoking theMethod args0 :: below0 := rfl
set_option maxRecDepth 65536 in
theorem w_args : argsFit about1.vm theMethod args0 = true := by decide +kernel
set_option maxRecDepth 65536 in
theorem w_heap : heapFits about1 = true := by decide +kernel
set_option maxRecDepth 65536 in
theorem w_runnable : about1.curStatus? = some .runnable := by decide +kernel
set_option maxRecDepth 65536 in
theorem w_alone : about1.alone = true := by decide +kernel
set_option maxRecDepth 65536 in
theorem w_named : about1.methodNamed? x = some theMethod := by decide +kernel
set_option maxRecDepth 65536 in
theorem w_hears : about1.hears theMethod below0 = true := by decide +kernel
set_option maxRecDepth 65536 in
theorem w_ripe : about1.ripe theMethod args0 below0 = true := by decide +kernel
theorem w_running : about1.status = .running := rfl
set_option maxRecDepth 65536 in
theorem w_room : about1.hasRoom e0.platform room_1 = true :=
  launch0.hasRoom_least _ room_1 (by decide +kernel) (by decide +kernel) (by decide +kernel) (by decide +kernel) (by decide +kernel) (by decide +kernel)
theorem allAtoms_all (ts : List Jvm.Cond) (a : Array Jvm.Value) (st : Jvm.State) : (allAtoms ts).before a st = ts.all (fun c => c.before a st) := by
  induction ts with
  | nil => rfl
  | cons c t ih =>
    show (Jvm.Cond.and c (allAtoms t)).before a st = _
    rw [Jvm.Cond.before_and, ih, List.all_cons]
def words1 : List Jvm.Cond := Jvm.Cond.code x code maxLocals ret :: tables_1
/-- a 'code' word, met by the world's own term for the bytes: nothing is compared byte by byte -/
theorem code_word {y : MethodName} {bytes : ByteArray} {mx : Nat} {rt : Option FieldType} {a : Array Value} {s : State} {m : MethodId} {meth : Method} {c : Code} (h1 : s.methodNamed? y = some m) (h2 : s.vm.method? m = some meth) (h3 : meth.code = some c) (h4 : c.code = bytes)
    (h5 : (c.maxLocals == mx && c.exceptionTable.isEmpty && decide (c.maxStack ≤ mostOperands) && decide (meth.sig.returnType = rt) && !meth.locks && decide (parseMethodDescriptor y.desc = some meth.sig)) = true) : (Jvm.Cond.code y bytes mx rt).before a s = true := by
  simp only [Bool.and_eq_true, beq_iff_eq, Bool.not_eq_true', decide_eq_true_eq] at h5
  obtain ⟨⟨⟨⟨⟨g1, g2⟩, g3⟩, g4⟩, g5⟩, g6⟩ := h5
  simp [Cond.before, Cond.holds, Cond.value, h1, h2, h3, h4, g1, g2, g3, g4, g5, g6]
def isCode : Jvm.Cond → Bool
  | .code _ _ _ _ => true
  | _ => false
theorem all_split {L : List Jvm.Cond} {P : Jvm.Cond → Bool} (h1 : L.all (fun c => isCode c || P c) = true) (h2 : ∀ c ∈ L.filter isCode, P c = true) : L.all P = true := by
  refine List.all_eq_true.mpr fun c hc => ?_
  have h := List.all_eq_true.mp h1 c hc
  rcases Bool.eq_false_or_eq_true (isCode c) with hi | hi
  · exact h2 c (List.mem_filter.mpr ⟨hc, hi⟩)
  · simpa [hi] using h
set_option maxRecDepth 65536 in
theorem w_c0 : (Jvm.Cond.code x code maxLocals ret).before args0 about1 = true := code_word (m := ⟨1, 1⟩) (meth := k1m1) (c := k1c1) (by decide +kernel) rfl rfl rfl (by decide +kernel)
set_option maxRecDepth 65536 in
theorem w_c1 : (Jvm.Cond.code ({ cls := "com/example/passenger_flow_sim/passengerflowsim/timetable/Trip", name := "<init>", desc := "(Ljava/lang/String;Ljava/lang/String;[I[I[I)V" } : Jvm.MethodName) prog_42_method_1_code (7 : Nat) (Option.none : Option Jvm.ClassFile.FieldType)).before args0 about1 = true := code_word (m := ⟨2, 0⟩) (meth := k2m0) (c := k2c0) (by decide +kernel) rfl rfl rfl (by decide +kernel)
set_option maxRecDepth 65536 in
theorem w_c2 : (Jvm.Cond.code ({ cls := "java/lang/Object", name := "<init>", desc := "()V" } : Jvm.MethodName) object_method_1_code (1 : Nat) (Option.none : Option Jvm.ClassFile.FieldType)).before args0 about1 = true := code_word (m := ⟨0, 0⟩) (meth := k0m0) (c := k0c0) (by decide +kernel) rfl rfl rfl (by decide +kernel)
set_option maxRecDepth 65536 in
theorem w_c3 : (Jvm.Cond.code ({ cls := "com/example/passenger_flow_sim/passengerflowsim/simulation/Vehicle", name := "<init>", desc := "(Lcom/example/passenger_flow_sim/passengerflowsim/timetable/Trip;I)V" } : Jvm.MethodName) prog_32_method_1_code (3 : Nat) (Option.none : Option Jvm.ClassFile.FieldType)).before args0 about1 = true := code_word (m := ⟨4, 0⟩) (meth := k4m0) (c := k4c0) (by decide +kernel) rfl rfl rfl (by decide +kernel)
set_option maxRecDepth 65536 in
theorem w_c4 : (Jvm.Cond.code ({ cls := "com/example/passenger_flow_sim/passengerflowsim/timetable/Trip", name := "length", desc := "()I" } : Jvm.MethodName) prog_42_method_4_code (1 : Nat) (Option.some Jvm.ClassFile.FieldType.int)).before args0 about1 = true := code_word (m := ⟨2, 1⟩) (meth := k2m1) (c := k2c1) (by decide +kernel) rfl rfl rfl (by decide +kernel)
set_option maxRecDepth 65536 in
theorem w_c5 : (Jvm.Cond.code ({ cls := "java/util/Collections", name := "nCopies", desc := "(ILjava/lang/Object;)Ljava/util/List;" } : Jvm.MethodName) jdk_79_method_76_code (2 : Nat) (Option.some (Jvm.ClassFile.FieldType.object "java/util/List"))).before args0 about1 = true := code_word (m := ⟨14, 1⟩) (meth := k14m1) (c := k14c1) (by decide +kernel) rfl rfl rfl (by decide +kernel)
set_option maxRecDepth 65536 in
theorem w_c6 : (Jvm.Cond.code ({ cls := "java/util/Collections$CopiesList", name := "<init>", desc := "(ILjava/lang/Object;)V" } : Jvm.MethodName) jdk_2479_method_1_code (3 : Nat) (Option.none : Option Jvm.ClassFile.FieldType)).before args0 about1 = true := code_word (m := ⟨15, 0⟩) (meth := k15m0) (c := k15c0) (by decide +kernel) rfl rfl rfl (by decide +kernel)
set_option maxRecDepth 65536 in
theorem w_c7 : (Jvm.Cond.code ({ cls := "java/util/AbstractList", name := "<init>", desc := "()V" } : Jvm.MethodName) jdk_39_method_1_code (1 : Nat) (Option.none : Option Jvm.ClassFile.FieldType)).before args0 about1 = true := code_word (m := ⟨10, 0⟩) (meth := k10m0) (c := k10c0) (by decide +kernel) rfl rfl rfl (by decide +kernel)
set_option maxRecDepth 65536 in
theorem w_c8 : (Jvm.Cond.code ({ cls := "java/util/AbstractCollection", name := "<init>", desc := "()V" } : Jvm.MethodName) jdk_22_method_1_code (1 : Nat) (Option.none : Option Jvm.ClassFile.FieldType)).before args0 about1 = true := code_word (m := ⟨7, 0⟩) (meth := k7m0) (c := k7c0) (by decide +kernel) rfl rfl rfl (by decide +kernel)
set_option maxRecDepth 65536 in
theorem w_c9 : (Jvm.Cond.code ({ cls := "java/util/ArrayList", name := "<init>", desc := "(Ljava/util/Collection;)V" } : Jvm.MethodName) jdk_38_method_3_code (3 : Nat) (Option.none : Option Jvm.ClassFile.FieldType)).before args0 about1 = true := code_word (m := ⟨13, 1⟩) (meth := k13m1) (c := k13c1) (by decide +kernel) rfl rfl rfl (by decide +kernel)
set_option maxRecDepth 65536 in
theorem w_c10 : (Jvm.Cond.code ({ cls := "java/util/Collections$CopiesList", name := "toArray", desc := "()[Ljava/lang/Object;" } : Jvm.MethodName) jdk_2479_method_8_code (2 : Nat) (Option.some (Jvm.ClassFile.FieldType.array (Jvm.ClassFile.FieldType.object "java/lang/Object")))).before args0 about1 = true := code_word (m := ⟨15, 1⟩) (meth := k15m1) (c := k15c1) (by decide +kernel) rfl rfl rfl (by decide +kernel)
set_option maxRecDepth 65536 in
theorem w_c11 : (Jvm.Cond.code ({ cls := "java/util/Arrays", name := "copyOf", desc := "([Ljava/lang/Object;ILjava/lang/Class;)[Ljava/lang/Object;" } : Jvm.MethodName) jdk_65_method_120_code (4 : Nat) (Option.some (Jvm.ClassFile.FieldType.array (Jvm.ClassFile.FieldType.object "java/lang/Object")))).before args0 about1 = true := code_word (m := ⟨16, 1⟩) (meth := k16m1) (c := k16c1) (by decide +kernel) rfl rfl rfl (by decide +kernel)
set_option maxRecDepth 65536 in
theorem w_c12 : (Jvm.Cond.code ({ cls := "java/lang/Math", name := "min", desc := "(II)I" } : Jvm.MethodName) jdk_29_method_69_code (2 : Nat) (Option.some Jvm.ClassFile.FieldType.int)).before args0 about1 = true := code_word (m := ⟨17, 2⟩) (meth := k17m2) (c := k17c2) (by decide +kernel) rfl rfl rfl (by decide +kernel)
set_option maxRecDepth 65536 in
theorem w_c13 : (Jvm.Cond.code ({ cls := "com/example/passenger_flow_sim/passengerflowsim/simulation/Vehicle", name := "arrive", desc := "()Ljava/util/List;" } : Jvm.MethodName) prog_32_method_10_code (2 : Nat) (Option.some (Jvm.ClassFile.FieldType.object "java/util/List"))).before args0 about1 = true := code_word (m := ⟨4, 6⟩) (meth := k4m6) (c := k4c6) (by decide +kernel) rfl rfl rfl (by decide +kernel)
set_option maxRecDepth 65536 in
theorem w_c14 : (Jvm.Cond.code ({ cls := "com/example/passenger_flow_sim/passengerflowsim/simulation/Vehicle", name := "take", desc := "(Ljava/util/List;I)Ljava/util/List;" } : Jvm.MethodName) prog_32_method_16_code (3 : Nat) (Option.some (Jvm.ClassFile.FieldType.object "java/util/List"))).before args0 about1 = true := code_word (m := ⟨4, 11⟩) (meth := k4m11) (c := k4c11) (by decide +kernel) rfl rfl rfl (by decide +kernel)
set_option maxRecDepth 65536 in
theorem w_c15 : (Jvm.Cond.code ({ cls := "java/util/ArrayList", name := "get", desc := "(I)Ljava/lang/Object;" } : Jvm.MethodName) jdk_38_method_20_code (2 : Nat) (Option.some (Jvm.ClassFile.FieldType.object "java/lang/Object"))).before args0 about1 = true := code_word (m := ⟨13, 5⟩) (meth := k13m5) (c := k13c5) (by decide +kernel) rfl rfl rfl (by decide +kernel)
set_option maxRecDepth 65536 in
theorem w_c16 : (Jvm.Cond.code ({ cls := "java/util/Objects", name := "checkIndex", desc := "(II)I" } : Jvm.MethodName) jdk_31_method_17_code (2 : Nat) (Option.some Jvm.ClassFile.FieldType.int)).before args0 about1 = true := code_word (m := ⟨19, 1⟩) (meth := k19m1) (c := k19c1) (by decide +kernel) rfl rfl rfl (by decide +kernel)
set_option maxRecDepth 65536 in
theorem w_c17 : (Jvm.Cond.code ({ cls := "jdk/internal/util/Preconditions", name := "checkIndex", desc := "(IILjava/util/function/BiFunction;)I" } : Jvm.MethodName) jdk_41_method_11_code (3 : Nat) (Option.some Jvm.ClassFile.FieldType.int)).before args0 about1 = true := code_word (m := ⟨20, 1⟩) (meth := k20m1) (c := k20c1) (by decide +kernel) rfl rfl rfl (by decide +kernel)
set_option maxRecDepth 65536 in
theorem w_c18 : (Jvm.Cond.code ({ cls := "java/util/ArrayList", name := "elementData", desc := "(I)Ljava/lang/Object;" } : Jvm.MethodName) jdk_38_method_18_code (2 : Nat) (Option.some (Jvm.ClassFile.FieldType.object "java/lang/Object"))).before args0 about1 = true := code_word (m := ⟨13, 4⟩) (meth := k13m4) (c := k13c4) (by decide +kernel) rfl rfl rfl (by decide +kernel)
set_option maxRecDepth 65536 in
theorem w_c19 : (Jvm.Cond.code ({ cls := "java/util/ArrayList", name := "set", desc := "(ILjava/lang/Object;)Ljava/lang/Object;" } : Jvm.MethodName) jdk_38_method_23_code (4 : Nat) (Option.some (Jvm.ClassFile.FieldType.object "java/lang/Object"))).before args0 about1 = true := code_word (m := ⟨13, 6⟩) (meth := k13m6) (c := k13c6) (by decide +kernel) rfl rfl rfl (by decide +kernel)
set_option maxRecDepth 65536 in
theorem w_c20 : (Jvm.Cond.code ({ cls := "java/util/List", name := "of", desc := "()Ljava/util/List;" } : Jvm.MethodName) jdk_40_method_36_code (0 : Nat) (Option.some (Jvm.ClassFile.FieldType.object "java/util/List"))).before args0 about1 = true := code_word (m := ⟨9, 4⟩) (meth := k9m4) (c := k9c4) (by decide +kernel) rfl rfl rfl (by decide +kernel)
set_option maxRecDepth 65536 in
theorem w_c21 : (Jvm.Cond.code ({ cls := "java/util/ImmutableCollections$ListN", name := "size", desc := "()I" } : Jvm.MethodName) jdk_45_method_3_code (1 : Nat) (Option.some Jvm.ClassFile.FieldType.int)).before args0 about1 = true := code_word (m := ⟨24, 0⟩) (meth := k24m0) (c := k24c0) (by decide +kernel) rfl rfl rfl (by decide +kernel)
set_option maxRecDepth 65536 in
theorem w_c22 : (Jvm.Cond.code ({ cls := "com/example/passenger_flow_sim/passengerflowsim/simulation/VehicleLeavePinLaw", name := "boardSome", desc := "(Lcom/example/passenger_flow_sim/passengerflowsim/simulation/Vehicle;I)V" } : Jvm.MethodName) method_3_code (2 : Nat) (Option.none : Option Jvm.ClassFile.FieldType)).before args0 about1 = true := code_word (m := ⟨1, 2⟩) (meth := k1m2) (c := k1c2) (by decide +kernel) rfl rfl rfl (by decide +kernel)
set_option maxRecDepth 65536 in
theorem w_c23 : (Jvm.Cond.code ({ cls := "com/example/passenger_flow_sim/passengerflowsim/simulation/Vehicle", name := "leave", desc := "()V" } : Jvm.MethodName) prog_32_method_13_code (2 : Nat) (Option.none : Option Jvm.ClassFile.FieldType)).before args0 about1 = true := code_word (m := ⟨4, 8⟩) (meth := k4m8) (c := k4c8) (by decide +kernel) rfl rfl rfl (by decide +kernel)
set_option maxRecDepth 65536 in
theorem w_c24 : (Jvm.Cond.code ({ cls := "com/example/passenger_flow_sim/passengerflowsim/simulation/Vehicle", name := "loads", desc := "()Lcom/example/passenger_flow_sim/passengerflowsim/simulation/TripLoads;" } : Jvm.MethodName) prog_32_method_14_code (1 : Nat) (Option.some (Jvm.ClassFile.FieldType.object "com/example/passenger_flow_sim/passengerflowsim/simulation/TripLoads"))).before args0 about1 = true := code_word (m := ⟨4, 9⟩) (meth := k4m9) (c := k4c9) (by decide +kernel) rfl rfl rfl (by decide +kernel)
set_option maxRecDepth 65536 in
theorem w_c25 : (Jvm.Cond.code ({ cls := "com/example/passenger_flow_sim/passengerflowsim/simulation/TripLoads", name := "<init>", desc := "(Lcom/example/passenger_flow_sim/passengerflowsim/timetable/Trip;[I)V" } : Jvm.MethodName) prog_31_method_1_code (3 : Nat) (Option.none : Option Jvm.ClassFile.FieldType)).before args0 about1 = true := code_word (m := ⟨25, 0⟩) (meth := k25m0) (c := k25c0) (by decide +kernel) rfl rfl rfl (by decide +kernel)
set_option maxRecDepth 65536 in
theorem w_c26 : (Jvm.Cond.code ({ cls := "com/example/passenger_flow_sim/passengerflowsim/simulation/TripLoads", name := "linkCount", desc := "()I" } : Jvm.MethodName) prog_31_method_3_code (1 : Nat) (Option.some Jvm.ClassFile.FieldType.int)).before args0 about1 = true := code_word (m := ⟨25, 1⟩) (meth := k25m1) (c := k25c1) (by decide +kernel) rfl rfl rfl (by decide +kernel)
set_option maxRecDepth 65536 in
theorem w_c27 : (Jvm.Cond.code ({ cls := "com/example/passenger_flow_sim/passengerflowsim/simulation/Vehicle", name := "load", desc := "()I" } : Jvm.MethodName) prog_32_method_4_code (1 : Nat) (Option.some Jvm.ClassFile.FieldType.int)).before args0 about1 = true := code_word (m := ⟨4, 1⟩) (meth := k4m1) (c := k4c1) (by decide +kernel) rfl rfl rfl (by decide +kernel)
set_option maxRecDepth 65536 in
theorem w_c28 : (Jvm.Cond.code ({ cls := "com/example/passenger_flow_sim/passengerflowsim/simulation/Vehicle", name := "isDone", desc := "()Z" } : Jvm.MethodName) prog_32_method_5_code (1 : Nat) (Option.some Jvm.ClassFile.FieldType.boolean)).before args0 about1 = true := code_word (m := ⟨4, 2⟩) (meth := k4m2) (c := k4c2) (by decide +kernel) rfl rfl rfl (by decide +kernel)
set_option maxRecDepth 65536 in
theorem w_c29 : (Jvm.Cond.code ({ cls := "com/example/passenger_flow_sim/passengerflowsim/simulation/Vehicle", name := "isDeparting", desc := "()Z" } : Jvm.MethodName) prog_32_method_6_code (1 : Nat) (Option.some Jvm.ClassFile.FieldType.boolean)).before args0 about1 = true := code_word (m := ⟨4, 3⟩) (meth := k4m3) (c := k4c3) (by decide +kernel) rfl rfl rfl (by decide +kernel)
set_option maxRecDepth 65536 in
theorem w_c30 : (Jvm.Cond.code ({ cls := "com/example/passenger_flow_sim/passengerflowsim/simulation/Vehicle", name := "hasLeft", desc := "(I)Z" } : Jvm.MethodName) prog_32_method_8_code (2 : Nat) (Option.some Jvm.ClassFile.FieldType.boolean)).before args0 about1 = true := code_word (m := ⟨4, 5⟩) (meth := k4m5) (c := k4c5) (by decide +kernel) rfl rfl rfl (by decide +kernel)
set_option maxRecDepth 65536 in
theorem w_c31 : (Jvm.Cond.code ({ cls := "com/example/passenger_flow_sim/passengerflowsim/simulation/Vehicle", name := "nextTime", desc := "()I" } : Jvm.MethodName) prog_32_method_7_code (2 : Nat) (Option.some Jvm.ClassFile.FieldType.int)).before args0 about1 = true := code_word (m := ⟨4, 4⟩) (meth := k4m4) (c := k4c4) (by decide +kernel) rfl rfl rfl (by decide +kernel)
set_option maxRecDepth 65536 in
theorem w_c32 : (Jvm.Cond.code ({ cls := "com/example/passenger_flow_sim/passengerflowsim/timetable/Trip", name := "arrival", desc := "(I)I" } : Jvm.MethodName) prog_42_method_6_code (2 : Nat) (Option.some Jvm.ClassFile.FieldType.int)).before args0 about1 = true := code_word (m := ⟨2, 2⟩) (meth := k2m2) (c := k2c2) (by decide +kernel) rfl rfl rfl (by decide +kernel)
set_option maxRecDepth 65536 in
theorem w_c33 : (Jvm.Cond.code ({ cls := "com/example/passenger_flow_sim/passengerflowsim/simulation/TripLoads", name := "load", desc := "(I)I" } : Jvm.MethodName) prog_31_method_4_code (2 : Nat) (Option.some Jvm.ClassFile.FieldType.int)).before args0 about1 = true := code_word (m := ⟨25, 2⟩) (meth := k25m2) (c := k25c2) (by decide +kernel) rfl rfl rfl (by decide +kernel)
set_option maxRecDepth 65536 in
theorem w_c34 : (Jvm.Cond.code ({ cls := "com/example/passenger_flow_sim/passengerflowsim/simulation/Vehicle", name := "board", desc := "(Lcom/example/passenger_flow_sim/passengerflowsim/simulation/Traveller;I)V" } : Jvm.MethodName) prog_32_method_12_code (3 : Nat) (Option.none : Option Jvm.ClassFile.FieldType)).before args0 about1 = true := code_word (m := ⟨4, 7⟩) (meth := k4m7) (c := k4c7) (by decide +kernel) rfl rfl rfl (by decide +kernel)
set_option maxRecDepth 65536 in
theorem w_c35 : (Jvm.Cond.code ({ cls := "com/example/passenger_flow_sim/passengerflowsim/simulation/Vehicle", name := "add", desc := "(Ljava/util/List;ILcom/example/passenger_flow_sim/passengerflowsim/simulation/Traveller;)V" } : Jvm.MethodName) prog_32_method_15_code (3 : Nat) (Option.none : Option Jvm.ClassFile.FieldType)).before args0 about1 = true := code_word (m := ⟨4, 10⟩) (meth := k4m10) (c := k4c10) (by decide +kernel) rfl rfl rfl (by decide +kernel)
set_option maxRecDepth 65536 in
theorem w_c36 : (Jvm.Cond.code ({ cls := "java/util/ArrayList", name := "<init>", desc := "()V" } : Jvm.MethodName) jdk_38_method_2_code (1 : Nat) (Option.none : Option Jvm.ClassFile.FieldType)).before args0 about1 = true := code_word (m := ⟨13, 0⟩) (meth := k13m0) (c := k13c0) (by decide +kernel) rfl rfl rfl (by decide +kernel)
set_option maxRecDepth 65536 in
theorem w_c37 : (Jvm.Cond.code ({ cls := "java/util/ArrayList", name := "add", desc := "(Ljava/lang/Object;)Z" } : Jvm.MethodName) jdk_38_method_25_code (2 : Nat) (Option.some Jvm.ClassFile.FieldType.boolean)).before args0 about1 = true := code_word (m := ⟨13, 8⟩) (meth := k13m8) (c := k13c8) (by decide +kernel) rfl rfl rfl (by decide +kernel)
set_option maxRecDepth 65536 in
theorem w_c38 : (Jvm.Cond.code ({ cls := "java/util/ArrayList", name := "add", desc := "(Ljava/lang/Object;[Ljava/lang/Object;I)V" } : Jvm.MethodName) jdk_38_method_24_code (4 : Nat) (Option.none : Option Jvm.ClassFile.FieldType)).before args0 about1 = true := code_word (m := ⟨13, 7⟩) (meth := k13m7) (c := k13c7) (by decide +kernel) rfl rfl rfl (by decide +kernel)
set_option maxRecDepth 65536 in
theorem w_c39 : (Jvm.Cond.code ({ cls := "java/util/ArrayList", name := "grow", desc := "()[Ljava/lang/Object;" } : Jvm.MethodName) jdk_38_method_7_code (1 : Nat) (Option.some (Jvm.ClassFile.FieldType.array (Jvm.ClassFile.FieldType.object "java/lang/Object")))).before args0 about1 = true := code_word (m := ⟨13, 3⟩) (meth := k13m3) (c := k13c3) (by decide +kernel) rfl rfl rfl (by decide +kernel)
set_option maxRecDepth 65536 in
theorem w_c40 : (Jvm.Cond.code ({ cls := "java/util/ArrayList", name := "grow", desc := "(I)[Ljava/lang/Object;" } : Jvm.MethodName) jdk_38_method_6_code (4 : Nat) (Option.some (Jvm.ClassFile.FieldType.array (Jvm.ClassFile.FieldType.object "java/lang/Object")))).before args0 about1 = true := code_word (m := ⟨13, 2⟩) (meth := k13m2) (c := k13c2) (by decide +kernel) rfl rfl rfl (by decide +kernel)
set_option maxRecDepth 65536 in
theorem w_c41 : (Jvm.Cond.code ({ cls := "java/lang/Math", name := "max", desc := "(II)I" } : Jvm.MethodName) jdk_29_method_65_code (2 : Nat) (Option.some Jvm.ClassFile.FieldType.int)).before args0 about1 = true := code_word (m := ⟨17, 1⟩) (meth := k17m1) (c := k17c1) (by decide +kernel) rfl rfl rfl (by decide +kernel)
def codes1 : List Jvm.Cond := [Jvm.Cond.code x code maxLocals ret, Jvm.Cond.code ({ cls := "com/example/passenger_flow_sim/passengerflowsim/timetable/Trip", name := "<init>", desc := "(Ljava/lang/String;Ljava/lang/String;[I[I[I)V" } : Jvm.MethodName) prog_42_method_1_code (7 : Nat) (Option.none : Option Jvm.ClassFile.FieldType), Jvm.Cond.code ({ cls := "java/lang/Object", name := "<init>", desc := "()V" } : Jvm.MethodName) object_method_1_code (1 : Nat) (Option.none : Option Jvm.ClassFile.FieldType), Jvm.Cond.code ({ cls := "com/example/passenger_flow_sim/passengerflowsim/simulation/Vehicle", name := "<init>", desc := "(Lcom/example/passenger_flow_sim/passengerflowsim/timetable/Trip;I)V" } : Jvm.MethodName) prog_32_method_1_code (3 : Nat) (Option.none : Option Jvm.ClassFile.FieldType), Jvm.Cond.code ({ cls := "com/example/passenger_flow_sim/passengerflowsim/timetable/Trip", name := "length", desc := "()I" } : Jvm.MethodName) prog_42_method_4_code (1 : Nat) (Option.some Jvm.ClassFile.FieldType.int), Jvm.Cond.code ({ cls := "java/util/Collections", name := "nCopies", desc := "(ILjava/lang/Object;)Ljava/util/List;" } : Jvm.MethodName) jdk_79_method_76_code (2 : Nat) (Option.some (Jvm.ClassFile.FieldType.object "java/util/List")), Jvm.Cond.code ({ cls := "java/util/Collections$CopiesList", name := "<init>", desc := "(ILjava/lang/Object;)V" } : Jvm.MethodName) jdk_2479_method_1_code (3 : Nat) (Option.none : Option Jvm.ClassFile.FieldType), Jvm.Cond.code ({ cls := "java/util/AbstractList", name := "<init>", desc := "()V" } : Jvm.MethodName) jdk_39_method_1_code (1 : Nat) (Option.none : Option Jvm.ClassFile.FieldType), Jvm.Cond.code ({ cls := "java/util/AbstractCollection", name := "<init>", desc := "()V" } : Jvm.MethodName) jdk_22_method_1_code (1 : Nat) (Option.none : Option Jvm.ClassFile.FieldType), Jvm.Cond.code ({ cls := "java/util/ArrayList", name := "<init>", desc := "(Ljava/util/Collection;)V" } : Jvm.MethodName) jdk_38_method_3_code (3 : Nat) (Option.none : Option Jvm.ClassFile.FieldType), Jvm.Cond.code ({ cls := "java/util/Collections$CopiesList", name := "toArray", desc := "()[Ljava/lang/Object;" } : Jvm.MethodName) jdk_2479_method_8_code (2 : Nat) (Option.some (Jvm.ClassFile.FieldType.array (Jvm.ClassFile.FieldType.object "java/lang/Object"))), Jvm.Cond.code ({ cls := "java/util/Arrays", name := "copyOf", desc := "([Ljava/lang/Object;ILjava/lang/Class;)[Ljava/lang/Object;" } : Jvm.MethodName) jdk_65_method_120_code (4 : Nat) (Option.some (Jvm.ClassFile.FieldType.array (Jvm.ClassFile.FieldType.object "java/lang/Object"))), Jvm.Cond.code ({ cls := "java/lang/Math", name := "min", desc := "(II)I" } : Jvm.MethodName) jdk_29_method_69_code (2 : Nat) (Option.some Jvm.ClassFile.FieldType.int), Jvm.Cond.code ({ cls := "com/example/passenger_flow_sim/passengerflowsim/simulation/Vehicle", name := "arrive", desc := "()Ljava/util/List;" } : Jvm.MethodName) prog_32_method_10_code (2 : Nat) (Option.some (Jvm.ClassFile.FieldType.object "java/util/List")), Jvm.Cond.code ({ cls := "com/example/passenger_flow_sim/passengerflowsim/simulation/Vehicle", name := "take", desc := "(Ljava/util/List;I)Ljava/util/List;" } : Jvm.MethodName) prog_32_method_16_code (3 : Nat) (Option.some (Jvm.ClassFile.FieldType.object "java/util/List")), Jvm.Cond.code ({ cls := "java/util/ArrayList", name := "get", desc := "(I)Ljava/lang/Object;" } : Jvm.MethodName) jdk_38_method_20_code (2 : Nat) (Option.some (Jvm.ClassFile.FieldType.object "java/lang/Object")), Jvm.Cond.code ({ cls := "java/util/Objects", name := "checkIndex", desc := "(II)I" } : Jvm.MethodName) jdk_31_method_17_code (2 : Nat) (Option.some Jvm.ClassFile.FieldType.int), Jvm.Cond.code ({ cls := "jdk/internal/util/Preconditions", name := "checkIndex", desc := "(IILjava/util/function/BiFunction;)I" } : Jvm.MethodName) jdk_41_method_11_code (3 : Nat) (Option.some Jvm.ClassFile.FieldType.int), Jvm.Cond.code ({ cls := "java/util/ArrayList", name := "elementData", desc := "(I)Ljava/lang/Object;" } : Jvm.MethodName) jdk_38_method_18_code (2 : Nat) (Option.some (Jvm.ClassFile.FieldType.object "java/lang/Object")), Jvm.Cond.code ({ cls := "java/util/ArrayList", name := "set", desc := "(ILjava/lang/Object;)Ljava/lang/Object;" } : Jvm.MethodName) jdk_38_method_23_code (4 : Nat) (Option.some (Jvm.ClassFile.FieldType.object "java/lang/Object")), Jvm.Cond.code ({ cls := "java/util/List", name := "of", desc := "()Ljava/util/List;" } : Jvm.MethodName) jdk_40_method_36_code (0 : Nat) (Option.some (Jvm.ClassFile.FieldType.object "java/util/List")), Jvm.Cond.code ({ cls := "java/util/ImmutableCollections$ListN", name := "size", desc := "()I" } : Jvm.MethodName) jdk_45_method_3_code (1 : Nat) (Option.some Jvm.ClassFile.FieldType.int), Jvm.Cond.code ({ cls := "com/example/passenger_flow_sim/passengerflowsim/simulation/VehicleLeavePinLaw", name := "boardSome", desc := "(Lcom/example/passenger_flow_sim/passengerflowsim/simulation/Vehicle;I)V" } : Jvm.MethodName) method_3_code (2 : Nat) (Option.none : Option Jvm.ClassFile.FieldType), Jvm.Cond.code ({ cls := "com/example/passenger_flow_sim/passengerflowsim/simulation/Vehicle", name := "leave", desc := "()V" } : Jvm.MethodName) prog_32_method_13_code (2 : Nat) (Option.none : Option Jvm.ClassFile.FieldType), Jvm.Cond.code ({ cls := "com/example/passenger_flow_sim/passengerflowsim/simulation/Vehicle", name := "loads", desc := "()Lcom/example/passenger_flow_sim/passengerflowsim/simulation/TripLoads;" } : Jvm.MethodName) prog_32_method_14_code (1 : Nat) (Option.some (Jvm.ClassFile.FieldType.object "com/example/passenger_flow_sim/passengerflowsim/simulation/TripLoads")), Jvm.Cond.code ({ cls := "com/example/passenger_flow_sim/passengerflowsim/simulation/TripLoads", name := "<init>", desc := "(Lcom/example/passenger_flow_sim/passengerflowsim/timetable/Trip;[I)V" } : Jvm.MethodName) prog_31_method_1_code (3 : Nat) (Option.none : Option Jvm.ClassFile.FieldType), Jvm.Cond.code ({ cls := "com/example/passenger_flow_sim/passengerflowsim/simulation/TripLoads", name := "linkCount", desc := "()I" } : Jvm.MethodName) prog_31_method_3_code (1 : Nat) (Option.some Jvm.ClassFile.FieldType.int), Jvm.Cond.code ({ cls := "com/example/passenger_flow_sim/passengerflowsim/simulation/Vehicle", name := "load", desc := "()I" } : Jvm.MethodName) prog_32_method_4_code (1 : Nat) (Option.some Jvm.ClassFile.FieldType.int), Jvm.Cond.code ({ cls := "com/example/passenger_flow_sim/passengerflowsim/simulation/Vehicle", name := "isDone", desc := "()Z" } : Jvm.MethodName) prog_32_method_5_code (1 : Nat) (Option.some Jvm.ClassFile.FieldType.boolean), Jvm.Cond.code ({ cls := "com/example/passenger_flow_sim/passengerflowsim/simulation/Vehicle", name := "isDeparting", desc := "()Z" } : Jvm.MethodName) prog_32_method_6_code (1 : Nat) (Option.some Jvm.ClassFile.FieldType.boolean), Jvm.Cond.code ({ cls := "com/example/passenger_flow_sim/passengerflowsim/simulation/Vehicle", name := "hasLeft", desc := "(I)Z" } : Jvm.MethodName) prog_32_method_8_code (2 : Nat) (Option.some Jvm.ClassFile.FieldType.boolean), Jvm.Cond.code ({ cls := "com/example/passenger_flow_sim/passengerflowsim/simulation/Vehicle", name := "nextTime", desc := "()I" } : Jvm.MethodName) prog_32_method_7_code (2 : Nat) (Option.some Jvm.ClassFile.FieldType.int), Jvm.Cond.code ({ cls := "com/example/passenger_flow_sim/passengerflowsim/timetable/Trip", name := "arrival", desc := "(I)I" } : Jvm.MethodName) prog_42_method_6_code (2 : Nat) (Option.some Jvm.ClassFile.FieldType.int), Jvm.Cond.code ({ cls := "com/example/passenger_flow_sim/passengerflowsim/simulation/TripLoads", name := "load", desc := "(I)I" } : Jvm.MethodName) prog_31_method_4_code (2 : Nat) (Option.some Jvm.ClassFile.FieldType.int), Jvm.Cond.code ({ cls := "com/example/passenger_flow_sim/passengerflowsim/simulation/Vehicle", name := "board", desc := "(Lcom/example/passenger_flow_sim/passengerflowsim/simulation/Traveller;I)V" } : Jvm.MethodName) prog_32_method_12_code (3 : Nat) (Option.none : Option Jvm.ClassFile.FieldType), Jvm.Cond.code ({ cls := "com/example/passenger_flow_sim/passengerflowsim/simulation/Vehicle", name := "add", desc := "(Ljava/util/List;ILcom/example/passenger_flow_sim/passengerflowsim/simulation/Traveller;)V" } : Jvm.MethodName) prog_32_method_15_code (3 : Nat) (Option.none : Option Jvm.ClassFile.FieldType), Jvm.Cond.code ({ cls := "java/util/ArrayList", name := "<init>", desc := "()V" } : Jvm.MethodName) jdk_38_method_2_code (1 : Nat) (Option.none : Option Jvm.ClassFile.FieldType), Jvm.Cond.code ({ cls := "java/util/ArrayList", name := "add", desc := "(Ljava/lang/Object;)Z" } : Jvm.MethodName) jdk_38_method_25_code (2 : Nat) (Option.some Jvm.ClassFile.FieldType.boolean), Jvm.Cond.code ({ cls := "java/util/ArrayList", name := "add", desc := "(Ljava/lang/Object;[Ljava/lang/Object;I)V" } : Jvm.MethodName) jdk_38_method_24_code (4 : Nat) (Option.none : Option Jvm.ClassFile.FieldType), Jvm.Cond.code ({ cls := "java/util/ArrayList", name := "grow", desc := "()[Ljava/lang/Object;" } : Jvm.MethodName) jdk_38_method_7_code (1 : Nat) (Option.some (Jvm.ClassFile.FieldType.array (Jvm.ClassFile.FieldType.object "java/lang/Object"))), Jvm.Cond.code ({ cls := "java/util/ArrayList", name := "grow", desc := "(I)[Ljava/lang/Object;" } : Jvm.MethodName) jdk_38_method_6_code (4 : Nat) (Option.some (Jvm.ClassFile.FieldType.array (Jvm.ClassFile.FieldType.object "java/lang/Object"))), Jvm.Cond.code ({ cls := "java/lang/Math", name := "max", desc := "(II)I" } : Jvm.MethodName) jdk_29_method_65_code (2 : Nat) (Option.some Jvm.ClassFile.FieldType.int)]
set_option maxRecDepth 65536 in
theorem codes_eq : words1.filter isCode = codes1 := rfl
theorem w_codes : ∀ c ∈ words1.filter isCode, c.before args0 about1 = true := by
  rw [codes_eq]
  intro c hc
  simp only [codes1, List.mem_cons, List.not_mem_nil, or_false] at hc
  rcases hc with rfl | rfl | rfl | rfl | rfl | rfl | rfl | rfl | rfl | rfl | rfl | rfl | rfl | rfl | rfl | rfl | rfl | rfl | rfl | rfl | rfl | rfl | rfl | rfl | rfl | rfl | rfl | rfl | rfl | rfl | rfl | rfl | rfl | rfl | rfl | rfl | rfl | rfl | rfl | rfl | rfl | rfl
  · exact w_c0
  · exact w_c1
  · exact w_c2
  · exact w_c3
  · exact w_c4
  · exact w_c5
  · exact w_c6
  · exact w_c7
  · exact w_c8
  · exact w_c9
  · exact w_c10
  · exact w_c11
  · exact w_c12
  · exact w_c13
  · exact w_c14
  · exact w_c15
  · exact w_c16
  · exact w_c17
  · exact w_c18
  · exact w_c19
  · exact w_c20
  · exact w_c21
  · exact w_c22
  · exact w_c23
  · exact w_c24
  · exact w_c25
  · exact w_c26
  · exact w_c27
  · exact w_c28
  · exact w_c29
  · exact w_c30
  · exact w_c31
  · exact w_c32
  · exact w_c33
  · exact w_c34
  · exact w_c35
  · exact w_c36
  · exact w_c37
  · exact w_c38
  · exact w_c39
  · exact w_c40
  · exact w_c41
set_option maxRecDepth 65536 in
theorem w_t1 : (words1.take 24).all (fun c => isCode c || c.before args0 about1) = true := by decide +kernel
set_option maxRecDepth 65536 in
theorem w_t2 : ((words1.drop 24).take 24).all (fun c => isCode c || c.before args0 about1) = true := by decide +kernel
set_option maxRecDepth 65536 in
theorem w_t3 : (((words1.drop 24).drop 24).take 24).all (fun c => isCode c || c.before args0 about1) = true := by decide +kernel
set_option maxRecDepth 65536 in
theorem w_t4 : ((((words1.drop 24).drop 24).drop 24).take 24).all (fun c => isCode c || c.before args0 about1) = true := by decide +kernel
set_option maxRecDepth 65536 in
theorem w_t5 : (((((words1.drop 24).drop 24).drop 24).drop 24).take 24).all (fun c => isCode c || c.before args0 about1) = true := by decide +kernel
set_option maxRecDepth 65536 in
theorem w_t6 : ((((((words1.drop 24).drop 24).drop 24).drop 24).drop 24).take 24).all (fun c => isCode c || c.before args0 about1) = true := by decide +kernel
set_option maxRecDepth 65536 in
theorem w_t7 : (((((((words1.drop 24).drop 24).drop 24).drop 24).drop 24).drop 24).take 24).all (fun c => isCode c || c.before args0 about1) = true := by decide +kernel
set_option maxRecDepth 65536 in
theorem w_t8 : ((((((((words1.drop 24).drop 24).drop 24).drop 24).drop 24).drop 24).drop 24).take 24).all (fun c => isCode c || c.before args0 about1) = true := by decide +kernel
set_option maxRecDepth 65536 in
theorem w_t9 : (((((((((words1.drop 24).drop 24).drop 24).drop 24).drop 24).drop 24).drop 24).drop 24).take 24).all (fun c => isCode c || c.before args0 about1) = true := by decide +kernel
set_option maxRecDepth 65536 in
theorem w_t10 : ((((((((((words1.drop 24).drop 24).drop 24).drop 24).drop 24).drop 24).drop 24).drop 24).drop 24).take 24).all (fun c => isCode c || c.before args0 about1) = true := by decide +kernel
set_option maxRecDepth 65536 in
theorem w_t11 : (((((((((((words1.drop 24).drop 24).drop 24).drop 24).drop 24).drop 24).drop 24).drop 24).drop 24).drop 24).take 24).all (fun c => isCode c || c.before args0 about1) = true := by decide +kernel
set_option maxRecDepth 65536 in
theorem w_t12 : ((((((((((((words1.drop 24).drop 24).drop 24).drop 24).drop 24).drop 24).drop 24).drop 24).drop 24).drop 24).drop 24).take 24).all (fun c => isCode c || c.before args0 about1) = true := by decide +kernel
set_option maxRecDepth 65536 in
theorem w_t13 : ((((((((((((words1.drop 24).drop 24).drop 24).drop 24).drop 24).drop 24).drop 24).drop 24).drop 24).drop 24).drop 24).drop 24).all (fun c => isCode c || c.before args0 about1) = true := by decide +kernel
theorem w_tables : (allAtoms (Jvm.Cond.code x code maxLocals ret :: tables_1)).before args0 about1 = true := by
  rw [allAtoms_all]
  show words1.all (fun c => c.before args0 about1) = true
  refine all_split ?_ w_codes
  rw [← List.take_append_drop 24 words1, List.all_append, w_t1, ← List.take_append_drop 24 (words1.drop 24), List.all_append, w_t2, ← List.take_append_drop 24 ((words1.drop 24).drop 24), List.all_append, w_t3, ← List.take_append_drop 24 (((words1.drop 24).drop 24).drop 24), List.all_append, w_t4, ← List.take_append_drop 24 ((((words1.drop 24).drop 24).drop 24).drop 24), List.all_append, w_t5, ← List.take_append_drop 24 (((((words1.drop 24).drop 24).drop 24).drop 24).drop 24), List.all_append, w_t6, ← List.take_append_drop 24 ((((((words1.drop 24).drop 24).drop 24).drop 24).drop 24).drop 24), List.all_append, w_t7, ← List.take_append_drop 24 (((((((words1.drop 24).drop 24).drop 24).drop 24).drop 24).drop 24).drop 24), List.all_append, w_t8, ← List.take_append_drop 24 ((((((((words1.drop 24).drop 24).drop 24).drop 24).drop 24).drop 24).drop 24).drop 24), List.all_append, w_t9, ← List.take_append_drop 24 (((((((((words1.drop 24).drop 24).drop 24).drop 24).drop 24).drop 24).drop 24).drop 24).drop 24), List.all_append, w_t10, ← List.take_append_drop 24 ((((((((((words1.drop 24).drop 24).drop 24).drop 24).drop 24).drop 24).drop 24).drop 24).drop 24).drop 24), List.all_append, w_t11, ← List.take_append_drop 24 (((((((((((words1.drop 24).drop 24).drop 24).drop 24).drop 24).drop 24).drop 24).drop 24).drop 24).drop 24).drop 24), List.all_append, w_t12, w_t13]
  rfl
set_option maxRecDepth 65536 in
theorem w_rest : rest_1_c.before args0 about1 = true := by decide +kernel
set_option maxRecDepth 65536 in
theorem w_case : (Jvm.Cond.and given_1 narrow_1).before args0 about1 = true := by decide +kernel
theorem w_applies : (headSpec (Jvm.Cond.code x code maxLocals ret :: tables_1) room_1).applies x e0.platform about1 = true :=
  (Spec.applies_iff w_frames).mpr ⟨w_running, w_runnable, w_alone, w_named, w_hears, w_ripe, w_room, w_tables⟩
theorem atStart : AtStart classFile x code maxLocals ret World_1 tables_1 room_1 Calls_1 rest_1 Pre_1 launch0 p0 e0 about1 theMethod args0 below0 :=
  ⟨lists_1, trivial, launch0.admits_env _ _ _, launch0.least_env, fairChoices_fair.cas, fairChoices_fair.clock, w_frames, w_args, w_heap, w_applies, ⟨⟨15, k15, 3, by decide +kernel, rfl, rfl, _, rfl, rfl⟩, ⟨⟨13, k13, 4, by decide +kernel, rfl, rfl, _, rfl, rfl⟩, ⟨⟨31, k31, 5, by decide +kernel, rfl, rfl, _, rfl, rfl⟩, trivial⟩⟩⟩, w_rest, w_case⟩
end start1
theorem witness_1 : WitnessClaimed_1 := ⟨start1.p0, start1.e0, start1.about1, start1.theMethod, start1.args0, start1.below0, start1.atStart⟩
end Jvm.Pilot.@@N@@
