import JvmDerived
import JvmDerived.Pilot.@@N@@Statement
import JvmDerived.Pilot.@@N@@Code
set_option linter.unusedVariables false
set_option linter.unusedSimpArgs false
namespace Jvm.OwnKit
open Sem ClassFile Op Lib Bundle Jvm.Stand Jvm.Free Jvm.LawKit Jvm.RoadKit
section Kit
variable {p : Program} {l : Launch} {e : Env} {R : Room} {s : State} {m : MethodId} {args : Array Value} {below : List Frame} {meth : Method} {c : Code} {Z : State} {a0 : Array Value} {EL : List (String × Nat)} {cw : Prop} {own : String} {n0 : Nat} {bytes : ByteArray} {maxL : Nat} {ret : Option FieldType} {nm : String} {T : State} {h : Heap} {C S : Nat} {sf : List Addr} {P : State → Outcome → Prop}

/-- from t the run comes to a state of which P speaks -/
def Go (p : Program) (e : Env) (below : List Frame) (P : State → Outcome → Prop) (t : State) : Prop := ∃ u o, Steps p.tables e below t u ∧ P u o
theorem Go.st {t t' : State} (k : ∀ target, Steps p.tables e below t' target → Steps p.tables e below t target) (G : Go p e below P t') : Go p e below P t := by
  obtain ⟨u, o, h1, h2⟩ := G; exact ⟨u, o, k _ h1, h2⟩
theorem Go.tr {t t' : State} (k : Steps p.tables e below t t') (G : Go p e below P t') : Go p e below P t := by
  obtain ⟨u, o, h1, h2⟩ := G; exact ⟨u, o, k.trans h1, h2⟩

/-- where the walk stands: all that the steps ask, in one word -/
def Hs (p : Program) (l : Launch) (e : Env) (R : Room) (s : State) (m : MethodId) (args : Array Value) (below : List Frame) (meth : Method) (c : Code) (Z : State) (a0 : Array Value) (EL : List (String × Nat)) (cw : Prop) (own : String) (n0 : Nat) (bytes : ByteArray) (maxL : Nat) (ret : Option FieldType) (nm : String) (T : State) (h : Heap) (C S : Nat) (sf : List Addr) : Prop :=
  (p.tables.exec = Jvm.exec ∧ EW Z a0 EL ∧ c.code = bytes ∧ c.maxLocals = maxL ∧ meth.sig.returnType = ret ∧ meth.locks = false ∧ meth.name = nm ∧ n0 ≤ s.heap.size) ∧
  ∃ (vm0 : Vm) (k0 : Nat) (locs : List Loc), Stand p l e R (s.setVm vm0) m args below meth c T locs C S ∧ T.heap = h ∧ s.Since vm0 k0 ∧ k0 ≤ h.size ∧ Z.Warmed39 vm0 ∧ vm0.findClass own = some m.cls ∧ Fr n0 locs ∧ CHr Z EL s.vm s.heap vm0 h ∧ (∀ x ∈ sf, x < h.size ∧ Safe Z EL vm0 h x) ∧ (cw ∨ s.WarmedH vm0) ∧ Old Z n0 h

theorem Hs.here (H : Hs p l e R s m args below meth c Z a0 EL cw own n0 bytes maxL ret nm T h C S sf) : At T m c below := by
  obtain ⟨-, vm0, k0, locs, X, -⟩ := H; exact X.here
theorem Hs.exec (H : Hs p l e R s m args below meth c Z a0 EL cw own n0 bytes maxL ret nm T h C S sf) : p.tables.exec = Jvm.exec := H.1.1
theorem Hs.dec (H : Hs p l e R s m args below meth c Z a0 EL cw own n0 bytes maxL ret nm T h C S sf) {pc : Nat} {r : Except ClassFile.DecodeError (ClassFile.Instr × Nat)} (hd : decode bytes pc = r) : decode c.code pc = r := by rw [H.1.2.2.1]; exact hd
theorem Hs.le (H : Hs p l e R s m args below meth c Z a0 EL cw own n0 bytes maxL ret nm T h C S sf) : n0 ≤ h.size := by
  obtain ⟨⟨-, -, -, -, -, -, -, hn⟩, vm0, k0, locs, -, -, -, -, -, -, -, hC, -⟩ := H
  exact Nat.le_trans hn hC.2.1
theorem Hs.nle {a : Addr} (H : Hs p l e R s m args below meth c Z a0 EL cw own n0 bytes maxL ret nm T h C S sf) (g : a = h.size) : n0 ≤ a := Nat.le_trans H.le (Nat.le_of_eq g.symm)
theorem Hs.old (H : Hs p l e R s m args below meth c Z a0 EL cw own n0 bytes maxL ret nm T h C S sf) : Old Z n0 h := by
  obtain ⟨-, vm0, k0, locs, -, -, -, -, -, -, -, -, -, -, hO⟩ := H; exact hO
theorem Hs.mono (H : Hs p l e R s m args below meth c Z a0 EL cw own n0 bytes maxL ret nm T h C S sf) {C' S' : Nat} (hc : C ≤ C') (hs : S ≤ S') : Hs p l e R s m args below meth c Z a0 EL cw own n0 bytes maxL ret nm T h C' S' sf := by
  obtain ⟨hM, vm0, k0, locs, X, r⟩ := H
  exact ⟨hM, vm0, k0, locs, X.mono hc hs, r⟩
theorem Hs.less (H : Hs p l e R s m args below meth c Z a0 EL cw own n0 bytes maxL ret nm T h C S sf) {sf' : List Addr} (hs : ∀ x ∈ sf', x ∈ sf) : Hs p l e R s m args below meth c Z a0 EL cw own n0 bytes maxL ret nm T h C S sf' := by
  obtain ⟨hM, vm0, k0, locs, X, h1, h2, h3, h4, h5, h6, h7, h8, h9, hO⟩ := H
  exact ⟨hM, vm0, k0, locs, X, h1, h2, h3, h4, h5, h6, h7, fun x hx => h8 x (hs x hx), h9, hO⟩
/-- a place that no constant of the list lies at -/
def Sf (Z : State) (EL : List (String × Nat)) (h : Heap) (sf : List Addr) (a : Addr) : Prop := a ∈ sf ∨ (∃ K, Exa Z h a K ∧ K ≠ "java/lang/String" ∧ K ≠ "[B") ∨ ∃ cl ty, Arr Z h a cl ty ∧ ty ≠ .byte
theorem Sf.mem {a : Addr} (q : a ∈ sf) : Sf Z EL h sf a := Or.inl q
theorem Sf.exa {a : Addr} {K : String} (E : Exa Z h a K) (h1 : K ≠ "java/lang/String" := by decide) (h2 : K ≠ "[B" := by decide) : Sf Z EL h sf a := Or.inr (Or.inl ⟨K, E, h1, h2⟩)
theorem Sf.arr {a : Addr} {k : ClassId} {ty : FieldType} {z : Int32} {vs : List Value} {dv : Value} (A : Arv Z h a k ty z vs dv) (ht : ty ≠ .byte := by decide) : Sf Z EL h sf a := by
  obtain ⟨cl, A, -⟩ := A; exact Or.inr (Or.inr ⟨cl, ty, A, ht⟩)
theorem Sf.safe {a : Addr} {vm0 : Vm} (hZ : Z.Warmed39 vm0) (hs : ∀ x ∈ sf, x < h.size ∧ Safe Z EL vm0 h x) (q : Sf Z EL h sf a) : Safe Z EL vm0 h a := by
  rcases q with q | ⟨K, E, h1, h2⟩ | ⟨cl, ty, A, ht⟩
  · exact (hs a q).2
  · exact Safe.exa hZ.alike E h1 h2
  · exact Safe.arr hZ.alike A ht

/-! ## what leaves the heap as it is -/
/-- a step of the library's that keeps the heap (T' in place of T) -/
theorem Hs.keepT {T' : State} (H : Hs p l e R s m args below meth c Z a0 EL cw own n0 bytes maxL ret nm T h C S sf)
    (k : ∀ (vm0 : Vm) (locs : List Loc), Stand p l e R (s.setVm vm0) m args below meth c T locs C S → Z.Warmed39 (s.setVm vm0).vm → (s.setVm vm0).vm.findClass own = some m.cls → T.heap = h → Stand p l e R (s.setVm vm0) m args below meth c T' locs C S ∧ T'.heap = h) : Hs p l e R s m args below meth c Z a0 EL cw own n0 bytes maxL ret nm T' h C S sf := by
  obtain ⟨hM, vm0, k0, locs, X, h1, h2, h3, h4, h5, h6, h7, h8, h9, hO⟩ := H
  obtain ⟨X', e'⟩ := k vm0 locs X h4 h5 h1
  exact ⟨hM, vm0, k0, locs, X', e', h2, h3, h4, h5, h6, h7, h8, h9, hO⟩
theorem G.getF (H : Hs p l e R s m args below meth c Z a0 EL cw own n0 bytes maxL ret nm T h C S sf) {R0 O n d : String} {index : Nat} (w : (Cond.fieldLink own index R0 n d).before a0 Z = true) (via : Via Z R0 O n d) {a : Addr} {v : Value} (F : Fld Z h a O n d v) {pc pc' : Nat} {L : Array Slot} {st : List Value} (hd : decode bytes pc = .ok (.getfield index, 3)) (hp : pc + 3 = pc')
    (k : ∀ T', Hs p l e R s m args below meth c Z a0 EL cw own n0 bytes maxL ret nm T' h C S sf → Go p e below P (T'.setTop (mkF m pc' L (v :: st)))) : Go p e below P (T.setTop (mkF m pc L (.ref a :: st))) := by
  subst hp
  obtain ⟨hM, vm0, k0, locs, X, h1, h2, h3, h4, h5, h6, h7, h8, h9, hO⟩ := id H
  obtain ⟨T', X', e', st'⟩ := RoadKit.getF X H.exec h4 (host := "") h5 (Or.inl w) via h1 F (g := mkF m pc L (.ref a :: st)) rfl rfl (H.dec hd)
  exact Go.st st' (k T' ⟨hM, vm0, k0, locs, X', e', h2, h3, h4, h5, h6, h7, h8, h9, hO⟩)
theorem G.getFN (H : Hs p l e R s m args below meth c Z a0 EL cw own n0 bytes maxL ret nm T h C S sf) {R0 O n d host : String} {index : Nat} (w : (Cond.fieldLinkNest own index R0 n d host).before a0 Z = true) (via : Via Z R0 O n d) {a : Addr} {v : Value} (F : Fld Z h a O n d v) {pc pc' : Nat} {L : Array Slot} {st : List Value} (hd : decode bytes pc = .ok (.getfield index, 3)) (hp : pc + 3 = pc')
    (k : ∀ T', Hs p l e R s m args below meth c Z a0 EL cw own n0 bytes maxL ret nm T' h C S sf → Go p e below P (T'.setTop (mkF m pc' L (v :: st)))) : Go p e below P (T.setTop (mkF m pc L (.ref a :: st))) := by
  subst hp
  obtain ⟨hM, vm0, k0, locs, X, h1, h2, h3, h4, h5, h6, h7, h8, h9, hO⟩ := id H
  obtain ⟨T', X', e', st'⟩ := RoadKit.getF X H.exec h4 h5 (Or.inr w) via h1 F (g := mkF m pc L (.ref a :: st)) rfl rfl (H.dec hd)
  exact Go.st st' (k T' ⟨hM, vm0, k0, locs, X', e', h2, h3, h4, h5, h6, h7, h8, h9, hO⟩)
theorem G.getS (H : Hs p l e R s m args below meth c Z a0 EL cw own n0 bytes maxL ret nm T h C S sf) {R0 O n d : String} {index : Nat} (w : (Cond.fieldLink own index R0 n d).before a0 Z = true) (via : Via Z R0 O n d) {v : Value} (F : Sta Z h O n d v) {pc pc' : Nat} {L : Array Slot} {st : List Value} (hd : decode bytes pc = .ok (.getstatic index, 3)) (hp : pc + 3 = pc')
    (k : ∀ T', Hs p l e R s m args below meth c Z a0 EL cw own n0 bytes maxL ret nm T' h C S sf → Go p e below P (T'.setTop (mkF m pc' L (v :: st)))) : Go p e below P (T.setTop (mkF m pc L st)) := by
  subst hp
  obtain ⟨hM, vm0, k0, locs, X, h1, h2, h3, h4, h5, h6, h7, h8, h9, hO⟩ := id H
  obtain ⟨T', X', e', st'⟩ := RoadKit.getS (host := "") X H.exec h4 h5 w via h1 F (g := mkF m pc L st) rfl (H.dec hd)
  exact Go.st st' (k T' ⟨hM, vm0, k0, locs, X', e', h2, h3, h4, h5, h6, h7, h8, h9, hO⟩)
theorem G.castY (H : Hs p l e R s m args below meth c Z a0 EL cw own n0 bytes maxL ret nm T h C S sf) {K : String} {index : Nat} (w : (Cond.classLink own index K).before a0 Z = true) {a : Addr} (F : Ins Z h a K true) {pc pc' : Nat} {L : Array Slot} {st : List Value} (hd : decode bytes pc = .ok (.checkcast index, 3)) (hp : pc + 3 = pc')
    (k : ∀ T', Hs p l e R s m args below meth c Z a0 EL cw own n0 bytes maxL ret nm T' h C S sf → Go p e below P (T'.setTop (mkF m pc' L (.ref a :: st)))) : Go p e below P (T.setTop (mkF m pc L (.ref a :: st))) := by
  subst hp
  obtain ⟨hM, vm0, k0, locs, X, h1, h2, h3, h4, h5, h6, h7, h8, h9, hO⟩ := id H
  obtain ⟨T', X', e', st'⟩ := RoadKit.castY X H.exec h4 h5 w h1 F (g := mkF m pc L (.ref a :: st)) rfl rfl (H.dec hd)
  exact Go.st st' (k T' ⟨hM, vm0, k0, locs, X', e', h2, h3, h4, h5, h6, h7, h8, h9, hO⟩)
theorem G.instY (H : Hs p l e R s m args below meth c Z a0 EL cw own n0 bytes maxL ret nm T h C S sf) {K : String} {index : Nat} (w : (Cond.classLink own index K).before a0 Z = true) {a : Addr} (F : Ins Z h a K true) {pc pc' : Nat} {L : Array Slot} {st : List Value} (hd : decode bytes pc = .ok (.instanceof index, 3)) (hp : pc + 3 = pc')
    (k : ∀ T', Hs p l e R s m args below meth c Z a0 EL cw own n0 bytes maxL ret nm T' h C S sf → Go p e below P (T'.setTop (mkF m pc' L (.int 1 :: st)))) : Go p e below P (T.setTop (mkF m pc L (.ref a :: st))) := by
  subst hp
  obtain ⟨hM, vm0, k0, locs, X, h1, h2, h3, h4, h5, h6, h7, h8, h9, hO⟩ := id H
  obtain ⟨T', X', e', st'⟩ := RoadKit.instY X H.exec h4 h5 w h1 F (g := mkF m pc L (.ref a :: st)) rfl rfl (H.dec hd)
  exact Go.st st' (k T' ⟨hM, vm0, k0, locs, X', e', h2, h3, h4, h5, h6, h7, h8, h9, hO⟩)
theorem G.instNo (H : Hs p l e R s m args below meth c Z a0 EL cw own n0 bytes maxL ret nm T h C S sf) {K D : String} {index : Nat} (w : (Cond.classLink own index K).before a0 Z = true) {a : Addr} (E : Exa Z h a D) (F : ∃ c t, Z.vm.findClass D = some c ∧ Z.vm.findClass K = some t ∧ Z.vm.assignable c t = false) {pc pc' : Nat} {L : Array Slot} {st : List Value} (hd : decode bytes pc = .ok (.instanceof index, 3)) (hp : pc + 3 = pc')
    (k : ∀ T', Hs p l e R s m args below meth c Z a0 EL cw own n0 bytes maxL ret nm T' h C S sf → Go p e below P (T'.setTop (mkF m pc' L (.int 0 :: st)))) : Go p e below P (T.setTop (mkF m pc L (.ref a :: st))) := by
  subst hp
  obtain ⟨hM, vm0, k0, locs, X, h1, h2, h3, h4, h5, h6, h7, h8, h9, hO⟩ := id H
  obtain ⟨T', X', e', st'⟩ := RoadKit.instNo X H.exec h4 h5 w h1 E F (g := mkF m pc L (.ref a :: st)) rfl rfl (H.dec hd)
  exact Go.st st' (k T' ⟨hM, vm0, k0, locs, X', e', h2, h3, h4, h5, h6, h7, h8, h9, hO⟩)
theorem G.initO (H : Hs p l e R s m args below meth c Z a0 EL cw own n0 bytes maxL ret nm T h C S sf) {index : Nat} (w1 : (Cond.methodLink own index Lib.objectInit).before a0 Z = true) (w2 : (Cond.instanceMethod Lib.objectInit).before a0 Z = true) (w3 : (Cond.code Lib.objectInit ⟨#[0xb1]⟩ 1 none).before a0 Z = true) {a : Addr} {pc pc' : Nat} {L : Array Slot} {st : List Value} (hL : L.size = maxL) (hd : decode bytes pc = .ok (.invokespecial index, 3)) (hp : pc + 3 = pc') (hf : 1 ≤ R.frames) {W : Nat} (hW : (st.map fun v => v.category).sum = W) (hl : W + 12 ≤ R.locals)
    (k : ∀ T', Hs p l e R s m args below meth c Z a0 EL cw own n0 bytes maxL ret nm T' h C S sf → Go p e below P (T'.setTop (mkF m pc' L st))) : Go p e below P (T.setTop (mkF m pc L (.ref a :: st))) := by
  subst hp
  obtain ⟨hM, vm0, k0, locs, X, h1, h2, h3, h4, h5, h6, h7, h8, h9, hO⟩ := id H
  obtain ⟨T', X', e', st'⟩ := RoadKit.initO X H.exec h4 h5 w1 w2 w3 h1 (g := mkF m pc L (.ref a :: st)) rfl (by rw [hM.2.2.2.1]; exact hL) rfl (H.dec hd) hf (W := W) (by show 2 * 0 + _ ≤ _; omega) hl
  exact Go.st st' (k T' ⟨hM, vm0, k0, locs, X', e', h2, h3, h4, h5, h6, h7, h8, h9, hO⟩)
theorem G.arrlen (H : Hs p l e R s m args below meth c Z a0 EL cw own n0 bytes maxL ret nm T h C S sf) {a : Addr} {kc : ClassId} {ty : FieldType} {z : Int32} {vs : List Value} {dv : Value} (A : Arv Z h a kc ty z vs dv) {pc pc' : Nat} {L : Array Slot} {st : List Value} (hd : decode bytes pc = .ok (.arraylength, 1)) (hp : pc + 1 = pc') (k : Go p e below P (T.setTop (mkF m pc' L (.int z :: st)))) : Go p e below P (T.setTop (mkF m pc L (.ref a :: st))) := by
  subst hp
  obtain ⟨hM, vm0, k0, locs, X, h1, h2, h3, h4, h5, h6, h7, h8, h9, hO⟩ := id H
  obtain ⟨cl, Ar, q1, S1, q3, H1, G1⟩ := A
  refine Go.st (fun t kk => X.arraylength H.exec (cell := cl) (by rw [h1]; exact Ar.1) (State.isArrayOf_alike (s := Z) h4.alike Ar.2.1) (g := mkF m pc L (.ref a :: st)) rfl rfl (H.dec hd) t ?_) k
  rw [len_of S1 q3]; exact kk
theorem G.ialoadG (H : Hs p l e R s m args below meth c Z a0 EL cw own n0 bytes maxL ret nm T h C S sf) {a : Addr} {kc : ClassId} {z : Int32} {vs : List Value} {dv : Value} (A : Arv Z h a kc .int z vs dv) {j : Int32} {v : Value} (hj : ¬ j < 0 ∧ j < z) (hv : vs.getD j.toNatClampNeg dv = v) {pc pc' : Nat} {L : Array Slot} {st : List Value} (hd : decode bytes pc = .ok (.iaload, 1)) (hp : pc + 1 = pc') (k : Go p e below P (T.setTop (mkF m pc' L (v :: st)))) : Go p e below P (T.setTop (mkF m pc L (.int j :: .ref a :: st))) := by
  subst hp
  obtain ⟨hM, vm0, k0, locs, X, h1, h2, h3, h4, h5, h6, h7, h8, h9, hO⟩ := id H
  obtain ⟨cl, Ar, q1, S1, q3, H1, G1⟩ := A
  exact Go.st (fun t kk => X.iaload H.exec (cell := cl) (by rw [h1]; exact Ar.1) (State.isArrayOf_alike (s := Z) h4.alike Ar.2.1) Ar.2.2 (inb_of S1 hj) (Has.at H1 (inb_of S1 hj) hv) (g := mkF m pc L (.int j :: .ref a :: st)) rfl rfl (H.dec hd) t kk) k
theorem G.caloadG (H : Hs p l e R s m args below meth c Z a0 EL cw own n0 bytes maxL ret nm T h C S sf) {a : Addr} {kc : ClassId} {z : Int32} {vs : List Value} {dv : Value} (A : Arv Z h a kc .char z vs dv) {j : Int32} {v : Value} (hj : ¬ j < 0 ∧ j < z) (hv : vs.getD j.toNatClampNeg dv = v) {pc pc' : Nat} {L : Array Slot} {st : List Value} (hd : decode bytes pc = .ok (.caload, 1)) (hp : pc + 1 = pc') (k : Go p e below P (T.setTop (mkF m pc' L (v :: st)))) : Go p e below P (T.setTop (mkF m pc L (.int j :: .ref a :: st))) := by
  subst hp
  obtain ⟨hM, vm0, k0, locs, X, h1, h2, h3, h4, h5, h6, h7, h8, h9, hO⟩ := id H
  obtain ⟨cl, Ar, q1, S1, q3, H1, G1⟩ := A
  exact Go.st (fun t kk => X.caload H.exec (cell := cl) (by rw [h1]; exact Ar.1) (State.isArrayOf_alike (s := Z) h4.alike Ar.2.1) Ar.2.2 (inb_of S1 hj) (Has.at H1 (inb_of S1 hj) hv) (g := mkF m pc L (.int j :: .ref a :: st)) rfl rfl (H.dec hd) t kk) k
theorem G.baloadG (H : Hs p l e R s m args below meth c Z a0 EL cw own n0 bytes maxL ret nm T h C S sf) {a : Addr} {kc : ClassId} {z : Int32} {vs : List Value} {dv : Value} (A : Arv Z h a kc .byte z vs dv) {j : Int32} {v : Value} (hj : ¬ j < 0 ∧ j < z) (hv : vs.getD j.toNatClampNeg dv = v) {pc pc' : Nat} {L : Array Slot} {st : List Value} (hd : decode bytes pc = .ok (.baload, 1)) (hp : pc + 1 = pc') (k : Go p e below P (T.setTop (mkF m pc' L (v :: st)))) : Go p e below P (T.setTop (mkF m pc L (.int j :: .ref a :: st))) := by
  subst hp
  obtain ⟨hM, vm0, k0, locs, X, h1, h2, h3, h4, h5, h6, h7, h8, h9, hO⟩ := id H
  obtain ⟨cl, Ar, q1, S1, q3, H1, G1⟩ := A
  exact Go.st (fun t kk => X.baloadBytes H.exec (cell := cl) (by rw [h1]; exact Ar.1) (State.isArrayOf_alike (s := Z) h4.alike Ar.2.1) Ar.2.2 (inb_of S1 hj) (Has.at H1 (inb_of S1 hj) hv) (g := mkF m pc L (.int j :: .ref a :: st)) rfl rfl (H.dec hd) t kk) k
theorem G.aaloadG (H : Hs p l e R s m args below meth c Z a0 EL cw own n0 bytes maxL ret nm T h C S sf) {a : Addr} {kc : ClassId} {ty : FieldType} {z : Int32} {vs : List Value} {dv : Value} (A : Arv Z h a kc ty z vs dv) (hty : ty.isReference = true) {j : Int32} {v : Value} (hj : ¬ j < 0 ∧ j < z) (hv : vs.getD j.toNatClampNeg dv = v) {pc pc' : Nat} {L : Array Slot} {st : List Value} (hd : decode bytes pc = .ok (.aaload, 1)) (hp : pc + 1 = pc') (k : Go p e below P (T.setTop (mkF m pc' L (v :: st)))) : Go p e below P (T.setTop (mkF m pc L (.int j :: .ref a :: st))) := by
  subst hp
  obtain ⟨hM, vm0, k0, locs, X, h1, h2, h3, h4, h5, h6, h7, h8, h9, hO⟩ := id H
  obtain ⟨cl, Ar, q1, S1, q3, H1, G1⟩ := A
  exact Go.st (fun t kk => X.aaload H.exec (cell := cl) (by rw [h1]; exact Ar.1) (State.isArrayOf_alike (s := Z) h4.alike Ar.2.1) hty Ar.2.2 (inb_of S1 hj) (Has.at H1 (inb_of S1 hj) hv) (g := mkF m pc L (.int j :: .ref a :: st)) rfl rfl (H.dec hd) t kk) k
theorem G.ldcI (H : Hs p l e R s m args below meth c Z a0 EL cw own n0 bytes maxL ret nm T h C S sf) {index : Nat} {v : Int32} (w : (Cond.constant own index v).before a0 Z = true) {pc pc' : Nat} {L : Array Slot} {st : List Value} (hd : decode bytes pc = .ok (.ldc index, 2)) (hp : pc + 2 = pc') (k : Go p e below P (T.setTop (mkF m pc' L (.int v :: st)))) : Go p e below P (T.setTop (mkF m pc L st)) := by
  subst hp
  obtain ⟨hM, vm0, k0, locs, X, h1, h2, h3, h4, h5, h6, h7, h8, h9, hO⟩ := id H
  exact Go.st (fun t kk => Jvm.Stand.ldcI X H.exec h5 (mv h4 w) (g := mkF m pc L st) rfl (H.dec hd) kk) k
theorem G.ldc2J (H : Hs p l e R s m args below meth c Z a0 EL cw own n0 bytes maxL ret nm T h C S sf) {index : Nat} {v : Int64} (w : (Cond.constantLong own index v).before a0 Z = true) {pc pc' : Nat} {L : Array Slot} {st : List Value} (hd : decode bytes pc = .ok (.ldc2_w index, 3)) (hp : pc + 3 = pc') (k : Go p e below P (T.setTop (mkF m pc' L (.long v :: st)))) : Go p e below P (T.setTop (mkF m pc L st)) := by
  subst hp
  obtain ⟨hM, vm0, k0, locs, X, h1, h2, h3, h4, h5, h6, h7, h8, h9, hO⟩ := id H
  exact Go.st (fun t kk => Jvm.Stand.ldc2J X H.exec h5 (mv h4 w) (g := mkF m pc L st) rfl (H.dec hd) kk) k
/-! ## the plain steps -/
theorem G.aloadN (H : Hs p l e R s m args below meth c Z a0 EL cw own n0 bytes maxL ret nm T h C S sf) {i : Fin 4} {v : Value} {pc pc' : Nat} {L : Array Slot} {st : List Value} (hd : decode bytes pc = .ok (.aload_n i, 1)) (hp : pc + 1 = pc') (hl : L[i.val]? = some (.val v)) (hv : v.isRef = true) (k : Go p e below P (T.setTop (mkF m pc' L (v :: st)))) : Go p e below P (T.setTop (mkF m pc L (st))) := by
  subst hp
  exact Go.st (fun t kk => XS.aloadN H.here H.exec (g := mkF m pc L (st)) rfl (H.dec hd) hl hv kk) k
theorem G.aload (H : Hs p l e R s m args below meth c Z a0 EL cw own n0 bytes maxL ret nm T h C S sf) {i : Nat} {v : Value} {pc pc' : Nat} {L : Array Slot} {st : List Value} (hd : decode bytes pc = .ok (.aload i, 2)) (hp : pc + 2 = pc') (hl : L[i]? = some (.val v)) (hv : v.isRef = true) (k : Go p e below P (T.setTop (mkF m pc' L (v :: st)))) : Go p e below P (T.setTop (mkF m pc L (st))) := by
  subst hp
  exact Go.st (fun t kk => XS.aload H.here H.exec (g := mkF m pc L (st)) rfl (H.dec hd) hl hv kk) k
theorem G.iloadN (H : Hs p l e R s m args below meth c Z a0 EL cw own n0 bytes maxL ret nm T h C S sf) {i : Fin 4} {v : Int32} {pc pc' : Nat} {L : Array Slot} {st : List Value} (hd : decode bytes pc = .ok (.iload_n i, 1)) (hp : pc + 1 = pc') (hl : L[i.val]? = some (.val (.int v))) (k : Go p e below P (T.setTop (mkF m pc' L (.int v :: st)))) : Go p e below P (T.setTop (mkF m pc L (st))) := by
  subst hp
  exact Go.st (fun t kk => XS.iloadN H.here H.exec (g := mkF m pc L (st)) rfl (H.dec hd) hl kk) k
theorem G.iload (H : Hs p l e R s m args below meth c Z a0 EL cw own n0 bytes maxL ret nm T h C S sf) {i : Nat} {v : Int32} {pc pc' : Nat} {L : Array Slot} {st : List Value} (hd : decode bytes pc = .ok (.iload i, 2)) (hp : pc + 2 = pc') (hl : L[i]? = some (.val (.int v))) (k : Go p e below P (T.setTop (mkF m pc' L (.int v :: st)))) : Go p e below P (T.setTop (mkF m pc L (st))) := by
  subst hp
  exact Go.st (fun t kk => XS.iload H.here H.exec (g := mkF m pc L (st)) rfl (H.dec hd) hl kk) k
theorem G.lloadN (H : Hs p l e R s m args below meth c Z a0 EL cw own n0 bytes maxL ret nm T h C S sf) {i : Fin 4} {v : Int64} {pc pc' : Nat} {L : Array Slot} {st : List Value} (hd : decode bytes pc = .ok (.lload_n i, 1)) (hp : pc + 1 = pc') (hl : L[i.val]? = some (.val (.long v))) (k : Go p e below P (T.setTop (mkF m pc' L (.long v :: st)))) : Go p e below P (T.setTop (mkF m pc L (st))) := by
  subst hp
  exact Go.st (fun t kk => XT.lloadN H.here H.exec (g := mkF m pc L (st)) rfl (H.dec hd) hl kk) k
theorem G.lload (H : Hs p l e R s m args below meth c Z a0 EL cw own n0 bytes maxL ret nm T h C S sf) {i : Nat} {v : Int64} {pc pc' : Nat} {L : Array Slot} {st : List Value} (hd : decode bytes pc = .ok (.lload i, 2)) (hp : pc + 2 = pc') (hl : L[i]? = some (.val (.long v))) (k : Go p e below P (T.setTop (mkF m pc' L (.long v :: st)))) : Go p e below P (T.setTop (mkF m pc L (st))) := by
  subst hp
  exact Go.st (fun t kk => XT.lload H.here H.exec (g := mkF m pc L (st)) rfl (H.dec hd) hl kk) k
theorem G.iconst (H : Hs p l e R s m args below meth c Z a0 EL cw own n0 bytes maxL ret nm T h C S sf) {i : Int} {v : Int32} {pc pc' : Nat} {L : Array Slot} {st : List Value} (hd : decode bytes pc = .ok (.iconst i, 1)) (hp : pc + 1 = pc') (hv : Int32.ofInt i = v) (k : Go p e below P (T.setTop (mkF m pc' L (.int v :: st)))) : Go p e below P (T.setTop (mkF m pc L (st))) := by
  subst hp; subst hv
  exact Go.st (fun t kk => XS.iconst H.here H.exec (g := mkF m pc L (st)) rfl (H.dec hd) kk) k
theorem G.bipush (H : Hs p l e R s m args below meth c Z a0 EL cw own n0 bytes maxL ret nm T h C S sf) {i : Int} {v : Int32} {pc pc' : Nat} {L : Array Slot} {st : List Value} (hd : decode bytes pc = .ok (.bipush i, 2)) (hp : pc + 2 = pc') (hv : (Int8.ofInt i).toInt32 = v) (k : Go p e below P (T.setTop (mkF m pc' L (.int v :: st)))) : Go p e below P (T.setTop (mkF m pc L (st))) := by
  subst hp; subst hv
  exact Go.st (fun t kk => XS.bipush H.here H.exec (g := mkF m pc L (st)) rfl (H.dec hd) kk) k
theorem G.sipush (H : Hs p l e R s m args below meth c Z a0 EL cw own n0 bytes maxL ret nm T h C S sf) {i : Int} {v : Int32} {pc pc' : Nat} {L : Array Slot} {st : List Value} (hd : decode bytes pc = .ok (.sipush i, 3)) (hp : pc + 3 = pc') (hv : (Int16.ofInt i).toInt32 = v) (k : Go p e below P (T.setTop (mkF m pc' L (.int v :: st)))) : Go p e below P (T.setTop (mkF m pc L (st))) := by
  subst hp; subst hv
  exact Go.st (fun t kk => XS.sipush H.here H.exec (g := mkF m pc L (st)) rfl (H.dec hd) kk) k
theorem G.aconstNull (H : Hs p l e R s m args below meth c Z a0 EL cw own n0 bytes maxL ret nm T h C S sf) {pc pc' : Nat} {L : Array Slot} {st : List Value} (hd : decode bytes pc = .ok (.aconst_null, 1)) (hp : pc + 1 = pc') (k : Go p e below P (T.setTop (mkF m pc' L (.null :: st)))) : Go p e below P (T.setTop (mkF m pc L (st))) := by
  subst hp
  exact Go.st (fun t kk => XS.aconstNull H.here H.exec (g := mkF m pc L (st)) rfl (H.dec hd) kk) k
theorem G.lconst (H : Hs p l e R s m args below meth c Z a0 EL cw own n0 bytes maxL ret nm T h C S sf) {i : Fin 2} {v : Int64} {pc pc' : Nat} {L : Array Slot} {st : List Value} (hd : decode bytes pc = .ok (.lconst i, 1)) (hp : pc + 1 = pc') (hv : Int64.ofNat i = v) (k : Go p e below P (T.setTop (mkF m pc' L (.long v :: st)))) : Go p e below P (T.setTop (mkF m pc L (st))) := by
  subst hp; subst hv
  exact Go.st (fun t kk => XT.lconst H.here H.exec (g := mkF m pc L (st)) rfl (H.dec hd) kk) k
theorem G.iadd (H : Hs p l e R s m args below meth c Z a0 EL cw own n0 bytes maxL ret nm T h C S sf) {x y : Int32} {pc pc' : Nat} {L : Array Slot} {st : List Value} (hd : decode bytes pc = .ok (.iadd, 1)) (hp : pc + 1 = pc') (k : Go p e below P (T.setTop (mkF m pc' L (.int (x + y) :: st)))) : Go p e below P (T.setTop (mkF m pc L (.int y :: .int x :: st))) := by
  subst hp
  exact Go.st (fun t kk => XS.iadd H.here H.exec (g := mkF m pc L (.int y :: .int x :: st)) rfl (H.dec hd) rfl kk) k
theorem G.isub (H : Hs p l e R s m args below meth c Z a0 EL cw own n0 bytes maxL ret nm T h C S sf) {x y : Int32} {pc pc' : Nat} {L : Array Slot} {st : List Value} (hd : decode bytes pc = .ok (.isub, 1)) (hp : pc + 1 = pc') (k : Go p e below P (T.setTop (mkF m pc' L (.int (x - y) :: st)))) : Go p e below P (T.setTop (mkF m pc L (.int y :: .int x :: st))) := by
  subst hp
  exact Go.st (fun t kk => XS.isub H.here H.exec (g := mkF m pc L (.int y :: .int x :: st)) rfl (H.dec hd) rfl kk) k
theorem G.iand (H : Hs p l e R s m args below meth c Z a0 EL cw own n0 bytes maxL ret nm T h C S sf) {x y : Int32} {pc pc' : Nat} {L : Array Slot} {st : List Value} (hd : decode bytes pc = .ok (.iand, 1)) (hp : pc + 1 = pc') (k : Go p e below P (T.setTop (mkF m pc' L (.int (x &&& y) :: st)))) : Go p e below P (T.setTop (mkF m pc L (.int y :: .int x :: st))) := by
  subst hp
  exact Go.st (fun t kk => XS.iand H.here H.exec (g := mkF m pc L (.int y :: .int x :: st)) rfl (H.dec hd) rfl kk) k
theorem G.imul (H : Hs p l e R s m args below meth c Z a0 EL cw own n0 bytes maxL ret nm T h C S sf) {x y : Int32} {pc pc' : Nat} {L : Array Slot} {st : List Value} (hd : decode bytes pc = .ok (.imul, 1)) (hp : pc + 1 = pc') (k : Go p e below P (T.setTop (mkF m pc' L (.int (x * y) :: st)))) : Go p e below P (T.setTop (mkF m pc L (.int y :: .int x :: st))) := by
  subst hp
  exact Go.st (fun t kk => XS.imul H.here H.exec (g := mkF m pc L (.int y :: .int x :: st)) rfl (H.dec hd) rfl kk) k
theorem G.ior (H : Hs p l e R s m args below meth c Z a0 EL cw own n0 bytes maxL ret nm T h C S sf) {x y : Int32} {pc pc' : Nat} {L : Array Slot} {st : List Value} (hd : decode bytes pc = .ok (.ior, 1)) (hp : pc + 1 = pc') (k : Go p e below P (T.setTop (mkF m pc' L (.int (x ||| y) :: st)))) : Go p e below P (T.setTop (mkF m pc L (.int y :: .int x :: st))) := by
  subst hp
  exact Go.st (fun t kk => XT.ior H.here H.exec (g := mkF m pc L (.int y :: .int x :: st)) rfl (H.dec hd) rfl kk) k
theorem G.ixor (H : Hs p l e R s m args below meth c Z a0 EL cw own n0 bytes maxL ret nm T h C S sf) {x y : Int32} {pc pc' : Nat} {L : Array Slot} {st : List Value} (hd : decode bytes pc = .ok (.ixor, 1)) (hp : pc + 1 = pc') (k : Go p e below P (T.setTop (mkF m pc' L (.int (x ^^^ y) :: st)))) : Go p e below P (T.setTop (mkF m pc L (.int y :: .int x :: st))) := by
  subst hp
  exact Go.st (fun t kk => XT.ixor H.here H.exec (g := mkF m pc L (.int y :: .int x :: st)) rfl (H.dec hd) rfl kk) k
theorem G.ishl (H : Hs p l e R s m args below meth c Z a0 EL cw own n0 bytes maxL ret nm T h C S sf) {x y : Int32} {pc pc' : Nat} {L : Array Slot} {st : List Value} (hd : decode bytes pc = .ok (.ishl, 1)) (hp : pc + 1 = pc') (k : Go p e below P (T.setTop (mkF m pc' L (.int (x <<< (y &&& 31)) :: st)))) : Go p e below P (T.setTop (mkF m pc L (.int y :: .int x :: st))) := by
  subst hp
  exact Go.st (fun t kk => XT.ishl H.here H.exec (g := mkF m pc L (.int y :: .int x :: st)) rfl (H.dec hd) rfl kk) k
theorem G.ishr (H : Hs p l e R s m args below meth c Z a0 EL cw own n0 bytes maxL ret nm T h C S sf) {x y : Int32} {pc pc' : Nat} {L : Array Slot} {st : List Value} (hd : decode bytes pc = .ok (.ishr, 1)) (hp : pc + 1 = pc') (k : Go p e below P (T.setTop (mkF m pc' L (.int (x >>> (y &&& 31)) :: st)))) : Go p e below P (T.setTop (mkF m pc L (.int y :: .int x :: st))) := by
  subst hp
  exact Go.st (fun t kk => XT.ishr H.here H.exec (g := mkF m pc L (.int y :: .int x :: st)) rfl (H.dec hd) rfl kk) k
theorem G.iushr (H : Hs p l e R s m args below meth c Z a0 EL cw own n0 bytes maxL ret nm T h C S sf) {x y : Int32} {pc pc' : Nat} {L : Array Slot} {st : List Value} (hd : decode bytes pc = .ok (.iushr, 1)) (hp : pc + 1 = pc') (k : Go p e below P (T.setTop (mkF m pc' L (.int (XT.ushr x y) :: st)))) : Go p e below P (T.setTop (mkF m pc L (.int y :: .int x :: st))) := by
  subst hp
  exact Go.st (fun t kk => XT.iushr H.here H.exec (g := mkF m pc L (.int y :: .int x :: st)) rfl (H.dec hd) rfl kk) k
theorem G.idiv (H : Hs p l e R s m args below meth c Z a0 EL cw own n0 bytes maxL ret nm T h C S sf) {x y : Int32} {pc pc' : Nat} {L : Array Slot} {st : List Value} (hd : decode bytes pc = .ok (.idiv, 1)) (hp : pc + 1 = pc') (hy : y ≠ 0) (k : Go p e below P (T.setTop (mkF m pc' L (.int (x / y) :: st)))) : Go p e below P (T.setTop (mkF m pc L (.int y :: .int x :: st))) := by
  subst hp
  exact Go.st (fun t kk => XS.idiv H.here H.exec (g := mkF m pc L (.int y :: .int x :: st)) rfl (H.dec hd) rfl hy kk) k
theorem G.ineg (H : Hs p l e R s m args below meth c Z a0 EL cw own n0 bytes maxL ret nm T h C S sf) {x : Int32} {pc pc' : Nat} {L : Array Slot} {st : List Value} (hd : decode bytes pc = .ok (.ineg, 1)) (hp : pc + 1 = pc') (k : Go p e below P (T.setTop (mkF m pc' L (.int (-x) :: st)))) : Go p e below P (T.setTop (mkF m pc L (.int x :: st))) := by
  subst hp
  exact Go.st (fun t kk => XS.ineg H.here H.exec (g := mkF m pc L (.int x :: st)) rfl (H.dec hd) rfl kk) k
theorem G.irem (H : Hs p l e R s m args below meth c Z a0 EL cw own n0 bytes maxL ret nm T h C S sf) {x y : Int32} {pc pc' : Nat} {L : Array Slot} {st : List Value} (hd : decode bytes pc = .ok (.irem, 1)) (hp : pc + 1 = pc') (hy : y ≠ 0) (k : Go p e below P (T.setTop (mkF m pc' L (.int (x % y) :: st)))) : Go p e below P (T.setTop (mkF m pc L (.int y :: .int x :: st))) := by
  subst hp
  obtain ⟨-, vm0, k0, locs, X, -⟩ := id H
  exact Go.st (fun t kk => iremM X H.exec (g := mkF m pc L (.int y :: .int x :: st)) rfl (H.dec hd) rfl hy kk) k
theorem G.ladd (H : Hs p l e R s m args below meth c Z a0 EL cw own n0 bytes maxL ret nm T h C S sf) {x y : Int64} {pc pc' : Nat} {L : Array Slot} {st : List Value} (hd : decode bytes pc = .ok (.ladd, 1)) (hp : pc + 1 = pc') (k : Go p e below P (T.setTop (mkF m pc' L (.long (x + y) :: st)))) : Go p e below P (T.setTop (mkF m pc L (.long y :: .long x :: st))) := by
  subst hp
  exact Go.st (fun t kk => XT.ladd H.here H.exec (g := mkF m pc L (.long y :: .long x :: st)) rfl (H.dec hd) rfl kk) k
theorem G.lsub (H : Hs p l e R s m args below meth c Z a0 EL cw own n0 bytes maxL ret nm T h C S sf) {x y : Int64} {pc pc' : Nat} {L : Array Slot} {st : List Value} (hd : decode bytes pc = .ok (.lsub, 1)) (hp : pc + 1 = pc') (k : Go p e below P (T.setTop (mkF m pc' L (.long (x - y) :: st)))) : Go p e below P (T.setTop (mkF m pc L (.long y :: .long x :: st))) := by
  subst hp
  exact Go.st (fun t kk => XT.lsub H.here H.exec (g := mkF m pc L (.long y :: .long x :: st)) rfl (H.dec hd) rfl kk) k
theorem G.land (H : Hs p l e R s m args below meth c Z a0 EL cw own n0 bytes maxL ret nm T h C S sf) {x y : Int64} {pc pc' : Nat} {L : Array Slot} {st : List Value} (hd : decode bytes pc = .ok (.land, 1)) (hp : pc + 1 = pc') (k : Go p e below P (T.setTop (mkF m pc' L (.long (x &&& y) :: st)))) : Go p e below P (T.setTop (mkF m pc L (.long y :: .long x :: st))) := by
  subst hp
  exact Go.st (fun t kk => XT.land H.here H.exec (g := mkF m pc L (.long y :: .long x :: st)) rfl (H.dec hd) rfl kk) k
theorem G.lor (H : Hs p l e R s m args below meth c Z a0 EL cw own n0 bytes maxL ret nm T h C S sf) {x y : Int64} {pc pc' : Nat} {L : Array Slot} {st : List Value} (hd : decode bytes pc = .ok (.lor, 1)) (hp : pc + 1 = pc') (k : Go p e below P (T.setTop (mkF m pc' L (.long (x ||| y) :: st)))) : Go p e below P (T.setTop (mkF m pc L (.long y :: .long x :: st))) := by
  subst hp
  exact Go.st (fun t kk => XT.lor H.here H.exec (g := mkF m pc L (.long y :: .long x :: st)) rfl (H.dec hd) rfl kk) k
theorem G.lxor (H : Hs p l e R s m args below meth c Z a0 EL cw own n0 bytes maxL ret nm T h C S sf) {x y : Int64} {pc pc' : Nat} {L : Array Slot} {st : List Value} (hd : decode bytes pc = .ok (.lxor, 1)) (hp : pc + 1 = pc') (k : Go p e below P (T.setTop (mkF m pc' L (.long (x ^^^ y) :: st)))) : Go p e below P (T.setTop (mkF m pc L (.long y :: .long x :: st))) := by
  subst hp
  exact Go.st (fun t kk => XT.lxor H.here H.exec (g := mkF m pc L (.long y :: .long x :: st)) rfl (H.dec hd) rfl kk) k
theorem G.lmul (H : Hs p l e R s m args below meth c Z a0 EL cw own n0 bytes maxL ret nm T h C S sf) {x y : Int64} {pc pc' : Nat} {L : Array Slot} {st : List Value} (hd : decode bytes pc = .ok (.lmul, 1)) (hp : pc + 1 = pc') (k : Go p e below P (T.setTop (mkF m pc' L (.long (x * y) :: st)))) : Go p e below P (T.setTop (mkF m pc L (.long y :: .long x :: st))) := by
  subst hp
  exact Go.st (fun t kk => XT.lmul H.here H.exec (g := mkF m pc L (.long y :: .long x :: st)) rfl (H.dec hd) rfl kk) k
theorem G.lushr (H : Hs p l e R s m args below meth c Z a0 EL cw own n0 bytes maxL ret nm T h C S sf) {x : Int64} {y : Int32} {pc pc' : Nat} {L : Array Slot} {st : List Value} (hd : decode bytes pc = .ok (.lushr, 1)) (hp : pc + 1 = pc') (k : Go p e below P (T.setTop (mkF m pc' L (.long (XT.ushrL x y) :: st)))) : Go p e below P (T.setTop (mkF m pc L (.int y :: .long x :: st))) := by
  subst hp
  exact Go.st (fun t kk => XT.lushr H.here H.exec (g := mkF m pc L (.int y :: .long x :: st)) rfl (H.dec hd) rfl kk) k
theorem G.i2l (H : Hs p l e R s m args below meth c Z a0 EL cw own n0 bytes maxL ret nm T h C S sf) {x : Int32} {pc pc' : Nat} {L : Array Slot} {st : List Value} (hd : decode bytes pc = .ok (.i2l, 1)) (hp : pc + 1 = pc') (k : Go p e below P (T.setTop (mkF m pc' L (.long (x.toInt64) :: st)))) : Go p e below P (T.setTop (mkF m pc L (.int x :: st))) := by
  subst hp
  exact Go.st (fun t kk => XT.i2l H.here H.exec (g := mkF m pc L (.int x :: st)) rfl (H.dec hd) rfl kk) k
theorem G.l2i (H : Hs p l e R s m args below meth c Z a0 EL cw own n0 bytes maxL ret nm T h C S sf) {x : Int64} {pc pc' : Nat} {L : Array Slot} {st : List Value} (hd : decode bytes pc = .ok (.l2i, 1)) (hp : pc + 1 = pc') (k : Go p e below P (T.setTop (mkF m pc' L (.int (x.toInt32) :: st)))) : Go p e below P (T.setTop (mkF m pc L (.long x :: st))) := by
  subst hp
  exact Go.st (fun t kk => XT.l2i H.here H.exec (g := mkF m pc L (.long x :: st)) rfl (H.dec hd) rfl kk) k
theorem G.i2b (H : Hs p l e R s m args below meth c Z a0 EL cw own n0 bytes maxL ret nm T h C S sf) {x : Int32} {pc pc' : Nat} {L : Array Slot} {st : List Value} (hd : decode bytes pc = .ok (.i2b, 1)) (hp : pc + 1 = pc') (k : Go p e below P (T.setTop (mkF m pc' L (.int (x.toInt8.toInt32) :: st)))) : Go p e below P (T.setTop (mkF m pc L (.int x :: st))) := by
  subst hp
  exact Go.st (fun t kk => XT.i2b H.here H.exec (g := mkF m pc L (.int x :: st)) rfl (H.dec hd) rfl kk) k
theorem G.i2s (H : Hs p l e R s m args below meth c Z a0 EL cw own n0 bytes maxL ret nm T h C S sf) {x : Int32} {pc pc' : Nat} {L : Array Slot} {st : List Value} (hd : decode bytes pc = .ok (.i2s, 1)) (hp : pc + 1 = pc') (k : Go p e below P (T.setTop (mkF m pc' L (.int (x.toInt16.toInt32) :: st)))) : Go p e below P (T.setTop (mkF m pc L (.int x :: st))) := by
  subst hp
  exact Go.st (fun t kk => XT.i2s H.here H.exec (g := mkF m pc L (.int x :: st)) rfl (H.dec hd) rfl kk) k
theorem G.i2c (H : Hs p l e R s m args below meth c Z a0 EL cw own n0 bytes maxL ret nm T h C S sf) {x y : Int32} {pc pc' : Nat} {L : Array Slot} {st : List Value} (hd : decode bytes pc = .ok (.i2c, 1)) (hp : pc + 1 = pc') (hy : x.toUInt32.toUInt16.toUInt32.toInt32 = y) (k : Go p e below P (T.setTop (mkF m pc' L (.int y :: st)))) : Go p e below P (T.setTop (mkF m pc L (.int x :: st))) := by
  subst hp; subst hy
  exact Go.st (fun t kk => XT.i2c H.here H.exec (g := mkF m pc L (.int x :: st)) rfl (H.dec hd) rfl kk) k
theorem G.lcmp (H : Hs p l e R s m args below meth c Z a0 EL cw own n0 bytes maxL ret nm T h C S sf) {x y : Int64} {pc pc' : Nat} {L : Array Slot} {st : List Value} (hd : decode bytes pc = .ok (.lcmp, 1)) (hp : pc + 1 = pc') (k : Go p e below P (T.setTop (mkF m pc' L (.int (XT.cmpL x y) :: st)))) : Go p e below P (T.setTop (mkF m pc L (.long y :: .long x :: st))) := by
  subst hp
  exact Go.st (fun t kk => XT.lcmp H.here H.exec (g := mkF m pc L (.long y :: .long x :: st)) rfl (H.dec hd) rfl kk) k
theorem G.pop (H : Hs p l e R s m args below meth c Z a0 EL cw own n0 bytes maxL ret nm T h C S sf) {x : Value} {pc pc' : Nat} {L : Array Slot} {st : List Value} (hd : decode bytes pc = .ok (.pop, 1)) (hp : pc + 1 = pc') (hc : x.category = 1) (k : Go p e below P (T.setTop (mkF m pc' L (st)))) : Go p e below P (T.setTop (mkF m pc L (x :: st))) := by
  subst hp
  exact Go.st (fun t kk => XT.pop H.here H.exec (g := mkF m pc L (x :: st)) rfl (H.dec hd) rfl hc kk) k
theorem G.dup (H : Hs p l e R s m args below meth c Z a0 EL cw own n0 bytes maxL ret nm T h C S sf) {x : Value} {pc pc' : Nat} {L : Array Slot} {st : List Value} (hd : decode bytes pc = .ok (.dup, 1)) (hp : pc + 1 = pc') (hc : x.category = 1) (k : Go p e below P (T.setTop (mkF m pc' L (x :: x :: st)))) : Go p e below P (T.setTop (mkF m pc L (x :: st))) := by
  subst hp
  exact Go.st (fun t kk => XS.dup H.here H.exec (g := mkF m pc L (x :: st)) rfl (H.dec hd) rfl hc kk) k
theorem G.dupX1 (H : Hs p l e R s m args below meth c Z a0 EL cw own n0 bytes maxL ret nm T h C S sf) {x y : Value} {pc pc' : Nat} {L : Array Slot} {st : List Value} (hd : decode bytes pc = .ok (.dup_x1, 1)) (hp : pc + 1 = pc') (hc : x.category = 1) (hc' : y.category = 1) (k : Go p e below P (T.setTop (mkF m pc' L (x :: y :: x :: st)))) : Go p e below P (T.setTop (mkF m pc L (x :: y :: st))) := by
  subst hp
  exact Go.st (fun t kk => XT.dupX1 H.here H.exec (g := mkF m pc L (x :: y :: st)) rfl (H.dec hd) rfl hc hc' kk) k
theorem G.dup2 (H : Hs p l e R s m args below meth c Z a0 EL cw own n0 bytes maxL ret nm T h C S sf) {x y : Value} {pc pc' : Nat} {L : Array Slot} {st : List Value} (hd : decode bytes pc = .ok (.dup2, 1)) (hp : pc + 1 = pc') (hc : x.category = 1) (hc' : y.category = 1) (k : Go p e below P (T.setTop (mkF m pc' L (x :: y :: x :: y :: st)))) : Go p e below P (T.setTop (mkF m pc L (x :: y :: st))) := by
  subst hp
  exact Go.st (fun t kk => XT.dup2 H.here H.exec (g := mkF m pc L (x :: y :: st)) rfl (H.dec hd) rfl hc hc' kk) k
theorem G.istoreN (H : Hs p l e R s m args below meth c Z a0 EL cw own n0 bytes maxL ret nm T h C S sf) {i : Fin 4} {x : Int32} {L' : Array Slot} {pc pc' : Nat} {L : Array Slot} {st : List Value} (hd : decode bytes pc = .ok (.istore_n i, 1)) (hp : pc + 1 = pc') (hl : storeLocals L i.val (.int x) = some L') (k : Go p e below P (T.setTop (mkF m pc' L' (st)))) : Go p e below P (T.setTop (mkF m pc L (.int x :: st))) := by
  subst hp
  exact Go.st (fun t kk => XS.istoreN H.here H.exec (g := mkF m pc L (.int x :: st)) rfl (H.dec hd) rfl hl kk) k
theorem G.istore (H : Hs p l e R s m args below meth c Z a0 EL cw own n0 bytes maxL ret nm T h C S sf) {i : Nat} {x : Int32} {L' : Array Slot} {pc pc' : Nat} {L : Array Slot} {st : List Value} (hd : decode bytes pc = .ok (.istore i, 2)) (hp : pc + 2 = pc') (hl : storeLocals L i (.int x) = some L') (k : Go p e below P (T.setTop (mkF m pc' L' (st)))) : Go p e below P (T.setTop (mkF m pc L (.int x :: st))) := by
  subst hp
  exact Go.st (fun t kk => XS.istore H.here H.exec (g := mkF m pc L (.int x :: st)) rfl (H.dec hd) rfl hl kk) k
theorem G.astoreN (H : Hs p l e R s m args below meth c Z a0 EL cw own n0 bytes maxL ret nm T h C S sf) {i : Fin 4} {x : Value} {L' : Array Slot} {pc pc' : Nat} {L : Array Slot} {st : List Value} (hd : decode bytes pc = .ok (.astore_n i, 1)) (hp : pc + 1 = pc') (hv : x.isRef = true) (hl : storeLocals L i.val x = some L') (k : Go p e below P (T.setTop (mkF m pc' L' (st)))) : Go p e below P (T.setTop (mkF m pc L (x :: st))) := by
  subst hp
  exact Go.st (fun t kk => XS.astoreN H.here H.exec (g := mkF m pc L (x :: st)) rfl (H.dec hd) rfl hv hl kk) k
theorem G.astore (H : Hs p l e R s m args below meth c Z a0 EL cw own n0 bytes maxL ret nm T h C S sf) {i : Nat} {x : Value} {L' : Array Slot} {pc pc' : Nat} {L : Array Slot} {st : List Value} (hd : decode bytes pc = .ok (.astore i, 2)) (hp : pc + 2 = pc') (hv : x.isRef = true) (hl : storeLocals L i x = some L') (k : Go p e below P (T.setTop (mkF m pc' L' (st)))) : Go p e below P (T.setTop (mkF m pc L (x :: st))) := by
  subst hp
  exact Go.st (fun t kk => XS.astore H.here H.exec (g := mkF m pc L (x :: st)) rfl (H.dec hd) rfl hv hl kk) k
theorem G.iinc (H : Hs p l e R s m args below meth c Z a0 EL cw own n0 bytes maxL ret nm T h C S sf) {i : Nat} {cst : Int} {x v : Int32} {L' : Array Slot} {pc pc' : Nat} {L : Array Slot} {st : List Value} (hd : decode bytes pc = .ok (.iinc i cst, 3)) (hp : pc + 3 = pc') (hl : L[i]? = some (.val (.int x))) (hv : x + Int32.ofInt cst = v) (hl' : storeLocals L i (.int v) = some L') (k : Go p e below P (T.setTop (mkF m pc' L' (st)))) : Go p e below P (T.setTop (mkF m pc L (st))) := by
  subst hp; subst hv
  exact Go.st (fun t kk => XS.iinc H.here H.exec (g := mkF m pc L (st)) rfl (H.dec hd) hl hl' kk) k
theorem G.goto (H : Hs p l e R s m args below meth c Z a0 EL cw own n0 bytes maxL ret nm T h C S sf) {o : Int} {pc pc' : Nat} {L : Array Slot} {st : List Value} (hd : decode bytes pc = .ok (.goto o, 3)) (ho : 0 ≤ (pc : Int) + o) (hp : ((pc : Int) + o).toNat = pc') (k : Go p e below P (T.setTop (mkF m pc' L (st)))) : Go p e below P (T.setTop (mkF m pc L (st))) :=
  Go.st (fun t kk => XS.goto H.here H.exec (g := mkF m pc L (st)) rfl (pc0 := pc) rfl (H.dec hd) ho hp kk) k
theorem G.ifYes (H : Hs p l e R s m args below meth c Z a0 EL cw own n0 bytes maxL ret nm T h C S sf) {cd : ClassFile.Cond} {x : Int32} {o : Int} {pc pc' : Nat} {L : Array Slot} {st : List Value} (hd : decode bytes pc = .ok (.ifCond cd o, 3)) (hc : ifCond.holds cd x = true) (ho : 0 ≤ (pc : Int) + o) (hp : ((pc : Int) + o).toNat = pc') (k : Go p e below P (T.setTop (mkF m pc' L (st)))) : Go p e below P (T.setTop (mkF m pc L (.int x :: st))) :=
  Go.st (fun t kk => XS.ifYes H.here H.exec (g := mkF m pc L (.int x :: st)) rfl (pc0 := pc) rfl (H.dec hd) rfl hc ho hp kk) k
theorem G.icmpYes (H : Hs p l e R s m args below meth c Z a0 EL cw own n0 bytes maxL ret nm T h C S sf) {cd : ClassFile.Cond} {x y : Int32} {o : Int} {pc pc' : Nat} {L : Array Slot} {st : List Value} (hd : decode bytes pc = .ok (.if_icmp cd o, 3)) (hc : if_icmp.holds cd x y = true) (ho : 0 ≤ (pc : Int) + o) (hp : ((pc : Int) + o).toNat = pc') (k : Go p e below P (T.setTop (mkF m pc' L (st)))) : Go p e below P (T.setTop (mkF m pc L (.int y :: .int x :: st))) :=
  Go.st (fun t kk => XS.icmpYes H.here H.exec (g := mkF m pc L (.int y :: .int x :: st)) rfl (pc0 := pc) rfl (H.dec hd) rfl hc ho hp kk) k
theorem G.ifnullYes (H : Hs p l e R s m args below meth c Z a0 EL cw own n0 bytes maxL ret nm T h C S sf) {o : Int} {pc pc' : Nat} {L : Array Slot} {st : List Value} (hd : decode bytes pc = .ok (.ifnull o, 3)) (ho : 0 ≤ (pc : Int) + o) (hp : ((pc : Int) + o).toNat = pc') (k : Go p e below P (T.setTop (mkF m pc' L (st)))) : Go p e below P (T.setTop (mkF m pc L (.null :: st))) :=
  Go.st (fun t kk => XS.ifnullYes H.here H.exec (g := mkF m pc L (.null :: st)) rfl (pc0 := pc) rfl (H.dec hd) rfl ho hp kk) k
theorem G.ifnonnullYes (H : Hs p l e R s m args below meth c Z a0 EL cw own n0 bytes maxL ret nm T h C S sf) {b : Addr} {o : Int} {pc pc' : Nat} {L : Array Slot} {st : List Value} (hd : decode bytes pc = .ok (.ifnonnull o, 3)) (ho : 0 ≤ (pc : Int) + o) (hp : ((pc : Int) + o).toNat = pc') (k : Go p e below P (T.setTop (mkF m pc' L (st)))) : Go p e below P (T.setTop (mkF m pc L (.ref b :: st))) :=
  Go.st (fun t kk => XT.ifnonnullYes H.here H.exec (g := mkF m pc L (.ref b :: st)) rfl (pc0 := pc) rfl (H.dec hd) rfl ho hp kk) k
theorem G.acmpYes (H : Hs p l e R s m args below meth c Z a0 EL cw own n0 bytes maxL ret nm T h C S sf) {cd : ClassFile.ACond} {x y : Value} {o : Int} {pc pc' : Nat} {L : Array Slot} {st : List Value} (hd : decode bytes pc = .ok (.if_acmp cd o, 3)) (hx' : x.isRef = true) (hy' : y.isRef = true) (hc : XT.acmp cd x y = true) (ho : 0 ≤ (pc : Int) + o) (hp : ((pc : Int) + o).toNat = pc') (k : Go p e below P (T.setTop (mkF m pc' L (st)))) : Go p e below P (T.setTop (mkF m pc L (y :: x :: st))) :=
  Go.st (fun t kk => XT.acmpYes H.here H.exec (g := mkF m pc L (y :: x :: st)) rfl (pc0 := pc) rfl (H.dec hd) rfl hx' hy' hc ho hp kk) k
theorem G.ifNo (H : Hs p l e R s m args below meth c Z a0 EL cw own n0 bytes maxL ret nm T h C S sf) {cd : ClassFile.Cond} {o : Int} {x : Int32} {pc pc' : Nat} {L : Array Slot} {st : List Value} (hd : decode bytes pc = .ok (.ifCond cd o, 3)) (hp : pc + 3 = pc') (hc : ifCond.holds cd x = false) (k : Go p e below P (T.setTop (mkF m pc' L (st)))) : Go p e below P (T.setTop (mkF m pc L (.int x :: st))) := by
  subst hp
  exact Go.st (fun t kk => XS.ifNo H.here H.exec (g := mkF m pc L (.int x :: st)) rfl (H.dec hd) rfl hc kk) k
theorem G.icmpNo (H : Hs p l e R s m args below meth c Z a0 EL cw own n0 bytes maxL ret nm T h C S sf) {cd : ClassFile.Cond} {o : Int} {x y : Int32} {pc pc' : Nat} {L : Array Slot} {st : List Value} (hd : decode bytes pc = .ok (.if_icmp cd o, 3)) (hp : pc + 3 = pc') (hc : if_icmp.holds cd x y = false) (k : Go p e below P (T.setTop (mkF m pc' L (st)))) : Go p e below P (T.setTop (mkF m pc L (.int y :: .int x :: st))) := by
  subst hp
  exact Go.st (fun t kk => XS.icmpNo H.here H.exec (g := mkF m pc L (.int y :: .int x :: st)) rfl (H.dec hd) rfl hc kk) k
theorem G.ifnullNo (H : Hs p l e R s m args below meth c Z a0 EL cw own n0 bytes maxL ret nm T h C S sf) {o : Int} {b : Addr} {pc pc' : Nat} {L : Array Slot} {st : List Value} (hd : decode bytes pc = .ok (.ifnull o, 3)) (hp : pc + 3 = pc') (k : Go p e below P (T.setTop (mkF m pc' L (st)))) : Go p e below P (T.setTop (mkF m pc L (.ref b :: st))) := by
  subst hp
  exact Go.st (fun t kk => XS.ifnullNo H.here H.exec (g := mkF m pc L (.ref b :: st)) rfl (H.dec hd) rfl kk) k
theorem G.ifnonnullNo (H : Hs p l e R s m args below meth c Z a0 EL cw own n0 bytes maxL ret nm T h C S sf) {o : Int} {pc pc' : Nat} {L : Array Slot} {st : List Value} (hd : decode bytes pc = .ok (.ifnonnull o, 3)) (hp : pc + 3 = pc') (k : Go p e below P (T.setTop (mkF m pc' L (st)))) : Go p e below P (T.setTop (mkF m pc L (.null :: st))) := by
  subst hp
  exact Go.st (fun t kk => XT.ifnonnullNo H.here H.exec (g := mkF m pc L (.null :: st)) rfl (H.dec hd) rfl kk) k
theorem G.acmpNo (H : Hs p l e R s m args below meth c Z a0 EL cw own n0 bytes maxL ret nm T h C S sf) {cd : ClassFile.ACond} {o : Int} {x y : Value} {pc pc' : Nat} {L : Array Slot} {st : List Value} (hd : decode bytes pc = .ok (.if_acmp cd o, 3)) (hp : pc + 3 = pc') (hx' : x.isRef = true) (hy' : y.isRef = true) (hc : XT.acmp cd x y = false) (k : Go p e below P (T.setTop (mkF m pc' L (st)))) : Go p e below P (T.setTop (mkF m pc L (y :: x :: st))) := by
  subst hp
  exact Go.st (fun t kk => XT.acmpNo H.here H.exec (g := mkF m pc L (y :: x :: st)) rfl (H.dec hd) rfl hx' hy' hc kk) k
theorem G.tswIn (H : Hs p l e R s m args below meth c Z a0 EL cw own n0 bytes maxL ret nm T h C S sf) {dflt low high : Int} {offs : Array Int} {len : Nat} {o : Int} {i : Int32} {pc pc' : Nat} {L : Array Slot} {st : List Value} (hd : decode bytes pc = .ok (.tableswitch dflt low high offs, len)) (hin : ¬ (i.toInt < low ∨ i.toInt > high)) (hoff : offs[(i.toInt - low).toNat]? = some o) (ho : 0 ≤ (pc : Int) + o) (hp : ((pc : Int) + o).toNat = pc') (k : Go p e below P (T.setTop (mkF m pc' L st))) : Go p e below P (T.setTop (mkF m pc L (.int i :: st))) :=
  Go.st (fun t kk => XS.tswIn H.here H.exec (g := mkF m pc L (.int i :: st)) rfl (pc0 := pc) rfl (H.dec hd) rfl hin hoff ho hp kk) k
theorem G.tswOut (H : Hs p l e R s m args below meth c Z a0 EL cw own n0 bytes maxL ret nm T h C S sf) {dflt low high : Int} {offs : Array Int} {len : Nat} {i : Int32} {pc pc' : Nat} {L : Array Slot} {st : List Value} (hd : decode bytes pc = .ok (.tableswitch dflt low high offs, len)) (hout : i.toInt < low ∨ i.toInt > high) (ho : 0 ≤ (pc : Int) + dflt) (hp : ((pc : Int) + dflt).toNat = pc') (k : Go p e below P (T.setTop (mkF m pc' L st))) : Go p e below P (T.setTop (mkF m pc L (.int i :: st))) :=
  Go.st (fun t kk => XS.tswOut H.here H.exec (g := mkF m pc L (.int i :: st)) rfl (pc0 := pc) rfl (H.dec hd) rfl hout ho hp kk) k
/-! ## what makes or writes -/
theorem Hs.ext {T' : State} {h' : Heap} {C' S' : Nat} {vm0 : Vm} {k0 : Nat} {locs : List Loc} (H : Hs p l e R s m args below meth c Z a0 EL cw own n0 bytes maxL ret nm T h C S sf) (X' : Stand p l e R (s.setVm vm0) m args below meth c T' locs C' S') (e' : T'.heap = h') (E : Ext h h') (h2 : s.Since vm0 k0) (h3 : k0 ≤ h.size) (h4 : Z.Warmed39 vm0) (h5 : vm0.findClass own = some m.cls) (h6 : Fr n0 locs) (h7 : CHr Z EL s.vm s.heap vm0 h) (h8 : ∀ x ∈ sf, x < h.size ∧ Safe Z EL vm0 h x) (h9 : cw ∨ s.WarmedH vm0) (hO : Old Z n0 h) (hlt : h.size < h'.size) : Hs p l e R s m args below meth c Z a0 EL cw own n0 bytes maxL ret nm T' h' C' S' (h.size :: sf) :=
  ⟨H.1, vm0, k0, locs, X', e', h2, Nat.le_trans h3 E.1, h4, h5, h6, h7.trans (CHr.ext E h7.1), fun x hx => by
    rcases List.mem_cons.mp hx with rfl | hx
    · exact ⟨hlt, Safe.ext E h7.1 (Safe.new (Nat.le_refl _))⟩
    · exact ⟨Nat.lt_of_lt_of_le (h8 x hx).1 E.1, Safe.ext E h7.1 (h8 x hx).2⟩, h9, hO.ext E⟩
theorem G.new (H : Hs p l e R s m args below meth c Z a0 EL cw own n0 bytes maxL ret nm T h C S sf) {K : String} {index n : Nat} (w : (Cond.classLink own index K).before a0 Z = true) (wi : (Cond.instantiable K n).before a0 Z = true) (wz : (Cond.initialized K).before a0 Z = true) {pc pc' : Nat} {L : Array Slot} {st : List Value} (hd : decode bytes pc = .ok (.new index, 3)) (hp : pc + 3 = pc') (hc : C + 1 ≤ R.cells) (hl : S + n ≤ R.slots)
    (k : ∀ T' h' a, a = h.size → Hs p l e R s m args below meth c Z a0 EL cw own n0 bytes maxL ret nm T' h' (C + 1) (S + n) (a :: sf) → Ext h h' → Exa Z h' a K → (∀ {O nm' d : String} {ty : FieldType}, Laid Z a0 K O nm' d → parseFieldDescriptor d = some ty → Fld Z h' a O nm' d (defaultValue ty)) → Go p e below P (T'.setTop (mkF m pc' L (.ref a :: st)))) : Go p e below P (T.setTop (mkF m pc L st)) := by
  subst hp
  obtain ⟨hM, vm0, k0, locs, X, h1, h2, h3, h4, h5, h6, h7, h8, h9, hO⟩ := id H
  obtain ⟨T', h', X', e', E, A, D, -, st'⟩ := RoadKit.newO X H.exec h4 h5 w wi wz h1 (g := mkF m pc L st) rfl (H.dec hd) hc hl
  exact Go.st st' (k T' h' _ rfl (H.ext X' e' E h2 h3 h4 h5 h6 h7 h8 h9 hO A.lt) E A D)
theorem G.newP (H : Hs p l e R s m args below meth c Z a0 EL cw own n0 bytes maxL ret nm T h C S sf) {aty : ArrayType} (w : (Cond.arrayClass (newarray.typeOf aty)).before a0 Z = true) {z : Int32} {pc pc' : Nat} {L : Array Slot} {st : List Value} (hd : decode bytes pc = .ok (.newarray aty, 2)) (hp : pc + 2 = pc') (hn : ¬ z < 0) {cap : Nat} (hcap : z.toNatClampNeg ≤ cap) (hb : cap * 8 ≤ 536870912) (hc : C + 1 ≤ R.cells) (hl : S + cap ≤ R.slots) {vs : List Value} (hvs : List.replicate z.toNatClampNeg (defaultValue (newarray.typeOf aty)) = vs) {ad : String} (had : "[" ++ (newarray.typeOf aty).toString = ad)
    (k : ∀ T' h' a kc, a = h.size → Hs p l e R s m args below meth c Z a0 EL cw own n0 bytes maxL ret nm T' h' (C + 1) (S + cap) (a :: sf) → Ext h h' → Arv Z h' a kc (newarray.typeOf aty) z vs (defaultValue (newarray.typeOf aty)) → Exa Z h' a ad → Go p e below P (T'.setTop (mkF m pc' L (.ref a :: st)))) : Go p e below P (T.setTop (mkF m pc L (.int z :: st))) := by
  subst hp
  obtain ⟨hM, vm0, k0, locs, X, h1, h2, h3, h4, h5, h6, h7, h8, h9, hO⟩ := id H
  obtain ⟨T', h', cA, X', e', E, A, EX, st'⟩ := RoadKit.newPE X H.exec h4 w h1 (g := mkF m pc L (.int z :: st)) rfl (H.dec hd) rfl hn hcap hb hc hl had
  refine Go.st st' (k T' h' _ cA rfl (H.ext X' e' E h2 h3 h4 h5 h6 h7 h8 h9 hO A.lt) E ?_ EX)
  subst hvs
  exact (Arv.new A hn).pad (fun i => by simpa using pad_rep [] (defaultValue (newarray.typeOf aty)) z.toNatClampNeg i)
theorem G.newR (H : Hs p l e R s m args below meth c Z a0 EL cw own n0 bytes maxL ret nm T h C S sf) {K : String} {index : Nat} (w1 : (Cond.classLink own index K).before a0 Z = true) (w2 : (Cond.arrayOver (.object K)).before a0 Z = true) {z : Int32} {pc pc' : Nat} {L : Array Slot} {st : List Value} (hd : decode bytes pc = .ok (.anewarray index, 3)) (hp : pc + 3 = pc') (hn : ¬ z < 0) {cap : Nat} (hcap : z.toNatClampNeg ≤ cap) (hb : cap * 8 ≤ 536870912) (hc : C + 1 ≤ R.cells) (hl : S + cap ≤ R.slots) {vs : List Value} (hvs : List.replicate z.toNatClampNeg Value.null = vs) {ad : String} (had : "[" ++ (FieldType.object K).toString = ad)
    (k : ∀ T' h' a kc, a = h.size → Hs p l e R s m args below meth c Z a0 EL cw own n0 bytes maxL ret nm T' h' (C + 1) (S + cap) (a :: sf) → Ext h h' → Arv Z h' a kc (.object K) z vs .null → Exa Z h' a ad → Ovr Z kc K → Go p e below P (T'.setTop (mkF m pc' L (.ref a :: st)))) : Go p e below P (T.setTop (mkF m pc L (.int z :: st))) := by
  subst hp
  obtain ⟨hM, vm0, k0, locs, X, h1, h2, h3, h4, h5, h6, h7, h8, h9, hO⟩ := id H
  obtain ⟨T', h', cA, X', e', E, A, EX, O, st'⟩ := RoadKit.newRE X H.exec h4 h5 w1 w2 h1 (g := mkF m pc L (.int z :: st)) rfl (H.dec hd) rfl hn hcap hb hc hl had
  refine Go.st st' (k T' h' _ cA rfl (H.ext X' e' E h2 h3 h4 h5 h6 h7 h8 h9 hO A.lt) E ?_ EX O)
  subst hvs
  exact (Arv.new A hn).pad (fun i => by show (List.replicate z.toNatClampNeg Value.null).getD i Value.null = ([] : List Value).getD i Value.null; simpa using pad_rep [] Value.null z.toNatClampNeg i)
theorem Hs.wr {T' : State} {h' : Heap} {vm0 : Vm} {k0 : Nat} {locs : List Loc} {a : Addr} {sl : Nat} {v : Value} (H : Hs p l e R s m args below meth c Z a0 EL cw own n0 bytes maxL ret nm T h C S sf) (X' : Stand p l e R (s.setVm vm0) m args below meth c T' (locs ++ [⟨a, sl⟩]) C S) (e' : T'.heap = h') (W : Wr h h' a sl v) (q : n0 ≤ a) (sa : Safe Z EL vm0 h a) (h2 : s.Since vm0 k0) (h3 : k0 ≤ h.size) (h4 : Z.Warmed39 vm0) (h5 : vm0.findClass own = some m.cls) (h6 : Fr n0 locs) (h7 : CHr Z EL s.vm s.heap vm0 h) (h8 : ∀ x ∈ sf, x < h.size ∧ Safe Z EL vm0 h x) (h9 : cw ∨ s.WarmedH vm0) (hO : Old Z n0 h) : Hs p l e R s m args below meth c Z a0 EL cw own n0 bytes maxL ret nm T' h' C S sf :=
  ⟨H.1, vm0, k0, locs ++ [⟨a, sl⟩], X', e', h2, by rw [W.size]; exact h3, h4, h5, Fr.snoc X' h6 q, h7.trans (CHr.wr W sa h7.1), fun x hx => ⟨by rw [W.size]; exact (h8 x hx).1, Safe.wr W sa h7.1 (h8 x hx).2⟩, h9, hO.wr W q⟩
theorem G.putF (H : Hs p l e R s m args below meth c Z a0 EL cw own n0 bytes maxL ret nm T h C S sf) {R0 O n d K : String} {index kk : Nat} {ty : FieldType} (w : (Cond.fieldLink own index R0 n d).before a0 Z = true) (via : Via Z R0 O n d) {a : Addr} {v old : Value} (F : Fld Z h a O n d old) (E : Exa Z h a K) (Ly : (Cond.lays K O n d).before a0 Z = true ∨ ((Cond.laysFinal K O n d).before a0 Z = true ∧ own = O ∧ nm = "<init>")) (wi : (Cond.instantiable K kk).before a0 Z = true) (hty : parseFieldDescriptor d = some ty) (hn : narrow ty v = v) (hf : fits ty v = true) (hq : n0 ≤ a) (hsf : Sf Z EL h sf a) {pc pc' : Nat} {L : Array Slot} {st : List Value} (hd : decode bytes pc = .ok (.putfield index, 3)) (hp : pc + 3 = pc')
    (k : ∀ T' h', Hs p l e R s m args below meth c Z a0 EL cw own n0 bytes maxL ret nm T' h' C S sf → Wr h h' a (RoadKit.slotOf Z O n d) v → Go p e below P (T'.setTop (mkF m pc' L st))) : Go p e below P (T.setTop (mkF m pc L (v :: .ref a :: st))) := by
  subst hp
  obtain ⟨hM, vm0, k0, locs, X, h1, h2, h3, h4, h5, h6, h7, h8, h9, hO⟩ := id H
  obtain ⟨T', h', X', e', W, st'⟩ := RoadKit.putF X H.exec h4 (host := "") h5 (Or.inl w) via h1 F E (Ly.imp id (fun q => ⟨q.1, q.2.1, hM.2.2.2.2.2.2.1.trans q.2.2⟩)) wi hty hn hf (g := mkF m pc L (v :: .ref a :: st)) rfl rfl (H.dec hd)
  exact Go.st st' (k T' h' (H.wr X' e' W hq (hsf.safe h4 h8) h2 h3 h4 h5 h6 h7 h8 h9 hO) W)
theorem G.stI (H : Hs p l e R s m args below meth c Z a0 EL cw own n0 bytes maxL ret nm T h C S sf) {a : Addr} {kc : ClassId} {z : Int32} {vs : List Value} {dv : Value} (A : Arv Z h a kc .int z vs dv) {j x : Int32} (hj : ¬ j < 0 ∧ j < z) {i : Nat} (hi : j.toNatClampNeg = i) (hlt : i < vs.length) (hq : n0 ≤ a) {pc pc' : Nat} {L : Array Slot} {st : List Value} (hd : decode bytes pc = .ok (.iastore, 1)) (hp : pc + 1 = pc')
    (k : ∀ T' h', Hs p l e R s m args below meth c Z a0 EL cw own n0 bytes maxL ret nm T' h' C S sf → Wr h h' a i (.int x) → Arv Z h' a kc .int z (vs.set i (.int x)) dv → Go p e below P (T'.setTop (mkF m pc' L st))) : Go p e below P (T.setTop (mkF m pc L (.int x :: .int j :: .ref a :: st))) := by
  subst hp; subst hi
  obtain ⟨hM, vm0, k0, locs, X, h1, h2, h3, h4, h5, h6, h7, h8, h9, hO⟩ := id H
  obtain ⟨cl, Ar, q1, S1, q3, H1, G1⟩ := A
  obtain ⟨T', h', X', e', W, st'⟩ := RoadKit.stI X H.exec h4 h1 Ar (inb_of S1 hj) (g := mkF m pc L (.int x :: .int j :: .ref a :: st)) rfl rfl (H.dec hd)
  exact Go.st st' (k T' h' (H.wr X' e' W hq (Safe.arr h4.alike Ar (by decide)) h2 h3 h4 h5 h6 h7 h8 h9 hO) W (Arv.set Ar q1 S1 q3 H1 G1 rfl W _ rfl hlt))
theorem G.stC (H : Hs p l e R s m args below meth c Z a0 EL cw own n0 bytes maxL ret nm T h C S sf) {a : Addr} {kc : ClassId} {z : Int32} {vs : List Value} {dv : Value} (A : Arv Z h a kc .char z vs dv) {j x : Int32} (hj : ¬ j < 0 ∧ j < z) {i : Nat} (hi : j.toNatClampNeg = i) (hlt : i < vs.length) (hq : n0 ≤ a) {y : Int32} (hy : nar .char x = y) {pc pc' : Nat} {L : Array Slot} {st : List Value} (hd : decode bytes pc = .ok (.castore, 1)) (hp : pc + 1 = pc')
    (k : ∀ T' h', Hs p l e R s m args below meth c Z a0 EL cw own n0 bytes maxL ret nm T' h' C S sf → Wr h h' a i (.int y) → Arv Z h' a kc .char z (vs.set i (.int y)) dv → Go p e below P (T'.setTop (mkF m pc' L st))) : Go p e below P (T.setTop (mkF m pc L (.int x :: .int j :: .ref a :: st))) := by
  subst hp; subst hi; subst hy
  obtain ⟨hM, vm0, k0, locs, X, h1, h2, h3, h4, h5, h6, h7, h8, h9, hO⟩ := id H
  obtain ⟨cl, Ar, q1, S1, q3, H1, G1⟩ := A
  obtain ⟨T', h', X', e', W, st'⟩ := RoadKit.stC X H.exec h4 h1 Ar (inb_of S1 hj) (g := mkF m pc L (.int x :: .int j :: .ref a :: st)) rfl rfl (H.dec hd)
  exact Go.st st' (k T' h' (H.wr X' e' W hq (Safe.arr h4.alike Ar (by decide)) h2 h3 h4 h5 h6 h7 h8 h9 hO) W (Arv.set Ar q1 S1 q3 H1 G1 (fits_nar_char x) W _ rfl hlt))
theorem G.stB (H : Hs p l e R s m args below meth c Z a0 EL cw own n0 bytes maxL ret nm T h C S sf) {a : Addr} {kc : ClassId} {z : Int32} {vs : List Value} {dv : Value} (A : Arv Z h a kc .byte z vs dv) {j x : Int32} (hj : ¬ j < 0 ∧ j < z) {i : Nat} (hi : j.toNatClampNeg = i) (hlt : i < vs.length) (hq : n0 ≤ a) (hsf : Sf Z EL h sf a) {y : Int32} (hy : nar .byte x = y) {pc pc' : Nat} {L : Array Slot} {st : List Value} (hd : decode bytes pc = .ok (.bastore, 1)) (hp : pc + 1 = pc')
    (k : ∀ T' h', Hs p l e R s m args below meth c Z a0 EL cw own n0 bytes maxL ret nm T' h' C S sf → Wr h h' a i (.int y) → Arv Z h' a kc .byte z (vs.set i (.int y)) dv → Go p e below P (T'.setTop (mkF m pc' L st))) : Go p e below P (T.setTop (mkF m pc L (.int x :: .int j :: .ref a :: st))) := by
  subst hp; subst hi; subst hy
  obtain ⟨hM, vm0, k0, locs, X, h1, h2, h3, h4, h5, h6, h7, h8, h9, hO⟩ := id H
  obtain ⟨cl, Ar, q1, S1, q3, H1, G1⟩ := A
  obtain ⟨T', h', X', e', W, st'⟩ := RoadKit.stB X H.exec h4 h1 Ar (inb_of S1 hj) (g := mkF m pc L (.int x :: .int j :: .ref a :: st)) rfl rfl (H.dec hd)
  exact Go.st st' (k T' h' (H.wr X' e' W hq (hsf.safe h4 h8) h2 h3 h4 h5 h6 h7 h8 h9 hO) W (Arv.set Ar q1 S1 q3 H1 G1 (fits_nar_byte x) W _ rfl hlt))
theorem G.stR (H : Hs p l e R s m args below meth c Z a0 EL cw own n0 bytes maxL ret nm T h C S sf) {a : Addr} {kc : ClassId} {ty : FieldType} {z : Int32} {vs : List Value} {dv : Value} (A : Arv Z h a kc ty z vs dv) (hty : ty.isReference = true) {j : Int32} {v : Value} (F : Sto Z h a v) (hv : v.isRef = true) (hj : ¬ j < 0 ∧ j < z) {i : Nat} (hi : j.toNatClampNeg = i) (hlt : i < vs.length) (hq : n0 ≤ a) {pc pc' : Nat} {L : Array Slot} {st : List Value} (hd : decode bytes pc = .ok (.aastore, 1)) (hp : pc + 1 = pc')
    (k : ∀ T' h', Hs p l e R s m args below meth c Z a0 EL cw own n0 bytes maxL ret nm T' h' C S sf → Wr h h' a i v → Arv Z h' a kc ty z (vs.set i v) dv → Go p e below P (T'.setTop (mkF m pc' L st))) : Go p e below P (T.setTop (mkF m pc L (v :: .int j :: .ref a :: st))) := by
  subst hp; subst hi
  obtain ⟨hM, vm0, k0, locs, X, h1, h2, h3, h4, h5, h6, h7, h8, h9, hO⟩ := id H
  obtain ⟨cl, Ar, q1, S1, q3, H1, G1⟩ := A
  obtain ⟨T', h', X', e', W, st'⟩ := RoadKit.stR X H.exec h4 h1 Ar (inb_of S1 hj) hty F (g := mkF m pc L (v :: .int j :: .ref a :: st)) rfl rfl (H.dec hd)
  exact Go.st st' (k T' h' (H.wr X' e' W hq (Safe.arr h4.alike Ar (by intro q; rw [q] at hty; cases hty)) h2 h3 h4 h5 h6 h7 h8 h9 hO) W (Arv.set Ar q1 S1 q3 H1 G1 (by rcases ref_cases hv with rfl | ⟨b, rfl⟩ <;> cases ty <;> first | rfl | cases hty) W _ rfl hlt))
/-! ## a String constant -/
theorem Hs.rebase {T' : State} {h' : Heap} {C' S' : Nat} {vm0 : Vm} {k1 : Nat} {locs : List Loc} (H : Hs p l e R s m args below meth c Z a0 EL cw own n0 bytes maxL ret nm T h C S sf) (hcw : cw) (X' : Stand p l e R (s.setVm T'.vm) m args below meth c T' locs C' S') (e' : T'.heap = h') (h2 : s.Since T'.vm k1) (h3 : k1 ≤ h'.size) (h4 : Z.Warmed39 T'.vm) (h5 : T'.vm.findClass own = some m.cls) (h6 : Fr n0 locs) (h7 : CHr Z EL s.vm s.heap vm0 h) (h7' : CHr Z EL vm0 h T'.vm h') (h8 : ∀ x ∈ sf, x < h.size ∧ Safe Z EL vm0 h x) (hO : Old Z n0 h') : Hs p l e R s m args below meth c Z a0 EL cw own n0 bytes maxL ret nm T' h' C' S' sf :=
  ⟨H.1, T'.vm, k1, locs, X', e', h2, h3, h4, h5, h6, h7.trans h7', fun x hx => ⟨Nat.lt_of_lt_of_le (h8 x hx).1 h7'.2.1, h7'.safe (h8 x hx).1 (h8 x hx).2⟩, Or.inl hcw, hO⟩
theorem G.ldcS (H : Hs p l e R s m args below meth c Z a0 EL cw own n0 bytes maxL ret nm T h C S sf) (hcw : cw) (wS : ∀ a ∈ Bundle.stringAtoms, a.before a0 Z = true) {index : Nat} {text : String} (w : (Cond.stringLink own index text).before a0 Z = true) (hmem : (own, index) ∈ EL) {vs : List Value} {z : Int32} (ht : (∀ c ∈ text.toList, c.toNat < 256) ∧ text.toList.map (fun c => Value.int (Jvm.Lit.byteI c.toNat.toUInt16)) = vs) (hz : ¬ z < 0) (hl : z.toNatClampNeg = vs.length) {n : Nat} (hn : 4 * text.toList.length ≤ n) (hbig : n ≤ 536870912) (hc : C + 2 ≤ R.cells) (hl' : S + (n + 4) ≤ R.slots) {pc pc' : Nat} {L : Array Slot} {st : List Value} (hd : decode bytes pc = .ok (.ldc index, 2)) (hp : pc + 2 = pc')
    (k : ∀ T' h' a b kb, Hs p l e R s m args below meth c Z a0 EL cw own n0 bytes maxL ret nm T' h' (C + 2) (S + (n + 4)) sf → Ext h h' → Exa Z h' a "java/lang/String" → Fld Z h' a "java/lang/String" "coder" "B" (.int 0) → Fld Z h' a "java/lang/String" "value" "[B" (.ref b) → Arv Z h' b kb .byte z vs (.int 0) → (∀ x ∈ sf, x ≠ a ∧ x ≠ b) → Go p e below P (T'.setTop (mkF m pc' L (.ref a :: st)))) : Go p e below P (T.setTop (mkF m pc L st)) := by
  subst hp
  obtain ⟨hM, vm0, k0, locs, X, h1, h2, h3, h4, h5, h6, h7, h8, h9, hO⟩ := id H
  obtain ⟨a, T', h', k1, b, kb, X', e', E, s2, s3, s4, s5, F1, F2, F3, F4, -, -, h7', -, hne, st'⟩ := RoadKit.ldcCH X H.exec h4 h5 w wS h1 h2 h3 hM.2.1 hmem h7.1 ht hz hl (g := mkF m pc L st) rfl (H.dec hd) hn hbig hc hl'
  exact Go.st st' (k T' h' a b kb (H.rebase hcw X' e' s2 s3 s4 s5 h6 h7 h7' h8 (hO.ext E)) E F1 F2 F3 F4 (fun x hx => hne x (h7'.safe (h8 x hx).1 (h8 x hx).2)))
theorem G.ldcO (H : Hs p l e R s m args below meth c Z a0 EL cw own n0 bytes maxL ret nm T h C S sf) (hcw : cw) (wS : ∀ a ∈ Bundle.stringAtoms, a.before a0 Z = true) {index : Nat} {text : String} (w : (Cond.stringLink own index text).before a0 Z = true) {n : Nat} (hn : 4 * text.toList.length ≤ n) (hbig : n ≤ 536870912) (hc : C + 2 ≤ R.cells) (hl' : S + (n + 4) ≤ R.slots) {pc pc' : Nat} {L : Array Slot} {st : List Value} (hd : decode bytes pc = .ok (.ldc index, 2)) (hp : pc + 2 = pc')
    (k : ∀ T' h' a, Hs p l e R s m args below meth c Z a0 EL cw own n0 bytes maxL ret nm T' h' (C + 2) (S + (n + 4)) sf → Ext h h' → Go p e below P (T'.setTop (mkF m pc' L (.ref a :: st)))) : Go p e below P (T.setTop (mkF m pc L st)) := by
  subst hp
  obtain ⟨hM, vm0, k0, locs, X, h1, h2, h3, h4, h5, h6, h7, h8, h9, hO⟩ := id H
  obtain ⟨a, T', h', k1, X', e', E, s2, s3, s4, s5, h7', -, st'⟩ := RoadKit.ldcOH X H.exec h4 h5 w wS h1 h2 h3 hM.2.1 h7.1 (g := mkF m pc L st) rfl (H.dec hd) hn hbig hc hl'
  exact Go.st st' (k T' h' a (H.rebase hcw X' e' s2 s3 s4 s5 h6 h7 h7' h8 (hO.ext E)) E)
/-! ## the end of a method -/
def FinP (s : State) (below : List Frame) (Z : State) (EL : List (String × Nat)) (cw : Prop) (n0 Cm Sm : Nat) (Q : Option Value → Heap → List Addr → Prop) : State → Outcome → Prop := fun u o =>
  u.status = .running ∧ Ended u below o ∧ ∃ v L so, o = .returned v ∧ Q v u.heap so ∧ Old Z n0 u.heap ∧ Fr n0 L ∧ CHr Z EL s.vm s.heap u.vm u.heap ∧ (∀ x ∈ so, x < u.heap.size ∧ Safe Z EL u.vm u.heap x) ∧ ReturnedEndW s o u L Cm Sm ∧ (cw ∨ FrameEnd s o u L Cm Sm)
theorem Hs.leave (H : Hs p l e R s m args below meth c Z a0 EL cw own n0 bytes maxL ret nm T h C S sf) {Cm Sm : Nat} {Q : Option Value → Heap → List Addr → Prop} {v : Option Value} {so : List Addr} (hv : ret = none → v = none) (hQ : Q v h so) (hso : ∀ x ∈ so, x ∈ sf) (hC : C ≤ Cm) (hS : S ≤ Sm) :
    ∃ fs, (∀ (f : JFrame) (acts : List Action), f.method = m → f.locked = none → f.entered = [] → (doReturn e (T.setTop f) acts v).1 = T.setFrames fs) ∧ FinP s below Z EL cw n0 Cm Sm Q (T.setFrames fs) (.returned v) := by
  obtain ⟨hM, vm0, k0, locs, X, h1, h2, h3, h4, h5, h6, h7, h8, h9, hO⟩ := H
  obtain ⟨-, hEL, -, -, hret, hlocks, -, -⟩ := hM
  obtain ⟨fs, hr, hrun, hended, hW, hsame⟩ := X.leave (v := v) (fun q => hv (hret.symm.trans q)) hlocks
  have hk : k0 ≤ (T.setFrames fs).heap.size := by show k0 ≤ T.heap.size; rw [h1]; exact h3
  obtain ⟨w1, w2, w3⟩ := h2.ended (U := T.setFrames fs) hW hk hsame
  have A := CHv.at X h4 hEL h7.1
  refine ⟨fs, hr, hrun, hended, v, locs, so, rfl, ?_, ?_, h6, ?_, ?_, ⟨⟨v, rfl⟩, w1, w2, w3.mono hC hS⟩, ?_⟩
  · show Q v T.heap so; rw [h1]; exact hQ
  · show Old Z n0 T.heap; rw [h1]; exact hO
  · show CHr Z EL s.vm s.heap T.vm T.heap; rw [h1]; exact h7.trans A
  · intro x hx
    show x < T.heap.size ∧ Safe Z EL T.vm T.heap x
    rw [h1]; exact ⟨(h8 x (hso x hx)).1, A.safe (h8 x (hso x hx)).1 (h8 x (hso x hx)).2⟩
  · exact h9.imp id (fun q => ⟨⟨v, rfl⟩, State.WarmedH.trans (t := s.setVm vm0) q hW, w3.mono hC hS⟩)
theorem G.retG (H : Hs p l e R s m args below meth c Z a0 EL cw own n0 bytes maxL ret nm T h C S sf) {Cm Sm : Nat} {Q : Option Value → Heap → List Addr → Prop} {so : List Addr} {pc : Nat} {L : Array Slot} {w : Value} {t : FieldType} {i : Instr} {rest : List Value} (hret : ret = some t) (hn : narrow t w = w)
    (hi : (i = .ireturn ∧ (t = .int ∨ t = .boolean ∨ t = .byte ∨ t = .char ∨ t = .short) ∧ ∃ z, w = .int z) ∨ (i = .lreturn ∧ t = .long ∧ ∃ z, w = .long z) ∨ (i = .dreturn ∧ t = .double ∧ ∃ z, w = .double z) ∨ (i = .freturn ∧ t = .float ∧ ∃ z, w = .float z) ∨ (i = .areturn ∧ t.isReference = true ∧ w.isRef = true))
    (hd : decode bytes pc = .ok (i, 1)) (hso : ∀ x ∈ so, x ∈ sf) (hC : C ≤ Cm) (hS : S ≤ Sm) (hQ : Q (some w) h so) : Go p e below (FinP s below Z EL cw n0 Cm Sm Q) (T.setTop (mkF m pc L (w :: rest))) := by
  obtain ⟨fs, hr, hF⟩ := H.leave (Q := Q) (v := some w) (Cm := Cm) (Sm := Sm) (fun q => by rw [hret] at q; cases q) hQ hso hC hS
  obtain ⟨hM, vm0, k0, locs, X, -⟩ := id H
  exact ⟨_, _, retOut X H.exec (hM.2.2.2.2.1.trans hret) hn hi (H.dec hd) hr, hF⟩
theorem G.retI (H : Hs p l e R s m args below meth c Z a0 EL cw own n0 bytes maxL ret nm T h C S sf) {Cm Sm : Nat} {Q : Option Value → Heap → List Addr → Prop} {so : List Addr} {pc : Nat} {L : Array Slot} {z : Int32} {rest : List Value} (hret : ret = some .int) (hd : decode bytes pc = .ok (.ireturn, 1)) (hso : ∀ x ∈ so, x ∈ sf) (hC : C ≤ Cm) (hS : S ≤ Sm) (hQ : Q (some (.int z)) h so) : Go p e below (FinP s below Z EL cw n0 Cm Sm Q) (T.setTop (mkF m pc L (.int z :: rest))) :=
  G.retG H hret rfl (Or.inl ⟨rfl, Or.inl rfl, z, rfl⟩) hd hso hC hS hQ
theorem G.retN (H : Hs p l e R s m args below meth c Z a0 EL cw own n0 bytes maxL ret nm T h C S sf) {Cm Sm : Nat} {Q : Option Value → Heap → List Addr → Prop} {so : List Addr} {pc : Nat} {L : Array Slot} {z : Int32} {t : FieldType} {rest : List Value} (hret : ret = some t) (ht : t = .boolean ∨ t = .byte ∨ t = .char ∨ t = .short) (hd : decode bytes pc = .ok (.ireturn, 1)) (hso : ∀ x ∈ so, x ∈ sf) (hC : C ≤ Cm) (hS : S ≤ Sm) (hQ : Q (some (.int (nar t z))) h so) : Go p e below (FinP s below Z EL cw n0 Cm Sm Q) (T.setTop (mkF m pc L (.int z :: rest))) := by
  obtain ⟨fs, hr, hF⟩ := H.leave (Q := Q) (v := some (.int (nar t z))) (Cm := Cm) (Sm := Sm) (fun q => by rw [hret] at q; cases q) hQ hso hC hS
  obtain ⟨hM, vm0, k0, locs, X, -⟩ := id H
  exact ⟨_, _, RoadKit.retN X H.exec (hM.2.2.2.2.1.trans hret) ht (H.dec hd) hr, hF⟩
theorem G.retA (H : Hs p l e R s m args below meth c Z a0 EL cw own n0 bytes maxL ret nm T h C S sf) {Cm Sm : Nat} {Q : Option Value → Heap → List Addr → Prop} {so : List Addr} {pc : Nat} {L : Array Slot} {w : Value} {t : FieldType} {rest : List Value} (hret : ret = some t) (ht : t.isReference = true) (hw : w.isRef = true) (hd : decode bytes pc = .ok (.areturn, 1)) (hso : ∀ x ∈ so, x ∈ sf) (hC : C ≤ Cm) (hS : S ≤ Sm) (hQ : Q (some w) h so) : Go p e below (FinP s below Z EL cw n0 Cm Sm Q) (T.setTop (mkF m pc L (w :: rest))) :=
  G.retG H hret (by rcases ref_cases hw with rfl | ⟨a, rfl⟩ <;> cases t <;> first | rfl | cases ht) (Or.inr (Or.inr (Or.inr (Or.inr ⟨rfl, ht, hw⟩)))) hd hso hC hS hQ
theorem G.retV (H : Hs p l e R s m args below meth c Z a0 EL cw own n0 bytes maxL ret nm T h C S sf) {Cm Sm : Nat} {Q : Option Value → Heap → List Addr → Prop} {so : List Addr} {pc : Nat} {L : Array Slot} (hret : ret = none) (hd : decode bytes pc = .ok (.return_, 1)) (hso : ∀ x ∈ so, x ∈ sf) (hC : C ≤ Cm) (hS : S ≤ Sm) (hQ : Q none h so) : Go p e below (FinP s below Z EL cw n0 Cm Sm Q) (T.setTop (mkF m pc L [])) := by
  obtain ⟨fs, hr, hF⟩ := H.leave (Q := Q) (v := none) (Cm := Cm) (Sm := Sm) (fun _ => rfl) hQ hso hC hS
  obtain ⟨hM, vm0, k0, locs, X, -⟩ := id H
  exact ⟨_, _, X.returnOut H.exec (hM.2.2.2.2.1.trans hret) (H.dec hd) hr, hF⟩
/-! ## a method's contract -/
def Met (Z : State) (a0 : Array Value) (EL : List (String × Nat)) (cw : Prop) (n0 : Nat) (l : Launch) (y : MethodName) (bytes : ByteArray) (maxL : Nat) (ret : Option FieldType) (rm : Room) (as' : Array Value) (h : Heap) (sfI : List Addr) (Q : Option Value → Heap → List Addr → Prop) : Prop :=
  ∀ ws, MetFree l y (head1 (Cond.code y bytes maxL ret :: ws) rm) (fun a U => a = as' ∧ Z.Warmed39 U.vm ∧ U.heap = h ∧ CHv Z EL U.vm h ∧ ∀ x ∈ sfI, x < h.size ∧ Safe Z EL U.vm h x) (fun _ _ _ _ _ => True)
    (fun _ U o U' => ∃ v L so, o = .returned v ∧ Q v U'.heap so ∧ Old Z n0 U'.heap ∧ Fr n0 L ∧ CHr Z EL U.vm U.heap U'.vm U'.heap ∧ (∀ x ∈ so, x < U'.heap.size ∧ Safe Z EL U'.vm U'.heap x) ∧ ReturnedEndW U o U' L rm.cells rm.slots ∧ (cw ∨ FrameEnd U o U' L rm.cells rm.slots))
theorem Met.of {y : MethodName} {rm : Room} {as' : Array Value} {sfI : List Addr} {Q : Option Value → Heap → List Addr → Prop} {L0 : Array Slot} (hEL : EW Z a0 EL) (hpn : plainFor y = true) (hO : Old Z n0 h) (hL : Jvm.Sym.laidSlots as'.toList ++ List.replicate (maxL - (Jvm.Sym.laidSlots as'.toList).length) .unset = L0.toList)
    (body : ∀ (p : Program) (e : Env) (s : State) (m : MethodId) (below : List Frame) (meth : Method) (c : Code) (T : State), Hs p l e rm s m as' below meth c Z a0 EL cw y.cls n0 bytes maxL ret y.name T h 0 0 sfI → Go p e below (FinP s below Z EL cw n0 rm.cells rm.slots Q) (T.setTop (mkF m 0 L0 []))) : Met Z a0 EL cw n0 l y bytes maxL ret rm as' h sfI Q := by
  intro ws
  refine MetFree.of_bodySF hpn hisR ?_
  intro p e s m args below meth c s₁ Bd hml hP hK
  obtain ⟨rfl, hZ, hh, hC, hs⟩ := hP
  have X0 : Stand p l e rm (s.setVm s.vm) m args below meth c s₁ [] 0 0 := Stand.of_body Bd
  have e0 : s₁.heap = h := by rw [← hh, Bd.state]; rfl
  have H : Hs p l e rm s m args below meth c Z a0 EL cw y.cls n0 bytes maxL ret y.name s₁ h 0 0 sfI :=
    ⟨⟨Bd.exec, hEL, Bd.bytes, hml, Bd.returns, Bd.notSynchronized, (name_of_methodNamed Bd.named Bd.method).1, by rw [hh, ← hO.1]; exact hO.2.1⟩, s.vm, s.heap.size, [], X0, e0, (State.WarmedH.refl s).since _, by rw [hh]; exact Nat.le_refl _, hZ, findClass_of_methodNamed Bd.named, Fr.nil n0, by rw [hh]; exact CHr.refl hC, hs, Or.inr (State.WarmedH.refl s), hO⟩
  obtain ⟨u, o, h1, h2, h3, v, L, so, r1, r2, rO, r3, r4, r5, r6, r7⟩ := body p e s m below meth c s₁ H
  exact ⟨u, o, (XT.entry hL).trans h1, h2, h3, v, L, so, r1, r2, rO, r3, r4, r5, r6, r7⟩
theorem Met.backS {y : MethodName} {rm : Room} {as' : Array Value} {sfI : List Addr} {Q : Option Value → Heap → List Addr → Prop} {vm0 : Vm} {len W : Nat} (M : Met Z a0 EL cw n0 l y bytes maxL ret rm as' h sfI Q) (hEL : EW Z a0 EL) (hZ : Z.Warmed39 vm0) (wc : (Cond.code y bytes maxL ret).before a0 Z = true) (wz : (Cond.initialized y.cls).before a0 Z = true) (hf : rm.frames + 1 ≤ R.frames) (hl : W + (maxL + 11) + rm.locals ≤ R.locals) (H : CHv Z EL vm0 h) (hs : ∀ x ∈ sfI, x < h.size ∧ Safe Z EL vm0 h x) :
    BackS l R p e below (s.setVm vm0) args y len W (fun A a => a = as' ∧ A.U.heap = h ∧ A.cells + rm.cells ≤ R.cells ∧ A.slots + rm.slots ≤ R.slots)
      (fun A _ v B => ∃ L so, Q v B.U.heap so ∧ Old Z n0 B.U.heap ∧ Fr n0 L ∧ B.locs = A.locs ++ L ∧ B.cells = A.cells + rm.cells ∧ B.slots = A.slots + rm.slots ∧ CHr Z EL vm0 h B.U.vm B.U.heap ∧ (∀ x ∈ so, x < B.U.heap.size ∧ Safe Z EL B.U.vm B.U.heap x) ∧ (cw ∨ (s.setVm vm0).WarmedH B.U.vm)) :=
  BackS.of_freeW (bytes := bytes) (maxL := maxL) (ret := ret)
    (E := fun _ first o t L k n => k = rm.cells ∧ n = rm.slots ∧ ∃ v so, o = .returned v ∧ Q v t.heap so ∧ Old Z n0 t.heap ∧ Fr n0 L ∧ CHr Z EL first.vm first.heap t.vm t.heap ∧ (∀ x ∈ so, x < t.heap.size ∧ Safe Z EL t.vm t.heap x) ∧ (cw ∨ first.WarmedH t.vm))
    (M []) hf hl
    (fun m meth c A a Y hp => have hU : Z.Warmed39 A.U.vm := wtrans (s := s.setVm vm0) hZ Y.warmed
      ⟨by show (Cond.and _ .tt).before a A.U = true; rw [Cond.before_and, mv hU wc]; rfl, mv hU wc, mv hU wz, hp.2.2.1, hp.2.2.2⟩)
    (fun m meth c A a g mk Y hp => by
      have A1 := CHv.at Y hZ hEL H
      exact ⟨hp.1, wtrans (s := s.setVm vm0) hZ Y.warmed, hp.2.1, A1.1, fun x hx => ⟨(hs x hx).1, A1.safe (hs x hx).1 (hs x hx).2⟩⟩)
    (fun _ _ _ _ _ _ _ _ _ => trivial)
    (fun _ _ _ _ ⟨v, L, so, h1, h2, hO, h3, h4, h5, h6, h7⟩ => ⟨L, _, _, h6, rfl, rfl, v, so, h1, h2, hO, h3, h4, h5, h7.imp id (fun q => q.2.1)⟩)
    (fun m meth c A a g mk v t L k n Y hp _ _ ⟨e1, e2, v', so, e3, e4, eO, e5, e6, e7, e8⟩ => by
      cases e3; subst e1 e2
      refine ⟨L, so, e4, eO, e5, rfl, rfl, rfl, (CHv.at Y hZ hEL H).trans ?_, e7, e8.imp id (fun q => State.WarmedH.trans (t := A.U) Y.warmed q)⟩
      rw [← hp.2.1]; exact e6)
/-- behind a call -/
theorem Hs.behind {vm0 vm₁ : Vm} {k0 : Nat} {locs : List Loc} {B : Pt} {L' : List Loc} {so : List Addr} {kc ks : Nat} (H : Hs p l e R s m args below meth c Z a0 EL cw own n0 bytes maxL ret nm T h C S sf) (h2 : s.Since vm0 k0) (h3 : k0 ≤ h.size) (h4 : Z.Warmed39 vm0) (h5 : vm0.findClass own = some m.cls) (h6 : Fr n0 locs) (h7 : CHr Z EL s.vm s.heap vm0 h) (h8 : ∀ x ∈ sf, x < h.size ∧ Safe Z EL vm0 h x) (h9 : cw ∨ s.WarmedH vm0)
    (X' : Stand p l e R ((s.setVm vm0).setVm B.U.vm) m args below meth c B.U B.locs B.cells B.slots) (hS : (s.setVm vm0).Since B.U.vm B.U.heap.size) (hg : h.size ≤ B.U.heap.size) (r1 : Fr n0 L') (r2 : B.locs = locs ++ L') (r3 : B.cells = C + kc) (r4 : B.slots = S + ks) (r5 : CHr Z EL vm0 h B.U.vm B.U.heap) (r6 : ∀ x ∈ so, x < B.U.heap.size ∧ Safe Z EL B.U.vm B.U.heap x) (r7 : cw ∨ (s.setVm vm0).WarmedH B.U.vm) (rO : Old Z n0 B.U.heap) : Hs p l e R s m args below meth c Z a0 EL cw own n0 bytes maxL ret nm B.U B.U.heap (C + kc) (S + ks) (so ++ sf) := by
  obtain ⟨Y, y1, y2, y3⟩ := rebS (Z := Z) (own := own) h2 h3 X' hS hg h4 h5
  refine ⟨H.1, B.U.vm, B.U.heap.size, B.locs, by rw [← r3, ← r4]; exact Y, rfl, y1, Nat.le_refl _, y2, y3, by rw [r2]; exact Fr.app h6 r1, h7.trans r5, fun x hx => ?_, ?_, rO⟩
  · rcases List.mem_append.mp hx with hx | hx
    · exact r6 x hx
    · exact ⟨Nat.lt_of_lt_of_le (h8 x hx).1 hg, r5.safe (h8 x hx).1 (h8 x hx).2⟩
  · rcases h9 with q | q
    · exact Or.inl q
    · exact r7.imp id (fun r => State.WarmedH.trans (t := s.setVm vm0) q r)
theorem G.callS (H : Hs p l e R s m args below meth c Z a0 EL cw own n0 bytes maxL ret nm T h C S sf) {y : MethodName} {yb : ByteArray} {ym : Nat} {yr : Option FieldType} {rm : Room} {as' : Array Value} {sfI : List Addr} {Q : Option Value → Heap → List Addr → Prop} (M : Met Z a0 EL cw n0 l y yb ym yr rm as' h sfI Q) {index : Nat} (w1 : (Cond.methodLink own index y).before a0 Z = true) (w2 : (Cond.static y).before a0 Z = true) (wz : (Cond.initialized y.cls).before a0 Z = true) (wc : (Cond.code y yb ym yr).before a0 Z = true) (hy : y.cls ≠ "java/lang/invoke/MethodHandle" ∧ y.cls ≠ "java/lang/invoke/VarHandle")
    {argsL rest st : List Value} {W : Nat} {pc pc' : Nat} {L : Array Slot} (hL : L.size = maxL) (has : argsL.toArray = as') (hlen : ∀ sig, parseMethodDescriptor y.desc = some sig → argsL.length = sig.parameters.length) (hst : st = argsL.reverse ++ rest) (hW : (rest.map fun v => v.category).sum = W) (hd : decode bytes pc = .ok (.invokestatic index, 3)) (hp : pc + 3 = pc') (hf : rm.frames + 1 ≤ R.frames) (hl : W + (ym + 11) + rm.locals ≤ R.locals) (hc : C + rm.cells ≤ R.cells) (hsl : S + rm.slots ≤ R.slots) (hsf : ∀ x ∈ sfI, x ∈ sf)
    (k : ∀ T' h' v so, Hs p l e R s m args below meth c Z a0 EL cw own n0 bytes maxL ret nm T' h' (C + rm.cells) (S + rm.slots) (so ++ sf) → Q v h' so → Go p e below P (T'.setTop (mkF m pc' L (v.toList ++ rest)))) : Go p e below P (T.setTop (mkF m pc L st)) := by
  subst hp; subst has
  obtain ⟨hM, vm0, k0, locs, X, h1, h2, h3, h4, h5, h6, h7, h8, h9, hO⟩ := id H
  obtain ⟨v, vm₁, B, hw, X', hS, hg, ⟨L', so, q1, rO, r1, r2, r3, r4, r5, r6, r7⟩, st'⟩ := RoadKit.callSS X H.exec h5 (mvT (s := s.setVm vm0) h4 w1) (mvT (s := s.setVm vm0) h4 w2) (mvT (s := s.setVm vm0) h4 wz) (mvT (s := s.setVm vm0) h4 wc) hy (M.backS (W := W) hM.2.1 h4 wc wz hf hl h7.1 (fun x hx => h8 x (hsf x hx))) (g := mkF m pc L st) rfl (by rw [hM.2.2.2.1]; exact hL) hlen hst (by show 2 * 0 + _ ≤ _; omega) (H.dec hd) (fun _ _ => ⟨rfl, h1, hc, hsl⟩)
  rw [h1] at hg
  exact Go.tr st' (k _ _ v so (H.behind (vm₁ := vm₁) h2 h3 h4 h5 h6 h7 h8 h9 X' hS hg r1 r2 r3 r4 r5 r6 r7 rO) q1)
theorem G.callI (H : Hs p l e R s m args below meth c Z a0 EL cw own n0 bytes maxL ret nm T h C S sf) {y : MethodName} {yb : ByteArray} {ym : Nat} {rm : Room} {as' : Array Value} {sfI : List Addr} {Q : Option Value → Heap → List Addr → Prop} (M : Met Z a0 EL cw n0 l y yb ym none rm as' h sfI Q) {index : Nat} (hy1 : y.name = "<init>") (w1 : (Cond.methodLink own index y).before a0 Z = true) (w2 : (Cond.instanceMethod y).before a0 Z = true) (wz : (Cond.initialized y.cls).before a0 Z = true) (wc : (Cond.code y yb ym none).before a0 Z = true) (hy : y.cls ≠ "java/lang/invoke/MethodHandle" ∧ y.cls ≠ "java/lang/invoke/VarHandle")
    {a : Addr} {argsL rest st : List Value} {W : Nat} {pc pc' : Nat} {L : Array Slot} (hL : L.size = maxL) (has : (Value.ref a :: argsL).toArray = as') (hlen : ∀ sig, parseMethodDescriptor y.desc = some sig → argsL.length = sig.parameters.length) (hst : st = argsL.reverse ++ .ref a :: rest) (hW : (rest.map fun v => v.category).sum = W) (hd : decode bytes pc = .ok (.invokespecial index, 3)) (hp : pc + 3 = pc') (hf : rm.frames + 1 ≤ R.frames) (hl : W + (ym + 11) + rm.locals ≤ R.locals) (hc : C + rm.cells ≤ R.cells) (hsl : S + rm.slots ≤ R.slots) (hsf : ∀ x ∈ sfI, x ∈ sf)
    (k : ∀ T' h' v so, Hs p l e R s m args below meth c Z a0 EL cw own n0 bytes maxL ret nm T' h' (C + rm.cells) (S + rm.slots) (so ++ sf) → Q v h' so → Go p e below P (T'.setTop (mkF m pc' L (v.toList ++ rest)))) : Go p e below P (T.setTop (mkF m pc L st)) := by
  subst hp; subst has
  obtain ⟨hM, vm0, k0, locs, X, h1, h2, h3, h4, h5, h6, h7, h8, h9, hO⟩ := id H
  obtain ⟨v, vm₁, B, hw, X', hS, hg, ⟨L', so, q1, rO, r1, r2, r3, r4, r5, r6, r7⟩, st'⟩ := X.specialBackS H.exec hy1 h5 (mvT (s := s.setVm vm0) h4 w1) (mvT (s := s.setVm vm0) h4 w2) (mvT (s := s.setVm vm0) h4 wc) hy (M.backS (W := W) hM.2.1 h4 wc wz hf hl h7.1 (fun x hx => h8 x (hsf x hx))) (g := mkF m pc L st) rfl (by rw [hM.2.2.2.1]; exact hL) (Steps.refl _) (a := a) hlen hst (by show 2 * 0 + _ ≤ _; omega) (H.dec hd) (fun _ _ => ⟨rfl, h1, hc, hsl⟩)
  rw [h1] at hg
  exact Go.tr st' (k _ _ v so (H.behind (vm₁ := vm₁) h2 h3 h4 h5 h6 h7 h8 h9 X' hS hg r1 r2 r3 r4 r5 r6 r7 rO) q1)
theorem G.callV (H : Hs p l e R s m args below meth c Z a0 EL cw own n0 bytes maxL ret nm T h C S sf) {y z : MethodName} {D : String} {yb : ByteArray} {ym : Nat} {yr : Option FieldType} {rm : Room} {as' : Array Value} {sfI : List Addr} {Q : Option Value → Heap → List Addr → Prop} (M : Met Z a0 EL cw n0 l z yb ym yr rm as' h sfI Q) {index : Nat} (w1 : (Cond.methodLink own index y).before a0 Z = true) (w2 : (Cond.declares y).before a0 Z = true) (wn : ∀ s' : State, Z.Warmed39 s'.vm → NotFace s' y) (w3 : (Cond.selects D y z).before a0 Z = true) (w4 : (Cond.instanceMethod z).before a0 Z = true) (wz : (Cond.initialized z.cls).before a0 Z = true) (wc : (Cond.code z yb ym yr).before a0 Z = true) (hy : y.cls ≠ "java/lang/invoke/MethodHandle" ∧ y.cls ≠ "java/lang/invoke/VarHandle")
    {a : Addr} (E : Exa Z h a D) {argsL rest st : List Value} {W : Nat} {pc pc' : Nat} {L : Array Slot} (hL : L.size = maxL) (has : (Value.ref a :: argsL).toArray = as') (hlen : ∀ sig, parseMethodDescriptor y.desc = some sig → argsL.length = sig.parameters.length) (hst : st = argsL.reverse ++ .ref a :: rest) (hW : (rest.map fun v => v.category).sum = W) (hd : decode bytes pc = .ok (.invokevirtual index, 3)) (hp : pc + 3 = pc') (hf : rm.frames + 1 ≤ R.frames) (hl : W + (ym + 11) + rm.locals ≤ R.locals) (hc : C + rm.cells ≤ R.cells) (hsl : S + rm.slots ≤ R.slots) (hsf : ∀ x ∈ sfI, x ∈ sf)
    (k : ∀ T' h' v so, Hs p l e R s m args below meth c Z a0 EL cw own n0 bytes maxL ret nm T' h' (C + rm.cells) (S + rm.slots) (so ++ sf) → Q v h' so → Go p e below P (T'.setTop (mkF m pc' L (v.toList ++ rest)))) : Go p e below P (T.setTop (mkF m pc L st)) := by
  subst hp; subst has
  obtain ⟨hM, vm0, k0, locs, X, h1, h2, h3, h4, h5, h6, h7, h8, h9, hO⟩ := id H
  obtain ⟨cq, kq, qa, qb, qc⟩ := isOf (s := s.setVm vm0) h4 h1 E
  obtain ⟨v, vm₁, B, hw, X', hS, hg, ⟨L', so, q1, rO, r1, r2, r3, r4, r5, r6, r7⟩, st'⟩ := X.virtualBackS H.exec h5 (mvT (s := s.setVm vm0) h4 w1) (mvT (s := s.setVm vm0) h4 w2) (wn (s.setVm vm0) h4) (mvT (s := s.setVm vm0) h4 w3) (mvT (s := s.setVm vm0) h4 w4) hy (M.backS (W := W) hM.2.1 h4 wc wz hf hl h7.1 (fun x hx => h8 x (hsf x hx))) qa qc (g := mkF m pc L st) rfl (by rw [hM.2.2.2.1]; exact hL) (Steps.refl _) hlen hst (by show 2 * 0 + _ ≤ _; omega) (H.dec hd) (fun _ _ => ⟨rfl, h1, hc, hsl⟩)
  rw [h1] at hg
  exact Go.tr st' (k _ _ v so (H.behind (vm₁ := vm₁) h2 h3 h4 h5 h6 h7 h8 h9 X' hS hg r1 r2 r3 r4 r5 r6 r7 rO) q1)
theorem nf_sel {y : MethodName} {D : String} (w : (Cond.selects D y y).before a0 Z = true) : ∀ s' : State, Z.Warmed39 s'.vm → NotFace s' y := fun s' hZ => notFace_of_selects (args := #[]) (mvT (s := s') hZ w)
/-! ## numbers -/
theorem own_and255 (x : Int32) : ¬ (x &&& 255) < 0 ∧ ¬ (255 : Int32) < (x &&& 255) := by
  have h : (x &&& 255).toBitVec.toNat < 256 := by
    simp only [Int32.toBitVec_and, BitVec.toNat_and]
    exact Nat.lt_succ_of_le Nat.and_le_right
  have h2 : (x &&& 255).toInt = ((x &&& 255).toBitVec.toNat : Int) := by
    show (x &&& 255).toBitVec.toInt = _
    rw [BitVec.toInt_eq_toNat_of_lt (by omega)]
  rw [Int32.lt_iff_toInt_lt, Int32.lt_iff_toInt_lt, h2]
  have e0 : (0 : Int32).toInt = 0 := rfl
  have e1 : (255 : Int32).toInt = 255 := rfl
  omega
theorem own_u16 {x : Int32} (h : ¬ x < 0 ∧ ¬ (255 : Int32) < x) : ¬ x < 0 ∧ ¬ (65535 : Int32) < x := by
  obtain ⟨h0, h1⟩ := h
  rw [Int32.lt_iff_toInt_lt] at h0 h1
  refine ⟨by rw [Int32.lt_iff_toInt_lt]; exact h0, ?_⟩
  rw [Int32.lt_iff_toInt_lt]
  have e1 : (255 : Int32).toInt = 255 := rfl
  have e2 : (65535 : Int32).toInt = 65535 := rfl
  omega
theorem own_c16 {x : Int32} (h : ¬ x < 0 ∧ ¬ (65535 : Int32) < x) : x.toUInt32.toUInt16.toUInt32.toInt32 = x := by
  obtain ⟨h0, h1⟩ := h
  rw [Int32.lt_iff_toInt_lt] at h0 h1
  have e0 : (0 : Int32).toInt = 0 := rfl
  have e2 : (65535 : Int32).toInt = 65535 := rfl
  have hb : x.toBitVec.toNat < 65536 := by
    have q : x.toBitVec.toInt = x.toInt := rfl
    have r := BitVec.toInt_eq_toNat_cond x.toBitVec
    split at r <;> omega
  apply Int32.toBitVec_inj.mp
  apply BitVec.eq_of_toNat_eq
  have e : x.toUInt32.toUInt16.toUInt32.toInt32.toBitVec.toNat = x.toUInt32.toUInt16.toUInt32.toNat := rfl
  rw [e, UInt16.toNat_toUInt32, UInt32.toNat_toUInt16]
  show x.toBitVec.toNat % 2 ^ 16 = _
  omega
theorem own_narC {x : Int32} (h : ¬ x < 0 ∧ ¬ (65535 : Int32) < x) : nar .char x = x := own_c16 h
theorem own_bool {x : Int32} (h : x = 0 ∨ x = 1) : nar .boolean x = x := by rcases h with rfl | rfl <;> rfl
theorem own_and255L (x : Int64) : ¬ (x &&& 255).toInt32 < 0 ∧ ¬ (255 : Int32) < (x &&& 255).toInt32 := by
  have h : (x &&& 255).toBitVec.toNat < 256 := by
    simp only [Int64.toBitVec_and, BitVec.toNat_and]
    exact Nat.lt_succ_of_le Nat.and_le_right
  have h1 : (x &&& 255).toInt32.toBitVec.toNat = (x &&& 255).toBitVec.toNat := by
    rw [Int64.toBitVec_toInt32, BitVec.signExtend_eq_setWidth_of_le _ (by decide), BitVec.toNat_setWidth]
    exact Nat.mod_eq_of_lt (by omega)
  have h2 : (x &&& 255).toInt32.toInt = ((x &&& 255).toInt32.toBitVec.toNat : Int) := by
    show (x &&& 255).toInt32.toBitVec.toInt = _
    rw [BitVec.toInt_eq_toNat_of_lt (by omega)]
  rw [Int32.lt_iff_toInt_lt, Int32.lt_iff_toInt_lt, h2, h1]
  have e0 : (0 : Int32).toInt = 0 := rfl
  have e1 : (255 : Int32).toInt = 255 := rfl
  omega
theorem own_rem {x : Int32} {k : Int32} (hk : 0 < k.toInt) : 0 ≤ ((x &&& 2147483647) % k).toInt ∧ ((x &&& 2147483647) % k).toInt < k.toInt := by
  have h : (x &&& 2147483647).toBitVec.toNat < 2 ^ 31 := by
    simp only [Int32.toBitVec_and, BitVec.toNat_and]
    exact Nat.lt_of_le_of_lt Nat.and_le_right (by decide)
  have h2 : (x &&& 2147483647).toInt = ((x &&& 2147483647).toBitVec.toNat : Int) := by
    show (x &&& 2147483647).toBitVec.toInt = _
    rw [BitVec.toInt_eq_toNat_of_lt (by omega)]
  rw [Int32.toInt_mod, h2]
  exact ⟨Int.tmod_nonneg _ (by omega), Int.tmod_lt_of_pos _ hk⟩
theorem own_andn (x k : Int32) (n : Nat) (hn : k.toBitVec.toNat = n) (h31 : n < 2 ^ 31) : 0 ≤ (x &&& k).toInt ∧ (x &&& k).toInt ≤ n := by
  have h : (x &&& k).toBitVec.toNat ≤ n := by
    simp only [Int32.toBitVec_and, BitVec.toNat_and]
    rw [← hn]; exact Nat.and_le_right
  have h2 : (x &&& k).toInt = ((x &&& k).toBitVec.toNat : Int) := by
    show (x &&& k).toBitVec.toInt = _
    rw [BitVec.toInt_eq_toNat_of_lt (by omega)]
  rw [h2]; omega
theorem own_and3 (x : Int32) : x &&& 3 = 0 ∨ x &&& 3 = 1 ∨ x &&& 3 = 2 ∨ x &&& 3 = 3 := by
  obtain ⟨h1, h2⟩ := own_andn x 3 3 rfl (by decide)
  generalize x &&& 3 = k at h1 h2
  have key : ∀ j : Int32, k.toInt = j.toInt → k = j := fun j h => Int32.toInt_inj.mp h
  have hs : k.toInt = 0 ∨ k.toInt = 1 ∨ k.toInt = 2 ∨ k.toInt = 3 := by omega
  rcases hs with h | h | h | h
  · exact Or.inl (key 0 h)
  · exact Or.inr (Or.inl (key 1 h))
  · exact Or.inr (Or.inr (Or.inl (key 2 h)))
  · exact Or.inr (Or.inr (Or.inr (key 3 h)))
theorem own_b8 {x k : Int32} (h : ¬ x < 0 ∧ ¬ (255 : Int32) < x) (hk : ¬ k < 0 ∧ ¬ (127 : Int32) < k) : x.toInt8.toInt32 = k ↔ x = k := by
  have t : ∀ j : Fin 256, ∀ i : Fin 128, (Int32.ofNat j.val).toInt8.toInt32 = Int32.ofNat i.val → j.val = i.val := by decide +kernel
  have nat : ∀ y : Int32, ¬ y < 0 → ∃ n : Nat, y.toInt = n ∧ y = Int32.ofNat n := fun y hy => by
    rw [Int32.lt_iff_toInt_lt] at hy
    have e0 : (0 : Int32).toInt = 0 := rfl
    have hb := y.toInt_lt
    obtain ⟨n, hn⟩ : ∃ n : Nat, y.toInt = n := ⟨y.toInt.toNat, by omega⟩
    exact ⟨n, hn, Int32.toInt_inj.mp (by rw [hn, Int32.toInt_ofNat_small (by omega)])⟩
  obtain ⟨n, hn, rfl⟩ := nat x h.1
  obtain ⟨i, hi, rfl⟩ := nat k hk.1
  have h1 := h.2; have k1 := hk.2
  rw [Int32.lt_iff_toInt_lt] at h1 k1
  have e1 : (255 : Int32).toInt = 255 := rfl
  have e2 : (127 : Int32).toInt = 127 := rfl
  constructor
  · intro q
    have := t ⟨n, by omega⟩ ⟨i, by omega⟩ q
    simp only at this
    rw [this]
  · intro q
    rw [q]
    have u : ∀ i : Fin 128, (Int32.ofNat i.val).toInt8.toInt32 = Int32.ofNat i.val := by decide +kernel
    exact u ⟨i, by omega⟩
theorem own_v3 (x : Int32) : (XT.ushr x 8 &&& 255) % 3 = 0 ∨ (XT.ushr x 8 &&& 255) % 3 = 1 ∨ (XT.ushr x 8 &&& 255) % 3 = 2 := by
  obtain ⟨a1, a2⟩ := own_andn (XT.ushr x 8) 255 255 rfl (by decide)
  generalize XT.ushr x 8 &&& 255 = y at a1 a2
  have h1 : 0 ≤ (y % 3).toInt ∧ (y % 3).toInt < 3 := by
    rw [Int32.toInt_mod]
    exact ⟨Int.tmod_nonneg _ a1, Int.tmod_lt_of_pos _ (by decide)⟩
  obtain ⟨h1, h2⟩ := h1
  generalize y % 3 = k at h1 h2
  have key : ∀ j : Int32, k.toInt = j.toInt → k = j := fun j h => Int32.toInt_inj.mp h
  have hs : k.toInt = 0 ∨ k.toInt = 1 ∨ k.toInt = 2 := by omega
  rcases hs with h | h | h
  · exact Or.inl (key 0 h)
  · exact Or.inr (Or.inl (key 1 h))
  · exact Or.inr (Or.inr (key 2 h))
/-! ## small words -/
theorem sto_of {a y : Addr} {kc : ClassId} {ty : FieldType} {z : Int32} {vs : List Value} {dv : Value} {K : String} (A : Arv Z h a kc ty z vs dv) (O : Ovr Z kc K) (I : Ins Z h y K true) : Sto Z h a (.ref y) := by
  obtain ⟨cl, Ar, q, -⟩ := A; exact Sto.ofV Ar q O I
theorem own_pnZ {x : Int32} (h : x = 0 ∨ x = 1) : narrow .boolean (.int x) = .int x := by rcases h with rfl | rfl <;> rfl
theorem own_pfZ {x : Int32} (h : x = 0 ∨ x = 1) : fits .boolean (.int x) = true := by rcases h with rfl | rfl <;> rfl
theorem own_pnC {x : Int32} (h : ¬ x < 0 ∧ ¬ (65535 : Int32) < x) : narrow .char (.int x) = .int x := by
  show Value.int (x.toUInt32.toUInt16.toUInt32.toInt32) = _; rw [own_c16 h]
theorem own_pfC {x : Int32} (h : ¬ x < 0 ∧ ¬ (65535 : Int32) < x) : fits .char (.int x) = true := by
  have q := fits_nar_char x; rw [own_narC h] at q; exact q
theorem own_pnA {v : Value} {ty : FieldType} (hv : v.isRef = true) (ht : ty.isReference = true) : narrow ty v = v := by
  rcases ref_cases hv with rfl | ⟨a, rfl⟩ <;> cases ty <;> first | rfl | cases ht
theorem own_pfA {v : Value} {ty : FieldType} (hv : v.isRef = true) (ht : ty.isReference = true) : fits ty v = true := by
  rcases ref_cases hv with rfl | ⟨a, rfl⟩ <;> cases ty <;> first | rfl | cases ht
theorem cb0 : ∀ c ∈ ([] : List Int32), ¬ c < 0 ∧ ¬ (255 : Int32) < c := fun _ q => nomatch q
theorem cbS {x : Int32} {xs : List Int32} (q : ¬ x < 0 ∧ ¬ (255 : Int32) < x) (r : ∀ c ∈ xs, ¬ c < 0 ∧ ¬ (255 : Int32) < c) : ∀ c ∈ x :: xs, ¬ c < 0 ∧ ¬ (255 : Int32) < c := fun c hc => by
  rcases List.mem_cons.mp hc with rfl | hc
  · exact q
  · exact r c hc
/-- a Latin-1 String and its bytes -/
def Str (Z : State) (h : Heap) (a t : Addr) (kb : ClassId) (cs : List Int32) : Prop :=
  Exa Z h a "java/lang/String" ∧ Fld Z h a "java/lang/String" "coder" "B" (.int 0) ∧ Fld Z h a "java/lang/String" "value" "[B" (.ref t) ∧ Arv Z h t kb .byte (Int32.ofNat cs.length) (cs.map fun c => Value.int c.toInt8.toInt32) (.int 0) ∧ (∀ c ∈ cs, ¬ c < 0 ∧ ¬ (255 : Int32) < c) ∧ cs.length ≤ 4000
theorem Str.ext {h' : Heap} {a t : Addr} {kb : ClassId} {cs : List Int32} (E : Ext h h') (F : Str Z h a t kb cs) : Str Z h' a t kb cs := ⟨F.1.ext E, F.2.1.ext E, F.2.2.1.ext E, F.2.2.2.1.ext E, F.2.2.2.2⟩
theorem Str.keep {h' : Heap} {a t : Addr} {kb : ClassId} {cs : List Int32} {ws : List Addr} (F : Str Z h a t kb cs) (K : Keep h h' ws) (q : a ∉ ws) (r : t ∉ ws) : Str Z h' a t kb cs := ⟨F.1.keep K, F.2.1.keep K q, F.2.2.1.keep K q, F.2.2.2.1.keep K r, F.2.2.2.2⟩
theorem Str.other {h' : Heap} {a t w : Addr} {sl : Nat} {v : Value} {kb : ClassId} {cs : List Int32} (W : Wr h h' w sl v) (F : Str Z h a t kb cs) (q : a ≠ w) (r : t ≠ w) : Str Z h' a t kb cs := ⟨F.1.wr W, F.2.1.other W (Or.inl q), F.2.2.1.other W (Or.inl q), F.2.2.2.1.other W r, F.2.2.2.2⟩
theorem own_fldeq {args : Array Value} {t : Term} {K n d : String} {i : Int32} {x : Addr} (ev : t.eval args Z none [] Z = some (.ref x)) (hq : (Cond.eq (Term.field t K n d) (Term.int i)).value args Z none Z [] = some true) : Fld Z Z.heap x K n d (.int i) := by
  obtain ⟨u, w, hu, hw, k1, k2⟩ := cmp_v (Or.inl hq)
  have e1 : (Term.int i).eval args Z none [] Z = some (.int i) := Term.int_eval i
  cases e1.symm.trans hw
  obtain ⟨z, rfl⟩ := k2
  have e2 : z = i := gotT (Cond.eq_ints hu e1) hq
  subst e2
  exact Fld.start ((fld_at ev).symm.trans hu)
theorem arv_tyne {a b : Addr} {k1 k2 : ClassId} {t1 t2 : FieldType} {z1 z2 : Int32} {v1 v2 : List Value} {d1 d2 : Value} (A : Arv Z h a k1 t1 z1 v1 d1) (B : Arv Z h b k2 t2 z2 v2 d2) (q : t1 ≠ t2) : a ≠ b := fun e => by
  subst e
  obtain ⟨c1, ⟨a1, ⟨a2, kA, a3, compA, a4⟩, -⟩, -⟩ := A
  obtain ⟨c2, ⟨b1, ⟨b2, kB, b3, compB, b4⟩, -⟩, -⟩ := B
  cases a1.symm.trans b1
  cases a3.symm.trans b3
  have := a4.symm.trans b4
  injection this with _ e
  exact q e
/-! ## a call that a law of the pasted kind pays, the heap as it was -/
theorem G.pureV (H : Hs p l e R s m args below meth c Z a0 EL cw own n0 bytes maxL ret nm T h C S sf) {y : MethodName} {D : String} {Qv : Option Value → Prop} {as' : Array Value} {W : Nat} (hB : ∀ s' : State, Z.Warmed39 s'.vm → Back l R p e below s' args y 3 W (fun P a => a = as' ∧ P.U.heap = h ∧ P.cells + 0 ≤ R.cells ∧ P.slots + 0 ≤ R.slots) (fun P _ v B => ∃ L, (Qv v ∧ L = [] ∧ B.U.heap = h) ∧ B.locs = P.locs ++ L ∧ B.cells = P.cells + 0 ∧ B.slots = P.slots + 0))
    {index : Nat} (w1 : (Cond.methodLink own index y).before a0 Z = true) (w2 : (Cond.declares y).before a0 Z = true) (w3 : (Cond.selects D y y).before a0 Z = true) (w4 : (Cond.instanceMethod y).before a0 Z = true) (hy : y.cls ≠ "java/lang/invoke/MethodHandle" ∧ y.cls ≠ "java/lang/invoke/VarHandle")
    {a : Addr} (E : Exa Z h a D) {argsL rest st : List Value} {pc pc' : Nat} {L : Array Slot} (hL : L.size = maxL) (has : (Value.ref a :: argsL).toArray = as') (hlen : ∀ sig, parseMethodDescriptor y.desc = some sig → argsL.length = sig.parameters.length) (hst : st = argsL.reverse ++ .ref a :: rest) (hW : (rest.map fun v => v.category).sum = W) (hd : decode bytes pc = .ok (.invokevirtual index, 3)) (hp : pc + 3 = pc') (hc : C ≤ R.cells) (hsl : S ≤ R.slots)
    (k : ∀ T' v, Hs p l e R s m args below meth c Z a0 EL cw own n0 bytes maxL ret nm T' h C S sf → Qv v → Go p e below P (T'.setTop (mkF m pc' L (v.toList ++ rest)))) : Go p e below P (T.setTop (mkF m pc L st)) := by
  subst hp; subst has
  obtain ⟨hM, vm0, k0, locs, X, h1, h2, h3, h4, h5, h6, h7, h8, h9, hO⟩ := id H
  obtain ⟨cq, kq, qa, qb, qc⟩ := isOf (s := s.setVm vm0) h4 h1 E
  obtain ⟨v, vm₁, B, hw, X', ⟨L', ⟨q1, q2, q3⟩, r2, r3, r4⟩, st'⟩ := X.virtualBack H.exec h5 (mvT (s := s.setVm vm0) h4 w1) (mvT (s := s.setVm vm0) h4 w2) (notFace_of_selects (args := #[]) (mvT (s := s.setVm vm0) h4 w3)) (mvT (s := s.setVm vm0) h4 w3) (mvT (s := s.setVm vm0) h4 w4) hy (hB (s.setVm vm0) h4) qa qc (g := mkF m pc L st) rfl (by rw [hM.2.2.2.1]; exact hL) (Steps.refl _) hlen hst (by show 2 * 0 + _ ≤ _; omega) (H.dec hd) (fun _ _ => ⟨rfl, h1, hc, hsl⟩)
  subst q2
  refine Go.tr st' (k B.U v ⟨hM, vm0, k0, locs, ?_, q3, h2, h3, h4, h5, h6, h7, h8, h9, hO⟩ q1)
  have e1 : B.locs = locs := by rw [r2]; exact List.append_nil _
  have e2 : B.cells = C := r3
  have e3 : B.slots = S := r4
  rw [← e1, ← e2, ← e3]; exact X'
/-! ## calls through an interface, of an inherited method, of a private one -/
theorem G.callF (H : Hs p l e R s m args below meth c Z a0 EL cw own n0 bytes maxL ret nm T h C S sf) {xi z : MethodName} {D : String} {yb : ByteArray} {ym : Nat} {yr : Option FieldType} {rm : Room} {as' : Array Value} {sfI : List Addr} {Q : Option Value → Heap → List Addr → Prop} (M : Met Z a0 EL cw n0 l z yb ym yr rm as' h sfI Q) {index : Nat} {count : Nat} (w1 : (Cond.methodLink own index xi).before a0 Z = true) (w2 : (Cond.declares xi).before a0 Z = true) (w5 : ∀ (s' : State) (aa : Array Value), Z.Warmed39 s'.vm → (Cond.interfaceMethod xi.cls xi.cls xi.name xi.desc).before aa s' = true) (w3 : (Cond.selects D xi z).before a0 Z = true) (w4 : (Cond.instanceMethod z).before a0 Z = true) (w6 : (Cond.publicMethod z).before a0 Z = true) (w7 : (Cond.unhidden D xi.name xi.desc).before a0 Z = true) (w8 : (Cond.castable D xi.cls).before a0 Z = true) (wz : (Cond.initialized z.cls).before a0 Z = true) (wc : (Cond.code z yb ym yr).before a0 Z = true) (hy : xi.cls ≠ "java/lang/invoke/MethodHandle" ∧ xi.cls ≠ "java/lang/invoke/VarHandle")
    {a : Addr} (E : Exa Z h a D) {argsL rest st : List Value} {W : Nat} {pc pc' : Nat} {L : Array Slot} (hL : L.size = maxL) (has : (Value.ref a :: argsL).toArray = as') (hlen : ∀ sig, parseMethodDescriptor xi.desc = some sig → argsL.length = sig.parameters.length) (hst : st = argsL.reverse ++ .ref a :: rest) (hW : (rest.map fun v => v.category).sum = W) (hd : decode bytes pc = .ok (.invokeinterface index count, 5)) (hp : pc + 5 = pc') (hf : rm.frames + 1 ≤ R.frames) (hl : W + (ym + 11) + rm.locals ≤ R.locals) (hc : C + rm.cells ≤ R.cells) (hsl : S + rm.slots ≤ R.slots) (hsf : ∀ x ∈ sfI, x ∈ sf)
    (k : ∀ T' h' v so, Hs p l e R s m args below meth c Z a0 EL cw own n0 bytes maxL ret nm T' h' (C + rm.cells) (S + rm.slots) (so ++ sf) → Q v h' so → Go p e below P (T'.setTop (mkF m pc' L (v.toList ++ rest)))) : Go p e below P (T.setTop (mkF m pc L st)) := by
  subst hp; subst has
  obtain ⟨hM, vm0, k0, locs, X, h1, h2, h3, h4, h5, h6, h7, h8, h9, hO⟩ := id H
  obtain ⟨cq, kq, qa, qb, qc⟩ := isOf (s := s.setVm vm0) h4 h1 E
  obtain ⟨v, vm₁, B, hw, X', hS, hg, ⟨L', so, q1, rO, r1, r2, r3, r4, r5, r6, r7⟩, st'⟩ := X.interfaceBackS H.exec h5 (mvT (s := s.setVm vm0) h4 w1) (mvT (s := s.setVm vm0) h4 w2) (w5 (s.setVm vm0) args h4) (mvT (s := s.setVm vm0) h4 w3) (mvT (s := s.setVm vm0) h4 w4) (mvT (s := s.setVm vm0) h4 w6) (mvT (s := s.setVm vm0) h4 w7) (mvT (s := s.setVm vm0) h4 w8) hy (M.backS (W := W) hM.2.1 h4 wc wz hf hl h7.1 (fun x hx => h8 x (hsf x hx))) qa qb qc (g := mkF m pc L st) rfl (by rw [hM.2.2.2.1]; exact hL) (Steps.refl _) hlen hst (by show 2 * 0 + _ ≤ _; omega) (H.dec hd) (fun _ _ => ⟨rfl, h1, hc, hsl⟩)
  rw [h1] at hg
  exact Go.tr st' (k _ _ v so (H.behind (vm₁ := vm₁) h2 h3 h4 h5 h6 h7 h8 h9 X' hS hg r1 r2 r3 r4 r5 r6 r7 rO) q1)

theorem G.callFU (H : Hs p l e R s m args below meth c Z a0 EL cw own n0 bytes maxL ret nm T h C S sf) {xi z : MethodName} {D J : String} {yb : ByteArray} {ym : Nat} {yr : Option FieldType} {rm : Room} {as' : Array Value} {sfI : List Addr} {Q : Option Value → Heap → List Addr → Prop} (M : Met Z a0 EL cw n0 l z yb ym yr rm as' h sfI Q) {index : Nat} {count : Nat} (w1 : (Cond.methodLink own index xi).before a0 Z = true) (w2 : (Cond.declares ⟨J, xi.name, xi.desc⟩).before a0 Z = true) (w9 : (Cond.publicMethod ⟨J, xi.name, xi.desc⟩).before a0 Z = true) (w5 : ∀ (s' : State) (aa : Array Value), Z.Warmed39 s'.vm → (Cond.interfaceMethod xi.cls J xi.name xi.desc).before aa s' = true) (hxo : xi.cls ≠ J) (w3 : (Cond.selects D xi z).before a0 Z = true) (w4 : (Cond.instanceMethod z).before a0 Z = true) (w6 : (Cond.publicMethod z).before a0 Z = true) (w7 : (Cond.unhidden D xi.name xi.desc).before a0 Z = true) (w8 : (Cond.castable D xi.cls).before a0 Z = true) (wz : (Cond.initialized z.cls).before a0 Z = true) (wc : (Cond.code z yb ym yr).before a0 Z = true) (hy : xi.cls ≠ "java/lang/invoke/MethodHandle" ∧ xi.cls ≠ "java/lang/invoke/VarHandle")
    {a : Addr} (E : Exa Z h a D) {argsL rest st : List Value} {W : Nat} {pc pc' : Nat} {L : Array Slot} (hL : L.size = maxL) (has : (Value.ref a :: argsL).toArray = as') (hlen : ∀ sig, parseMethodDescriptor xi.desc = some sig → argsL.length = sig.parameters.length) (hst : st = argsL.reverse ++ .ref a :: rest) (hW : (rest.map fun v => v.category).sum = W) (hd : decode bytes pc = .ok (.invokeinterface index count, 5)) (hp : pc + 5 = pc') (hf : rm.frames + 1 ≤ R.frames) (hl : W + (ym + 11) + rm.locals ≤ R.locals) (hc : C + rm.cells ≤ R.cells) (hsl : S + rm.slots ≤ R.slots) (hsf : ∀ x ∈ sfI, x ∈ sf)
    (k : ∀ T' h' v so, Hs p l e R s m args below meth c Z a0 EL cw own n0 bytes maxL ret nm T' h' (C + rm.cells) (S + rm.slots) (so ++ sf) → Q v h' so → Go p e below P (T'.setTop (mkF m pc' L (v.toList ++ rest)))) : Go p e below P (T.setTop (mkF m pc L st)) := by
  subst hp; subst has
  obtain ⟨hM, vm0, k0, locs, X, h1, h2, h3, h4, h5, h6, h7, h8, h9, hO⟩ := id H
  obtain ⟨cq, kq, qa, qb, qc⟩ := isOf (s := s.setVm vm0) h4 h1 E
  obtain ⟨v, vm₁, B, hw, X', hS, hg, ⟨L', so, q1, rO, r1, r2, r3, r4, r5, r6, r7⟩, st'⟩ := interfaceBackUpS X H.exec h5 (mvT (s := s.setVm vm0) h4 w1) (mvT (s := s.setVm vm0) h4 w2) (mvT (s := s.setVm vm0) h4 w9) (w5 (s.setVm vm0) args h4) hxo (mvT (s := s.setVm vm0) h4 w3) (mvT (s := s.setVm vm0) h4 w4) (mvT (s := s.setVm vm0) h4 w6) (mvT (s := s.setVm vm0) h4 w7) (mvT (s := s.setVm vm0) h4 w8) hy (M.backS (W := W) hM.2.1 h4 wc wz hf hl h7.1 (fun x hx => h8 x (hsf x hx))) qa qb qc (g := mkF m pc L st) rfl (by rw [hM.2.2.2.1]; exact hL) (Steps.refl _) hlen hst (by show 2 * 0 + _ ≤ _; omega) (H.dec hd) (fun _ _ => ⟨rfl, h1, hc, hsl⟩)
  rw [h1] at hg
  exact Go.tr st' (k _ _ v so (H.behind (vm₁ := vm₁) h2 h3 h4 h5 h6 h7 h8 h9 X' hS hg r1 r2 r3 r4 r5 r6 r7 rO) q1)

theorem G.callVU (H : Hs p l e R s m args below meth c Z a0 EL cw own n0 bytes maxL ret nm T h C S sf) {y z : MethodName} {D owner : String} {yb : ByteArray} {ym : Nat} {yr : Option FieldType} {rm : Room} {as' : Array Value} {sfI : List Addr} {Q : Option Value → Heap → List Addr → Prop} (M : Met Z a0 EL cw n0 l z yb ym yr rm as' h sfI Q) {index : Nat} (w1 : (Cond.methodLink own index y).before a0 Z = true) (w5 : (Cond.sameMethod y.cls owner y.name y.desc).before a0 Z = true) (w2 : (Cond.declares ⟨owner, y.name, y.desc⟩).before a0 Z = true) (how : owner ≠ "java/lang/invoke/MethodHandle" ∧ owner ≠ "java/lang/invoke/VarHandle") (w3 : (Cond.selects D y z).before a0 Z = true) (w4 : (Cond.instanceMethod z).before a0 Z = true) (wz : (Cond.initialized z.cls).before a0 Z = true) (wc : (Cond.code z yb ym yr).before a0 Z = true)
    {a : Addr} (E : Exa Z h a D) {argsL rest st : List Value} {W : Nat} {pc pc' : Nat} {L : Array Slot} (hL : L.size = maxL) (has : (Value.ref a :: argsL).toArray = as') (hlen : ∀ sig, parseMethodDescriptor y.desc = some sig → argsL.length = sig.parameters.length) (hst : st = argsL.reverse ++ .ref a :: rest) (hW : (rest.map fun v => v.category).sum = W) (hd : decode bytes pc = .ok (.invokevirtual index, 3)) (hp : pc + 3 = pc') (hf : rm.frames + 1 ≤ R.frames) (hl : W + (ym + 11) + rm.locals ≤ R.locals) (hc : C + rm.cells ≤ R.cells) (hsl : S + rm.slots ≤ R.slots) (hsf : ∀ x ∈ sfI, x ∈ sf)
    (k : ∀ T' h' v so, Hs p l e R s m args below meth c Z a0 EL cw own n0 bytes maxL ret nm T' h' (C + rm.cells) (S + rm.slots) (so ++ sf) → Q v h' so → Go p e below P (T'.setTop (mkF m pc' L (v.toList ++ rest)))) : Go p e below P (T.setTop (mkF m pc L st)) := by
  subst hp; subst has
  obtain ⟨hM, vm0, k0, locs, X, h1, h2, h3, h4, h5, h6, h7, h8, h9, hO⟩ := id H
  obtain ⟨cq, kq, qa, qb, qc⟩ := isOf (s := s.setVm vm0) h4 h1 E
  obtain ⟨v, vm₁, B, hw, X', hS, hg, ⟨L', so, q1, rO, r1, r2, r3, r4, r5, r6, r7⟩, st'⟩ := virtualBackUpS X H.exec h5 (mvT (s := s.setVm vm0) h4 w1) (mvT (s := s.setVm vm0) h4 w5) (mvT (s := s.setVm vm0) h4 w2) how (mvT (s := s.setVm vm0) h4 w3) (mvT (s := s.setVm vm0) h4 w4) (M.backS (W := W) hM.2.1 h4 wc wz hf hl h7.1 (fun x hx => h8 x (hsf x hx))) qa qc (g := mkF m pc L st) rfl (by rw [hM.2.2.2.1]; exact hL) (Steps.refl _) hlen hst (by show 2 * 0 + _ ≤ _; omega) (H.dec hd) (fun _ _ => ⟨rfl, h1, hc, hsl⟩)
  rw [h1] at hg
  exact Go.tr st' (k _ _ v so (H.behind (vm₁ := vm₁) h2 h3 h4 h5 h6 h7 h8 h9 X' hS hg r1 r2 r3 r4 r5 r6 r7 rO) q1)

theorem G.callP (H : Hs p l e R s m args below meth c Z a0 EL cw own n0 bytes maxL ret nm T h C S sf) {z : MethodName} {D : String} {yb : ByteArray} {ym : Nat} {yr : Option FieldType} {rm : Room} {as' : Array Value} {sfI : List Addr} {Q : Option Value → Heap → List Addr → Prop} (M : Met Z a0 EL cw n0 l z yb ym yr rm as' h sfI Q) {index : Nat} (w1 : (Cond.methodLink own index z).before a0 Z = true) (w4 : (Cond.instanceMethod z).before a0 Z = true) (w3 : (Cond.selects z.cls z z).before a0 Z = true) (w5 : (Cond.privateMethod z).before a0 Z = true) (wz : (Cond.initialized z.cls).before a0 Z = true) (wc : (Cond.code z yb ym yr).before a0 Z = true) (hy : z.cls ≠ "java/lang/invoke/MethodHandle" ∧ z.cls ≠ "java/lang/invoke/VarHandle")
    {a : Addr} (E : Exa Z h a D) {argsL rest st : List Value} {W : Nat} {pc pc' : Nat} {L : Array Slot} (hL : L.size = maxL) (has : (Value.ref a :: argsL).toArray = as') (hlen : ∀ sig, parseMethodDescriptor z.desc = some sig → argsL.length = sig.parameters.length) (hst : st = argsL.reverse ++ .ref a :: rest) (hW : (rest.map fun v => v.category).sum = W) (hd : decode bytes pc = .ok (.invokevirtual index, 3)) (hp : pc + 3 = pc') (hf : rm.frames + 1 ≤ R.frames) (hl : W + (ym + 11) + rm.locals ≤ R.locals) (hc : C + rm.cells ≤ R.cells) (hsl : S + rm.slots ≤ R.slots) (hsf : ∀ x ∈ sfI, x ∈ sf)
    (k : ∀ T' h' v so, Hs p l e R s m args below meth c Z a0 EL cw own n0 bytes maxL ret nm T' h' (C + rm.cells) (S + rm.slots) (so ++ sf) → Q v h' so → Go p e below P (T'.setTop (mkF m pc' L (v.toList ++ rest)))) : Go p e below P (T.setTop (mkF m pc L st)) := by
  subst hp; subst has
  obtain ⟨hM, vm0, k0, locs, X, h1, h2, h3, h4, h5, h6, h7, h8, h9, hO⟩ := id H
  obtain ⟨cell, hcell, hobj⟩ := E.cell
  obtain ⟨v, vm₁, B, hw, X', hS, hg, ⟨L', so, q1, rO, r1, r2, r3, r4, r5, r6, r7⟩, st'⟩ := privateBackS X H.exec h5 (mvT (s := s.setVm vm0) h4 w1) (mvT (s := s.setVm vm0) h4 w4) (mvT (s := s.setVm vm0) h4 w3) (Cond.privateMethod_at (mvP (s := s.setVm vm0) (args := #[]) h4 w5)) (mvT (s := s.setVm vm0) h4 wc) hy (M.backS (W := W) hM.2.1 h4 wc wz hf hl h7.1 (fun x hx => h8 x (hsf x hx))) (g := mkF m pc L st) rfl (by rw [hM.2.2.2.1]; exact hL) (Steps.refl _) (by rw [h1]; exact hcell) hobj hlen hst (by show 2 * 0 + _ ≤ _; omega) (H.dec hd) (fun _ _ => ⟨rfl, h1, hc, hsl⟩)
  rw [h1] at hg
  exact Go.tr st' (k _ _ v so (H.behind (vm₁ := vm₁) h2 h3 h4 h5 h6 h7 h8 h9 X' hS hg r1 r2 r3 r4 r5 r6 r7 rO) q1)

/-! ## clone of an array, getClass, a class constant, arraycopy -/
theorem G.clone (H : Hs p l e R s m args below meth c Z a0 EL cw own n0 bytes maxL ret nm T h C S sf) {ad : String} {index : Nat} (w1 : (Cond.methodLink own index ⟨ad, "clone", "()Ljava/lang/Object;"⟩).before a0 Z = true) (w2 : (Cond.sameMethod ad "java/lang/Object" "clone" "()Ljava/lang/Object;").before a0 Z = true) (w3 : (Cond.native ⟨"java/lang/Object", "clone", "()Ljava/lang/Object;"⟩).before a0 Z = true) (w4 : (Cond.instanceMethod ⟨"java/lang/Object", "clone", "()Ljava/lang/Object;"⟩).before a0 Z = true) (w5 : (Cond.selects ad ⟨ad, "clone", "()Ljava/lang/Object;"⟩ ⟨"java/lang/Object", "clone", "()Ljava/lang/Object;"⟩).before a0 Z = true) (w6 : (Cond.castable ad "java/lang/Cloneable").before a0 Z = true)
    {a : Addr} {kc : ClassId} {ty : FieldType} {z : Int32} {vs : List Value} {dv : Value} (A : Arv Z h a kc ty z vs dv) (E : Exa Z h a ad) {st : List Value} {W cap : Nat} {pc pc' : Nat} {L : Array Slot} (hL : L.size = maxL) (hW : (st.map fun v => v.category).sum = W) (hd : decode bytes pc = .ok (.invokevirtual index, 3)) (hp : pc + 3 = pc') (hf : 1 ≤ R.frames) (hl : W + 14 ≤ R.locals) (hcap : z.toNatClampNeg ≤ cap) (hc : C + 1 ≤ R.cells) (hsl : S + cap ≤ R.slots)
    (k : ∀ T' h' b, b = h.size → Hs p l e R s m args below meth c Z a0 EL cw own n0 bytes maxL ret nm T' h' (C + 1) (S + cap) (b :: sf) → Ext h h' → Arv Z h' b kc ty z vs dv → Exa Z h' b ad → Go p e below P (T'.setTop (mkF m pc' L (.ref b :: st)))) : Go p e below P (T.setTop (mkF m pc L (.ref a :: st))) := by
  subst hp
  obtain ⟨hM, vm0, k0, locs, X, h1, h2, h3, h4, h5, h6, h7, h8, h9, hO⟩ := id H
  obtain ⟨T', h', X', e', Ex, A', E', st'⟩ := RoadKit.cloneH X H.exec h4 h5 w1 w2 w3 w4 w5 w6 h1 A.arh E (g := mkF m pc L (.ref a :: st)) rfl (by rw [hM.2.2.2.1]; exact hL) rfl (H.dec hd) hf (W := W) (by show 2 * 0 + _ ≤ _; omega) hl hcap hc hsl
  exact Go.st st' (k T' h' _ rfl (H.ext X' e' Ex h2 h3 h4 h5 h6 h7 h8 h9 hO E'.lt) Ex A' E')
theorem G.ldcK (H : Hs p l e R s m args below meth c Z a0 EL cw own n0 bytes maxL ret nm T h C S sf) {K : String} {index : Nat} {mr : Addr} (w : (Cond.classLink own index K).before a0 Z = true) (F : Mir Z K mr) {pc pc' : Nat} {L : Array Slot} {st : List Value} (hd : decode bytes pc = .ok (.ldc index, 2)) (hp : pc + 2 = pc')
    (k : ∀ T', Hs p l e R s m args below meth c Z a0 EL cw own n0 bytes maxL ret nm T' h C S sf → Go p e below P (T'.setTop (mkF m pc' L (.ref mr :: st)))) : Go p e below P (T.setTop (mkF m pc L st)) := by
  subst hp
  obtain ⟨hM, vm0, k0, locs, X, h1, h2, h3, h4, h5, h6, h7, h8, h9, hO⟩ := id H
  obtain ⟨cK, kK, f1, f2, f3, -⟩ := F
  have ev : (Term.mirror K).eval args (s.setVm vm0) none [] (s.setVm vm0) = some (.ref mr) := by
    obtain ⟨k', q1, q2⟩ := h4.alike.2.2 _ _ f2
    have e1 : vm0.findClass K = some cK := by rw [h4.alike.findClass]; exact f1
    have e2 : vm0.classes[cK]? = some k' := q1
    have e3 : k'.mirror = some mr := by rw [q2]; exact f3
    show ((vm0.findClass K).bind fun u => (vm0.classes[u]?).bind fun v => v.mirror.bind fun w => some (Value.ref w)) = _
    rw [e1]; show ((vm0.classes[cK]?).bind fun v => v.mirror.bind fun w => some (Value.ref w)) = _
    rw [e2]; show (k'.mirror.bind fun w => some (Value.ref w)) = _
    rw [e3]; rfl
  obtain ⟨vm', X', st'⟩ := X.ldcMirror H.exec h5 (mvT (s := s.setVm vm0) h4 w) ev (g := mkF m pc L st) rfl (H.dec hd)
  exact Go.st st' (k _ ⟨hM, vm0, k0, locs, X', h1, h2, h3, h4, h5, h6, h7, h8, h9, hO⟩)
theorem G.gclsI (H : Hs p l e R s m args below meth c Z a0 EL cw own n0 bytes maxL ret nm T h C S sf) {D : String} {index count : Nat} {xi : MethodName} (w1 : (Cond.methodLink own index xi).before a0 Z = true) (w2 : (Cond.declares ⟨"java/lang/Object", "getClass", "()Ljava/lang/Class;"⟩).before a0 Z = true) (w3 : ∀ (s' : State) (aa : Array Value), Z.Warmed39 s'.vm → (Cond.interfaceMethod xi.cls "java/lang/Object" xi.name xi.desc).before aa s' = true) (w4 : (Cond.selects D xi ⟨"java/lang/Object", "getClass", "()Ljava/lang/Class;"⟩).before a0 Z = true) (w5 : (Cond.instanceMethod ⟨"java/lang/Object", "getClass", "()Ljava/lang/Class;"⟩).before a0 Z = true) (w6 : (Cond.publicMethod ⟨"java/lang/Object", "getClass", "()Ljava/lang/Class;"⟩).before a0 Z = true) (w7 : (Cond.unhidden D xi.name xi.desc).before a0 Z = true) (w8 : (Cond.castable D xi.cls).before a0 Z = true) (w9 : (Cond.native ⟨"java/lang/Object", "getClass", "()Ljava/lang/Class;"⟩).before a0 Z = true) (hx : xi.cls ≠ "java/lang/invoke/MethodHandle" ∧ xi.cls ≠ "java/lang/invoke/VarHandle") (hxo : xi.cls ≠ "java/lang/Object") (hn : xi.name = "getClass") (hds : xi.desc = "()Ljava/lang/Class;")
    {a mr : Addr} (E : Exa Z h a D) (F : Mir Z D mr) {st : List Value} {W : Nat} {pc pc' : Nat} {L : Array Slot} (hL : L.size = maxL) (hW : (st.map fun v => v.category).sum = W) (hd : decode bytes pc = .ok (.invokeinterface index count, 5)) (hp : pc + 5 = pc') (hf : 1 ≤ R.frames) (hl : W + (nativeFrameWords "java/lang/Object" "getClass" 1 + 11) ≤ R.locals)
    (k : ∀ T', Hs p l e R s m args below meth c Z a0 EL cw own n0 bytes maxL ret nm T' h C S sf → Go p e below P (T'.setTop (mkF m pc' L (.ref mr :: st)))) : Go p e below P (T.setTop (mkF m pc L (.ref a :: st))) := by
  subst hp
  obtain ⟨hM, vm0, k0, locs, X, h1, h2, h3, h4, h5, h6, h7, h8, h9, hO⟩ := id H
  obtain ⟨cq, kq, qa, qb, qc⟩ := isOf (s := s.setVm vm0) h4 h1 E
  obtain ⟨cK, kK, f1, f2, f3, -⟩ := F
  have e1 : cq = cK := by
    have : vm0.findClass D = some cK := by rw [h4.alike.findClass]; exact f1
    exact Option.some.inj ((show vm0.findClass D = some cq from qa).symm.trans this)
  subst e1
  obtain ⟨k', q1, q2⟩ := h4.alike.2.2 _ _ f2
  have e3 : kq.mirror = some mr := by
    have : k' = kq := Option.some.inj ((show vm0.classes[cq]? = some k' from q1).symm.trans qb)
    rw [← this, q2]; exact f3
  obtain ⟨vm', X', st'⟩ := X.getClassOfI H.exec h5 (mvT (s := s.setVm vm0) h4 w1) (mvT (s := s.setVm vm0) h4 w2) (w3 (s.setVm vm0) args h4) (mvT (s := s.setVm vm0) h4 w4) (mvT (s := s.setVm vm0) h4 w5) (mvT (s := s.setVm vm0) h4 w6) (mvT (s := s.setVm vm0) h4 w7) (mvT (s := s.setVm vm0) h4 w8) (mvT (s := s.setVm vm0) h4 w9) hx hxo hn hds qa qb qc e3 (g := mkF m pc L (.ref a :: st)) rfl (by rw [hM.2.2.2.1]; exact hL) rfl (H.dec hd) hf (by show 2 * 0 + _ + _ ≤ _; omega)
  exact Go.st st' (k _ ⟨hM, vm0, k0, locs, X', h1, h2, h3, h4, h5, h6, h7, h8, h9, hO⟩)
theorem G.copy (H : Hs p l e R s m args below meth c Z a0 EL cw own n0 bytes maxL ret nm T h C S sf) {index : Nat} (w1 : (Cond.methodLink own index Jvm.Stand.acN).before a0 Z = true) (w2 : (Cond.native Jvm.Stand.acN).before a0 Z = true) (w3 : (Cond.static Jvm.Stand.acN).before a0 Z = true) (w4 : (Cond.initialized "java/lang/System").before a0 Z = true)
    {a b : Addr} {kc kc' : ClassId} {ty ty' : FieldType} {z z' sp dp nn : Int32} {vs vd us : List Value} {dv dd : Value} (A : Arv Z h a kc ty z vs dv) (B : Arv Z h b kc' ty' z' vd dd) (hty : (ty = ty' ∧ refKind ty = false) ∨ (refKind ty = true ∧ refKind ty' = true ∧ StoL Z h b us)) (g1 : ¬ sp < 0) (g2 : ¬ dp < 0) (g3 : ¬ nn < 0) (g4 : sp.toNatClampNeg + nn.toNatClampNeg ≤ z.toNatClampNeg) (g5 : dp.toNatClampNeg + nn.toNatClampNeg ≤ z'.toNatClampNeg) (hus : us = (List.range nn.toNatClampNeg).map fun i => vs.getD (sp.toNatClampNeg + i) dv) (hlen : dp.toNatClampNeg + nn.toNatClampNeg ≤ vd.length) {vr : List Value} (hvr : vd.take dp.toNatClampNeg ++ us ++ vd.drop (dp.toNatClampNeg + nn.toNatClampNeg) = vr) (hq : n0 ≤ b) (hsf : Sf Z EL h sf b)
    {st : List Value} {W : Nat} {pc pc' : Nat} {L : Array Slot} (hL : L.size = maxL) (hW : (st.map fun v => v.category).sum = W) (hd : decode bytes pc = .ok (.invokestatic index, 3)) (hp : pc + 3 = pc') (hf : 1 ≤ R.frames) (hl : W + (nativeFrameWords "java/lang/System" "arraycopy" 5 + 11) ≤ R.locals)
    (k : ∀ T' h', Hs p l e R s m args below meth c Z a0 EL cw own n0 bytes maxL ret nm T' h' C S sf → Keep h h' [b] → Arv Z h' b kc' ty' z' vr dd → Go p e below P (T'.setTop (mkF m pc' L st))) : Go p e below P (T.setTop (mkF m pc L (.int nn :: .int dp :: .ref b :: .int sp :: .ref a :: st))) := by
  subst hp; subst hvr
  obtain ⟨hM, vm0, k0, locs, X, h1, h2, h3, h4, h5, h6, h7, h8, h9, hO⟩ := id H
  obtain ⟨T', h', L', X', e', F', K', B', st'⟩ := RoadKit.cpA X H.exec h4 h5 w1 w2 w3 w4 h1 A B hty g1 g2 g3 g4 g5 hus hlen h6 hq (g := mkF m pc L (.int nn :: .int dp :: .ref b :: .int sp :: .ref a :: st)) rfl (by rw [hM.2.2.2.1]; exact hL) rfl (H.dec hd) hf (W := W) (by show 2 * 0 + _ ≤ _; omega) hl
  have sx : ∀ y ∈ [b], Safe Z EL vm0 h y := fun y hy => by rw [List.mem_singleton.mp hy]; exact hsf.safe h4 h8
  exact Go.st st' (k T' h' ⟨hM, vm0, k0, L', X', e', h2, Nat.le_trans h3 K'.1, h4, h5, F', h7.trans (CHr.keep K' sx h7.1), fun y hy => ⟨Nat.lt_of_lt_of_le (h8 y hy).1 K'.1, Safe.keep K' sx h7.1 (h8 y hy).2⟩, h9, hO.keep K' (fun y hy => by rw [List.mem_singleton.mp hy]; exact hq)⟩ K' B')
theorem nf_sup {y : MethodName} {K : String} (w : (Cond.superclass y.cls K).before a0 Z = true) : ∀ s' : State, Z.Warmed39 s'.vm → NotFace s' y := fun s' hZ => nf_super (args := #[]) (mvT (s := s') hZ w)
theorem G.castN (H : Hs p l e R s m args below meth c Z a0 EL cw own n0 bytes maxL ret nm T h C S sf) {index : Nat} {pc pc' : Nat} {L : Array Slot} {st : List Value} (hd : decode bytes pc = .ok (.checkcast index, 3)) (hp : pc + 3 = pc') (k : Go p e below P (T.setTop (mkF m pc' L (.null :: st)))) : Go p e below P (T.setTop (mkF m pc L (.null :: st))) := by
  subst hp
  obtain ⟨hM, vm0, k0, locs, X, -⟩ := id H
  exact Go.st (X.checkcastNull H.exec (g := mkF m pc L (.null :: st)) rfl rfl (H.dec hd)) k
theorem G.instN (H : Hs p l e R s m args below meth c Z a0 EL cw own n0 bytes maxL ret nm T h C S sf) {index : Nat} {pc pc' : Nat} {L : Array Slot} {st : List Value} (hd : decode bytes pc = .ok (.instanceof index, 3)) (hp : pc + 3 = pc') (k : Go p e below P (T.setTop (mkF m pc' L (.int 0 :: st)))) : Go p e below P (T.setTop (mkF m pc L (.null :: st))) := by
  subst hp
  obtain ⟨hM, vm0, k0, locs, X, -⟩ := id H
  exact Go.st (X.instanceofNull H.exec (g := mkF m pc L (.null :: st)) rfl rfl (H.dec hd)) k
/-! ## a static method named through a class below the one that declares it (its contract narrow) -/
theorem Met.back {y : MethodName} {rm : Room} {as' : Array Value} {sfI : List Addr} {Q : Option Value → Heap → List Addr → Prop} {vm0 : Vm} {len W : Nat} (M : Met Z a0 EL False n0 l y bytes maxL ret rm as' h sfI Q) (hEL : EW Z a0 EL) (hZ : Z.Warmed39 vm0) (wc : (Cond.code y bytes maxL ret).before a0 Z = true) (wz : (Cond.initialized y.cls).before a0 Z = true) (hf : rm.frames + 1 ≤ R.frames) (hl : W + (maxL + 11) + rm.locals ≤ R.locals) (H : CHv Z EL vm0 h) (hs : ∀ x ∈ sfI, x < h.size ∧ Safe Z EL vm0 h x) :
    Back l R p e below (s.setVm vm0) args y len W (fun A a => a = as' ∧ A.U.heap = h ∧ A.cells + rm.cells ≤ R.cells ∧ A.slots + rm.slots ≤ R.slots)
      (fun A _ v B => ∃ L so, Q v B.U.heap so ∧ Old Z n0 B.U.heap ∧ Fr n0 L ∧ B.locs = A.locs ++ L ∧ B.cells = A.cells + rm.cells ∧ B.slots = A.slots + rm.slots ∧ CHr Z EL vm0 h B.U.vm B.U.heap ∧ (∀ x ∈ so, x < B.U.heap.size ∧ Safe Z EL B.U.vm B.U.heap x)) :=
  Back.of_free (bytes := bytes) (maxL := maxL) (ret := ret)
    (E := fun _ first o t L k n => k = rm.cells ∧ n = rm.slots ∧ ∃ v so, o = .returned v ∧ Q v t.heap so ∧ Old Z n0 t.heap ∧ Fr n0 L ∧ CHr Z EL first.vm first.heap t.vm t.heap ∧ (∀ x ∈ so, x < t.heap.size ∧ Safe Z EL t.vm t.heap x))
    (M []) hf hl
    (fun m meth c A a Y hp => have hU : Z.Warmed39 A.U.vm := wtrans (s := s.setVm vm0) hZ Y.warmed
      ⟨by show (Cond.and _ .tt).before a A.U = true; rw [Cond.before_and, mv hU wc]; rfl, mv hU wc, mv hU wz, hp.2.2.1, hp.2.2.2⟩)
    (fun m meth c A a g mk Y hp => by
      have A1 := CHv.at Y hZ hEL H
      exact ⟨hp.1, wtrans (s := s.setVm vm0) hZ Y.warmed, hp.2.1, A1.1, fun x hx => ⟨(hs x hx).1, A1.safe (hs x hx).1 (hs x hx).2⟩⟩)
    (fun _ _ _ _ _ _ _ _ _ => trivial)
    (fun _ _ _ _ ⟨v, L, so, h1, h2, hO, h3, h4, h5, h6, h7⟩ => ⟨L, _, _, h7.resolve_left (fun q => q), rfl, rfl, v, so, h1, h2, hO, h3, h4, h5⟩)
    (fun m meth c A a g mk v t L k n Y hp _ _ ⟨e1, e2, v', so, e3, e4, eO, e5, e6, e7⟩ => by
      cases e3; subst e1 e2
      refine ⟨L, so, e4, eO, e5, rfl, rfl, rfl, (CHv.at Y hZ hEL H).trans ?_, e7⟩
      rw [← hp.2.1]; exact e6)
theorem G.callSU (H : Hs p l e R s m args below meth c Z a0 EL cw own n0 bytes maxL ret nm T h C S sf) {y : MethodName} {owner : String} {yb : ByteArray} {ym : Nat} {yr : Option FieldType} {rm : Room} {as' : Array Value} {sfI : List Addr} {Q : Option Value → Heap → List Addr → Prop} (M : Met Z a0 EL False n0 l ⟨owner, y.name, y.desc⟩ yb ym yr rm as' h sfI Q) {index : Nat} (w1 : (Cond.methodLink own index y).before a0 Z = true) (w5 : (Cond.sameMethod y.cls owner y.name y.desc).before a0 Z = true) (w2 : (Cond.static ⟨owner, y.name, y.desc⟩).before a0 Z = true) (wz : (Cond.initialized owner).before a0 Z = true) (wc : (Cond.code ⟨owner, y.name, y.desc⟩ yb ym yr).before a0 Z = true) (hy : owner ≠ "java/lang/invoke/MethodHandle" ∧ owner ≠ "java/lang/invoke/VarHandle")
    {argsL rest st : List Value} {W : Nat} {pc pc' : Nat} {L : Array Slot} (hL : L.size = maxL) (has : argsL.toArray = as') (hlen : ∀ sig, parseMethodDescriptor y.desc = some sig → argsL.length = sig.parameters.length) (hst : st = argsL.reverse ++ rest) (hW : (rest.map fun v => v.category).sum = W) (hd : decode bytes pc = .ok (.invokestatic index, 3)) (hp : pc + 3 = pc') (hf : rm.frames + 1 ≤ R.frames) (hl : W + (ym + 11) + rm.locals ≤ R.locals) (hc : C + rm.cells ≤ R.cells) (hsl : S + rm.slots ≤ R.slots) (hsf : ∀ x ∈ sfI, x ∈ sf)
    (k : ∀ T' h' v so, Hs p l e R s m args below meth c Z a0 EL cw own n0 bytes maxL ret nm T' h' (C + rm.cells) (S + rm.slots) (so ++ sf) → Q v h' so → Go p e below P (T'.setTop (mkF m pc' L (v.toList ++ rest)))) : Go p e below P (T.setTop (mkF m pc L st)) := by
  subst hp; subst has
  obtain ⟨hM, vm0, k0, locs, X, h1, h2, h3, h4, h5, h6, h7, h8, h9, hO⟩ := id H
  have wc' := mvT (s := s.setVm vm0) (args := args) h4 wc
  obtain ⟨mk, hnamed⟩ := Cond.code_named wc'
  obtain ⟨methM, cM, hmethM, -, -, -, -, -, -, hsig⟩ := Cond.code_spec hnamed wc'
  obtain ⟨v, vm₁, B, hw, X', ⟨L', so, q1, rO, r1, r2, r3, r4, r5, r6⟩, st'⟩ := X.staticBackUp H.exec h5 (mvT (s := s.setVm vm0) h4 w1) (mvT (s := s.setVm vm0) h4 w5) (mvT (s := s.setVm vm0) h4 w2) (mvT (s := s.setVm vm0) h4 wz) hnamed hmethM hsig hy (M.back (W := W) hM.2.1 h4 wc wz hf hl h7.1 (fun x hx => h8 x (hsf x hx))) (g := mkF m pc L st) rfl (by rw [hM.2.2.2.1]; exact hL) (Steps.refl _) hlen hst (by show 2 * 0 + _ ≤ _; omega) (H.dec hd) (fun _ _ => ⟨rfl, h1, hc, hsl⟩)
  have hg : h.size ≤ B.U.heap.size := r5.2.1
  exact Go.tr st' (k _ _ v so (H.behind (vm₁ := vm₁) h2 h3 h4 h5 h6 h7 h8 h9 (X'.retabled X'.warmed.wide) (X'.warmed.since _) hg r1 r2 r3 r4 r5 r6 (Or.inr X'.warmed) rO) q1)
/-! ## from the case's words to facts at the start -/
theorem own_evI {args : Array Value} {a : Term} {i : Int32} (hq : (Cond.eq a (Term.int i)).value args Z none Z [] = some true) : a.eval args Z none [] Z = some (.int i) := by
  obtain ⟨u, w, hu, hw, k1, k2⟩ := cmp_v (Or.inl hq)
  have e1 : (Term.int i).eval args Z none [] Z = some (.int i) := Term.int_eval i
  cases e1.symm.trans hw
  obtain ⟨z, rfl⟩ := k2
  have e2 : z = i := gotT (Cond.eq_ints hu e1) hq
  subst e2; exact hu
theorem own_evR {args : Array Value} {a b : Term} {y : Addr} (hb : b.eval args Z none [] Z = some (.ref y)) (hq : (Cond.eq a b).value args Z none Z [] = some true) : a.eval args Z none [] Z = some (.ref y) := by
  obtain ⟨u, w, hu, hw, k1, k2⟩ := cmp_v (Or.inl hq)
  cases hb.symm.trans hw
  have e2 : u = .ref y := gotT (eq_R hu hb k2.2 rfl) hq
  subst e2; exact hu
theorem own_len {args : Array Value} {t : Term} {ty : FieldType} {x : Addr} {n : Int32} {cl : Cell} (ev : t.eval args Z none [] Z = some (.ref x)) (A : Arr Z Z.heap x cl ty) (hl : (Cond.eq (Term.length t) (Term.int n)).value args Z none Z [] = some true) : cl.slots.size < 2 ^ 31 ∧ cl.slots.size.toInt32 = n := by
  have e := own_evI hl
  have ha : Z.arrayAt? x = some cl := Arr.fin (U := Z) (Vm.Alike.refl _) A
  by_cases hs : cl.slots.size < 2 ^ 31
  · have q := (len_f ev ha hs).symm.trans e
    exact ⟨hs, by injection q with q; injection q⟩
  · simp [Term.eval, ev, ha, hs] at e
theorem own_el {args : Array Value} {t : Term} {ty : FieldType} {x : Addr} {cl : Cell} {j : Int32} {v : Value} {i : Nat} (ev : t.eval args Z none [] Z = some (.ref x)) (A : Arr Z Z.heap x cl ty) (he : (Term.elem t (Term.int j)).eval args Z none [] Z = some v) (hi : j.toNatClampNeg = i) : cl.slots[i]? = some v := by
  subst hi; exact (elem_in he ev (Term.int_eval j) A.1).2
theorem own_mirlt {K : String} {x : Addr} (F : Mir Z K x) : x < Z.heap.size := by
  obtain ⟨c, k, -, -, -, cell, q, -⟩ := F; exact (Array.getElem?_eq_some_iff.mp q).1
end Kit
end Jvm.OwnKit
/- laws to paste: Road.backV (cut by pick.py; bodies as the Statement names them) -/
namespace Jvm.Pilot.@@N@@
namespace StrChars
open Jvm Sem ClassFile Op Lib Jvm.Stand Jvm.Free.XT Jvm.Free.ALB Jvm.Free.JM Jvm.Free
open Jvm.Lib.Cold (StaticIs)
/-- a char array whose places are chars -/
def Ch (a : Addr) (A : Cell) (U : State) : Prop := Arr .char a A U ∧ Typed .char A
theorem Ch.mv {a : Addr} {A : Cell} {U U' : State} (h : Ch a A U) (hal : U.vm.Alike U'.vm) (hh : U'.heap = U.heap) : Ch a A U' := ⟨h.1.mv hal hh, h.2⟩
theorem Ch.keep {a : Addr} {A : Cell} {U U' : State} (h : Ch a A U) (hal : U.vm.Alike U'.vm) (hk : U'.heap[a]? = some A) : Ch a A U' := ⟨h.1.keep hal hk, h.2⟩
/-- what place i of a char[]'s cell holds -/
def cv (A : Cell) (i : Nat) : Int32 := match A.slots[i]? with | some (.int x) => x | _ => 0
theorem Ch.get {a : Addr} {A : Cell} {U : State} (h : Ch a A U) {i : Nat} (hi : i < A.slots.size) : A.slots[i]? = some (.int (cv A i)) := by
  have e := Array.getElem?_eq_getElem hi
  have f := h.2 i _ e
  unfold cv; rw [e]
  generalize A.slots[i] = v at f
  cases v <;> simp [fits] at f ⊢
/-- the byte that i2b leaves of a char -/
def lo8 (x : Int32) : Int32 := x.toInt8.toInt32
theorem fits_lo8 (y : Int32) : fits .byte (.int (lo8 y)) = true := by
  have h1 := y.toInt8.le_toInt
  have h2 := y.toInt8.toInt_lt
  simp only [lo8, fits, Bool.and_eq_true, decide_eq_true_eq, Int32.le_iff_toInt_le, Int8.toInt_toInt32, show (-128 : Int32).toInt = -128 from by decide, show (127 : Int32).toInt = 127 from by decide]
  omega
/-- A' is A but that each place j of lo .. hi - 1 holds f j -/
def Laid (A A' : Cell) (lo hi : Nat) (f : Nat → Value) : Prop := A'.cls = A.cls ∧ A'.vm = A.vm ∧ A'.slots.size = A.slots.size ∧ ∀ i, A'.slots[i]? = if lo ≤ i ∧ i < hi then some (f i) else A.slots[i]?
theorem Laid.zero (A : Cell) (lo : Nat) (f : Nat → Value) : Laid A A lo (lo + 0) f := ⟨rfl, rfl, rfl, fun i => by rw [if_neg (by omega)]⟩
theorem Laid.step {A Ak : Cell} {lo k : Nat} {f : Nat → Value} {v : Value} (h : Laid A Ak lo k f) (hlo : lo ≤ k) (hk : k < Ak.slots.size) (hv : v = f k) : Laid A (Ak.setSlot k v) lo (k + 1) f := by
  refine ⟨h.1, h.2.1, by simpa [Cell.setSlot] using h.2.2.1, fun i => ?_⟩
  by_cases e : k = i
  · subst e; rw [Cell.slots_setSlot_self v hk, if_pos (by omega), hv]
  · rw [Cell.slots_setSlot_ne v e, h.2.2.2 i]
    by_cases q : lo ≤ i ∧ i < k
    · rw [if_pos q, if_pos (by omega)]
    · rw [if_neg q, if_neg (by omega)]
def U16 : String := "java/lang/StringUTF16"
namespace Cmp5
def yN : MethodName := ⟨"java/lang/StringUTF16", "compress", "([CI[BII)I"⟩
abbrev yB : ByteArray := jdk_52_method_21_code
theorem d0 : decode yB 0 = .ok (.iconst 0, 1) := by decide +kernel
theorem d1 : decode yB 1 = .ok (.istore 5, 2) := by decide +kernel
theorem d3 : decode yB 3 = .ok (.iload 5, 2) := by decide +kernel
theorem d5 : decode yB 5 = .ok (.iload 4, 2) := by decide +kernel
theorem d7 : decode yB 7 = .ok (.if_icmp (.ge) 37, 3) := by decide +kernel
theorem d10 : decode yB 10 = .ok (.aload_n 0, 1) := by decide +kernel
theorem d11 : decode yB 11 = .ok (.iload_n 1, 1) := by decide +kernel
theorem d12 : decode yB 12 = .ok (.caload, 1) := by decide +kernel
theorem d13 : decode yB 13 = .ok (.istore 6, 2) := by decide +kernel
theorem d15 : decode yB 15 = .ok (.iload 6, 2) := by decide +kernel
theorem d17 : decode yB 17 = .ok (.sipush 255, 3) := by decide +kernel
theorem d20 : decode yB 20 = .ok (.if_icmp (.le) 6, 3) := by decide +kernel
theorem d26 : decode yB 26 = .ok (.aload_n 2, 1) := by decide +kernel
theorem d27 : decode yB 27 = .ok (.iload_n 3, 1) := by decide +kernel
theorem d28 : decode yB 28 = .ok (.iload 6, 2) := by decide +kernel
theorem d30 : decode yB 30 = .ok (.i2b, 1) := by decide +kernel
theorem d31 : decode yB 31 = .ok (.bastore, 1) := by decide +kernel
theorem d32 : decode yB 32 = .ok (.iinc 1 1, 3) := by decide +kernel
theorem d35 : decode yB 35 = .ok (.iinc 3 1, 3) := by decide +kernel
theorem d38 : decode yB 38 = .ok (.iinc 5 1, 3) := by decide +kernel
theorem d41 : decode yB 41 = .ok (.goto (-38), 3) := by decide +kernel
theorem d44 : decode yB 44 = .ok (.iload 4, 2) := by decide +kernel
theorem d46 : decode yB 46 = .ok (.ireturn, 1) := by decide +kernel
def site : List Cond := []
def tab : Cond := tabOf yN yB 7 (some .int) site
def P (b : Addr) (A : Cell) (d : Addr) (B : Cell) (o q len : Nat) (args : Array Value) (s : State) : Prop := args = #[.ref b, .int (Int32.ofNat o), .ref d, .int (Int32.ofNat q), .int (Int32.ofNat len)] ∧ Ch b A s ∧ Arr .byte d B s ∧ b ≠ d ∧ o + len ≤ A.slots.size ∧ q + len ≤ B.slots.size ∧ ∀ i, i < len → ¬ 255 < cv A (o + i)
def E (b : Addr) (A : Cell) (d : Addr) (B : Cell) (o q len : Nat) (r : Option Value) (s u : State) : Prop := r = some (.int (Int32.ofNat len)) ∧ ∃ B', Put d B' s u ∧ Laid B B' q (q + len) (fun j => Value.int (lo8 (cv A (o + (j - q)))))
/-- no char of the range above 255: len; the places written hold each char's low byte -/
theorem law (l : Launch) (b : Addr) (A : Cell) (d : Addr) (B : Cell) (o q len : Nat) : Law l yN 5 5 0 0 yB 7 (some .int) site (P b A d B o q len) (E b A d B o q len) (copyLocs d q len) 0 0 := by
  refine Law.of_walk (plainFor_of_name (by decide +kernel)) (by decide +kernel) (by decide +kernel) (by decide) (fun _ _ h => by rw [h.1]; rfl) (fun _ U U' hal hh h => ⟨h.1, h.2.1.mv hal hh, h.2.2.1.mv hal hh, h.2.2.2⟩) (fun r U U' V V' h1 hal h2 h => ⟨h.1, h.2.elim fun B' q => ⟨B', q.1.mv h1 h2, q.2⟩⟩) ?_
  intro p e s m args below meth c s₁ X0 hexec hbytes hml hret hlk hnm hown hh0 W hP
  obtain ⟨rfl, hA, hB, hne, l1, l2, hp⟩ := hP
  have c1 : Steps p.tables e below (s₁.setTop (entryFrame m #[.ref b, .int (Int32.ofNat o), .ref d, .int (Int32.ofNat q), .int (Int32.ofNat len)] 7)) (s₁.setTop (mkF m 0 #[.val (.ref b), .val (.int (Int32.ofNat o)), .val (.ref d), .val (.int (Int32.ofNat q)), .val (.int (Int32.ofNat len)), .unset, .unset] [])) := entry rfl
  have hA0 := hA.1.mv X0.warmed.alike hh0
  have hB0 := hB.mv X0.warmed.alike hh0
  have a31 := hA.1.2.2.2
  have c2 : Steps p.tables e below (s₁.setTop (entryFrame m #[.ref b, .int (Int32.ofNat o), .ref d, .int (Int32.ofNat q), .int (Int32.ofNat len)] 7)) (s₁.setTop (mkF m 3 #[.val (.ref b), .val (.int (Int32.ofNat o)), .val (.ref d), .val (.int (Int32.ofNat q)), .val (.int (Int32.ofNat len)), .val (.int 0), .unset] [])) := c1.trans (by
    refine iconstV X0.here hexec rfl 0 (hb hbytes d0) (by decide) ?_
    refine XS.istore X0.here hexec rfl (hb hbytes d1) rfl rfl ?_
    exact Steps.refl _)
  have loop : ∀ (r i : Nat), i + r = len → ∀ (z : Slot), (z = .unset ∨ ∃ w, z = .val w ∧ w.category = 1) → ∀ (Tl : State) (Bk : Cell), Stand p l e { frames := 0, locals := 0, cells := 0, slots := 0 } s m #[.ref b, .int (Int32.ofNat o), .ref d, .int (Int32.ofNat q), .int (Int32.ofNat len)] below meth c Tl ([] ++ copyLocs d q i) 0 0 → Put d Bk s₁ Tl → Laid B Bk q (q + i) (fun j => Value.int (lo8 (cv A (o + (j - q))))) →
      Steps p.tables e below (s₁.setTop (entryFrame m #[.ref b, .int (Int32.ofNat o), .ref d, .int (Int32.ofNat q), .int (Int32.ofNat len)] 7)) (Tl.setTop (mkF m 3 #[.val (.ref b), .val (.int (Int32.ofNat (o + i))), .val (.ref d), .val (.int (Int32.ofNat (q + i))), .val (.int (Int32.ofNat len)), .val (.int (Int32.ofNat i)), z] [])) → ∃ (T' : State) (B' : Cell) (z' : Slot), Stand p l e { frames := 0, locals := 0, cells := 0, slots := 0 } s m #[.ref b, .int (Int32.ofNat o), .ref d, .int (Int32.ofNat q), .int (Int32.ofNat len)] below meth c T' ([] ++ copyLocs d q len) 0 0 ∧ Put d B' s₁ T' ∧ Laid B B' q (q + len) (fun j => Value.int (lo8 (cv A (o + (j - q))))) ∧
      Steps p.tables e below (s₁.setTop (entryFrame m #[.ref b, .int (Int32.ofNat o), .ref d, .int (Int32.ofNat q), .int (Int32.ofNat len)] 7)) (T'.setTop (mkF m 3 #[.val (.ref b), .val (.int (Int32.ofNat (o + len))), .val (.ref d), .val (.int (Int32.ofNat (q + len))), .val (.int (Int32.ofNat len)), .val (.int (Int32.ofNat len)), z'] [])) := by
    intro r
    induction r with
    | zero =>
      intro i hi z hz Tl Bk Xl pl fl cl
      have hil : i = len := by omega
      rw [hil] at Xl fl cl
      exact ⟨Tl, Bk, z, Xl, pl, fl, cl⟩
    | succ r ih =>
      intro i hi z hz Tl Bk Xl pl fl cl
      have all := X0.warmed.alike.symm.trans Xl.warmed.alike
      have hAl := hA0.keep all (pl.other hne hA0.1)
      have hBk := hB0.like all pl.1 fl.1 fl.2.1 fl.2.2.1
      have hlt : q + i < Bk.slots.size := by rw [fl.2.2.1]; omega
      have c3 : Steps p.tables e below (s₁.setTop (entryFrame m #[.ref b, .int (Int32.ofNat o), .ref d, .int (Int32.ofNat q), .int (Int32.ofNat len)] 7)) (Tl.setTop (mkF m 12 #[.val (.ref b), .val (.int (Int32.ofNat (o + i))), .val (.ref d), .val (.int (Int32.ofNat (q + i))), .val (.int (Int32.ofNat len)), .val (.int (Int32.ofNat i)), z] [.int (Int32.ofNat (o + i)), .ref b])) := cl.trans (by
        refine XS.iload Xl.here hexec rfl (hb hbytes d3) rfl ?_
        refine XS.iload Xl.here hexec rfl (hb hbytes d5) rfl ?_
        refine XS.icmpNo Xl.here hexec rfl (hb hbytes d7) rfl (ii_ge_f (lt32 (by omega) (by omega))) ?_
        refine XS.aloadN Xl.here hexec rfl (hb hbytes d10) rfl rfl ?_
        refine XS.iloadN Xl.here hexec rfl (hb hbytes d11) rfl ?_
        exact Steps.refl _)
      have c4 : Steps p.tables e below (s₁.setTop (entryFrame m #[.ref b, .int (Int32.ofNat o), .ref d, .int (Int32.ofNat q), .int (Int32.ofNat len)] 7)) (Tl.setTop (mkF m 13 #[.val (.ref b), .val (.int (Int32.ofNat (o + i))), .val (.ref d), .val (.int (Int32.ofNat (q + i))), .val (.int (Int32.ofNat len)), .val (.int (Int32.ofNat i)), z] [.int (cv A (o + i))])) := c3.trans (by
        refine Xl.aget hexec hAl rfl (hA.get (i := o + i) (by omega)) rfl rfl (hb hbytes d12) ?_
        exact Steps.refl _)
      have c5 : Steps p.tables e below (s₁.setTop (entryFrame m #[.ref b, .int (Int32.ofNat o), .ref d, .int (Int32.ofNat q), .int (Int32.ofNat len)] 7)) (Tl.setTop (mkF m 15 #[.val (.ref b), .val (.int (Int32.ofNat (o + i))), .val (.ref d), .val (.int (Int32.ofNat (q + i))), .val (.int (Int32.ofNat len)), .val (.int (Int32.ofNat i)), .val (.int (cv A (o + i)))] [])) := c4.trans (by
        refine XS.istoreS Xl.here hexec rfl (hb hbytes d13) rfl rfl hz ?_
        exact Steps.refl _)
      have c6 : Steps p.tables e below (s₁.setTop (entryFrame m #[.ref b, .int (Int32.ofNat o), .ref d, .int (Int32.ofNat q), .int (Int32.ofNat len)] 7)) (Tl.setTop (mkF m 31 #[.val (.ref b), .val (.int (Int32.ofNat (o + i))), .val (.ref d), .val (.int (Int32.ofNat (q + i))), .val (.int (Int32.ofNat len)), .val (.int (Int32.ofNat i)), .val (.int (cv A (o + i)))] [.int (lo8 (cv A (o + i))), .int (Int32.ofNat (q + i)), .ref d])) := c5.trans (by
        refine XS.iload Xl.here hexec rfl (hb hbytes d15) rfl ?_
        refine sipushV Xl.here hexec rfl 255 (hb hbytes d17) (by decide) ?_
        refine XS.icmpYes Xl.here hexec rfl (pc0 := 20) rfl (hb hbytes d20) rfl (ii_le_t (hp i (by omega))) (by decide) rfl ?_
        refine XS.aloadN Xl.here hexec rfl (hb hbytes d26) rfl rfl ?_
        refine XS.iloadN Xl.here hexec rfl (hb hbytes d27) rfl ?_
        refine XS.iload Xl.here hexec rfl (hb hbytes d28) rfl ?_
        refine i2b Xl.here hexec rfl (hb hbytes d30) rfl ?_
        exact Steps.refl _)
      obtain ⟨T7, X7, p7, st7⟩ := Xl.aput hexec hBk rfl hlt rfl (fits_lo8 (cv A (o + i))) (g := (mkF m 31 #[.val (.ref b), .val (.int (Int32.ofNat (o + i))), .val (.ref d), .val (.int (Int32.ofNat (q + i))), .val (.int (Int32.ofNat len)), .val (.int (Int32.ofNat i)), .val (.int (cv A (o + i)))] [.int (lo8 (cv A (o + i))), .int (Int32.ofNat (q + i)), .ref d])) rfl (rest := []) rfl (hb hbytes d31)
      have c8 : Steps p.tables e below (s₁.setTop (entryFrame m #[.ref b, .int (Int32.ofNat o), .ref d, .int (Int32.ofNat q), .int (Int32.ofNat len)] 7)) (T7.setTop (mkF m 32 #[.val (.ref b), .val (.int (Int32.ofNat (o + i))), .val (.ref d), .val (.int (Int32.ofNat (q + i))), .val (.int (Int32.ofNat len)), .val (.int (Int32.ofNat i)), .val (.int (cv A (o + i)))] [])) := c6.trans (st7 _ (Steps.refl _))
      have c9 : Steps p.tables e below (s₁.setTop (entryFrame m #[.ref b, .int (Int32.ofNat o), .ref d, .int (Int32.ofNat q), .int (Int32.ofNat len)] 7)) (T7.setTop (mkF m 3 #[.val (.ref b), .val (.int (Int32.ofNat (o + i) + 1)), .val (.ref d), .val (.int (Int32.ofNat (q + i) + 1)), .val (.int (Int32.ofNat len)), .val (.int (Int32.ofNat i + 1)), .val (.int (cv A (o + i)))] [])) := c8.trans (by
        refine iincV X7.here hexec rfl 1 (hb hbytes d32) (by decide) rfl rfl ?_
        refine iincV X7.here hexec rfl 1 (hb hbytes d35) (by decide) rfl rfl ?_
        refine iincV X7.here hexec rfl 1 (hb hbytes d38) (by decide) rfl rfl ?_
        refine XS.goto X7.here hexec rfl (pc0 := 41) rfl (hb hbytes d41) (by decide) rfl ?_
        exact Steps.refl _)
      have c10 : Steps p.tables e below (s₁.setTop (entryFrame m #[.ref b, .int (Int32.ofNat o), .ref d, .int (Int32.ofNat q), .int (Int32.ofNat len)] 7)) (T7.setTop (mkF m 3 #[.val (.ref b), .val (.int (Int32.ofNat (o + (i + 1)))), .val (.ref d), .val (.int (Int32.ofNat (q + (i + 1)))), .val (.int (Int32.ofNat len)), .val (.int (Int32.ofNat (i + 1))), .val (.int (cv A (o + i)))] [])) := by
        have := c9
        rw [succ32, succ32, succ32] at this
        exact this
      exact ih (i + 1) (by omega) _ (Or.inr ⟨_, rfl, rfl⟩) T7 _ (by rw [copyLocs_step, ← List.append_assoc]; exact X7) (pl.trans p7) (fl.step (by omega) hlt (by simp)) c10
  obtain ⟨T9, B9, z9, X9, p9, f9, g9⟩ := loop len 0 (by omega) .unset (Or.inl rfl) s₁ B (by simpa [copyLocs] using X0) ⟨hB0.1, fun _ _ => rfl, rfl⟩ (Laid.zero _ _ _) c2
  have c11 : Steps p.tables e below (s₁.setTop (entryFrame m #[.ref b, .int (Int32.ofNat o), .ref d, .int (Int32.ofNat q), .int (Int32.ofNat len)] 7)) (T9.setTop (mkF m 46 #[.val (.ref b), .val (.int (Int32.ofNat (o + len))), .val (.ref d), .val (.int (Int32.ofNat (q + len))), .val (.int (Int32.ofNat len)), .val (.int (Int32.ofNat len)), z9] [.int (Int32.ofNat len)])) := g9.trans (by
    refine XS.iload X9.here hexec rfl (hb hbytes d3) rfl ?_
    refine XS.iload X9.here hexec rfl (hb hbytes d5) rfl ?_
    refine XS.icmpYes X9.here hexec rfl (pc0 := 7) rfl (hb hbytes d7) rfl (ii_ge_t (nlt32 (by omega) (Nat.le_refl _))) (by decide) rfl ?_
    refine XS.iload X9.here hexec rfl (hb hbytes d44) rfl ?_
    exact Steps.refl _)
  exact ⟨T9, some (.int (Int32.ofNat len)), _, _, _, X9, by simp, rfl, rfl, (fun h => by cases h), ⟨rfl, B9, p9.from hh0, f9⟩, fun fs hl => c11.trans (X9.ireturnOut hexec hret rfl (Or.inl rfl) (hb hbytes d46) hl)⟩
end Cmp5
namespace Cmp3
def yN : MethodName := ⟨"java/lang/StringUTF16", "compress", "([CII)[B"⟩
abbrev yB : ByteArray := jdk_52_method_16_code
theorem d0 : decode yB 0 = .ok (.iload_n 2, 1) := by decide +kernel
theorem d1 : decode yB 1 = .ok (.newarray .byte, 2) := by decide +kernel
theorem d3 : decode yB 3 = .ok (.astore_n 3, 1) := by decide +kernel
theorem d4 : decode yB 4 = .ok (.aload_n 0, 1) := by decide +kernel
theorem d5 : decode yB 5 = .ok (.iload_n 1, 1) := by decide +kernel
theorem d6 : decode yB 6 = .ok (.aload_n 3, 1) := by decide +kernel
theorem d7 : decode yB 7 = .ok (.iconst 0, 1) := by decide +kernel
theorem d8 : decode yB 8 = .ok (.iload_n 2, 1) := by decide +kernel
theorem d9 : decode yB 9 = .ok (.invokestatic 115, 3) := by decide +kernel
theorem d12 : decode yB 12 = .ok (.istore 4, 2) := by decide +kernel
theorem d14 : decode yB 14 = .ok (.iload 4, 2) := by decide +kernel
theorem d16 : decode yB 16 = .ok (.iload_n 2, 1) := by decide +kernel
theorem d17 : decode yB 17 = .ok (.if_icmp (.eq) 40, 3) := by decide +kernel
theorem d57 : decode yB 57 = .ok (.aload_n 3, 1) := by decide +kernel
theorem d58 : decode yB 58 = .ok (.areturn, 1) := by decide +kernel
def site : List Cond := [.arrayClass .byte, Cmp5.tab] ++ staticW U16 115 Cmp5.yN
def tab : Cond := tabOf yN yB 6 (some (.array .byte)) site
def P (b : Addr) (A : Cell) (o len : Nat) (args : Array Value) (s : State) : Prop := args = #[.ref b, .int (Int32.ofNat o), .int (Int32.ofNat len)] ∧ Ch b A s ∧ o + len ≤ A.slots.size ∧ len ≤ 536870912 ∧ ∀ i, i < len → ¬ 255 < cv A (o + i)
def E (b : Addr) (A : Cell) (o len : Nat) (r : Option Value) (s u : State) : Prop := NewArr .byte "[B" len (fun j => .int (lo8 (cv A (o + j)))) r s u ∧ u.heap.size = s.heap.size + 1
/-- no char of the range above 255: a new byte[] of their low bytes -/
theorem law (l : Launch) (b : Addr) (A : Cell) (o len : Nat) : Law l yN 3 3 1 18 yB 6 (some (.array .byte)) site (P b A o len) (E b A o len) [] 1 len := by
  refine Law.of_walk (plainFor_of_name (by decide +kernel)) (by decide +kernel) (by decide +kernel) (by decide) (fun _ _ h => by rw [h.1]; rfl) (fun _ U U' hal hh h => ⟨h.1, h.2.1.mv hal hh, h.2.2⟩) (fun r U U' V V' h1 hal h2 h => ⟨NewArr.mv r U U' V V' h1 hal h2 h.1, by rw [h1, h2]; exact h.2⟩) ?_
  intro p e s m args below meth c s₁ X0 hexec hbytes hml hret hlk hnm hown hh0 W hP
  obtain ⟨rfl, hA, l1, l2, hp⟩ := hP
  have a31 := hA.1.2.2.2
  have c1 : Steps p.tables e below (s₁.setTop (entryFrame m #[.ref b, .int (Int32.ofNat o), .int (Int32.ofNat len)] 6)) (s₁.setTop (mkF m 0 #[.val (.ref b), .val (.int (Int32.ofNat o)), .val (.int (Int32.ofNat len)), .unset, .unset, .unset] [])) := entry rfl
  have c2 : Steps p.tables e below (s₁.setTop (entryFrame m #[.ref b, .int (Int32.ofNat o), .int (Int32.ofNat len)] 6)) (s₁.setTop (mkF m 1 #[.val (.ref b), .val (.int (Int32.ofNat o)), .val (.int (Int32.ofNat len)), .unset, .unset, .unset] [.int (Int32.ofNat len)])) := c1.trans (by
    refine XS.iloadN X0.here hexec rfl (hb hbytes d0) rfl ?_
    exact Steps.refl _)
  obtain ⟨T3, B3, X3, ba3, bs3, bv3, bh3, bf3, st3⟩ := X0.anew hexec (atype := .byte) (wk W (.arrayClass .byte)) rfl (by show len * 1 ≤ _; omega) (by omega) (g := (mkF m 1 #[.val (.ref b), .val (.int (Int32.ofNat o)), .val (.int (Int32.ofNat len)), .unset, .unset, .unset] [.int (Int32.ofNat len)])) rfl (hb hbytes d1) (rest := []) rfl (Nat.le_refl _) (by show 0 + len ≤ len; omega)
  rw [hh0] at ba3 st3
  have kp3 : XT.Kept s T3 := (XT.Kept.of_eq hh0).push bh3
  have hA3 := hA.keep X3.warmed.alike (kp3 _ _ hA.1.1)
  have hne : b ≠ s.heap.size := hA.1.ne
  have c4 : Steps p.tables e below (s₁.setTop (entryFrame m #[.ref b, .int (Int32.ofNat o), .int (Int32.ofNat len)] 6)) (T3.setTop (mkF m 3 #[.val (.ref b), .val (.int (Int32.ofNat o)), .val (.int (Int32.ofNat len)), .unset, .unset, .unset] [.ref s.heap.size])) := c2.trans (st3 _ (Steps.refl _))
  have c5 : Steps p.tables e below (s₁.setTop (entryFrame m #[.ref b, .int (Int32.ofNat o), .int (Int32.ofNat len)] 6)) (T3.setTop (mkF m 9 #[.val (.ref b), .val (.int (Int32.ofNat o)), .val (.int (Int32.ofNat len)), .val (.ref s.heap.size), .unset, .unset] [.int (Int32.ofNat len), .int 0, .ref s.heap.size, .int (Int32.ofNat o), .ref b])) := c4.trans (by
    refine XS.astoreN X3.here hexec rfl (hb hbytes d3) rfl rfl rfl ?_
    refine XS.aloadN X3.here hexec rfl (hb hbytes d4) rfl rfl ?_
    refine XS.iloadN X3.here hexec rfl (hb hbytes d5) rfl ?_
    refine XS.aloadN X3.here hexec rfl (hb hbytes d6) rfl rfl ?_
    refine iconstV X3.here hexec rfl 0 (hb hbytes d7) (by decide) ?_
    refine XS.iloadN X3.here hexec rfl (hb hbytes d8) rfl ?_
    exact Steps.refl _)
  obtain ⟨v6, T6, X6, E6, g6⟩ := X3.callS hexec (Cmp5.law l b A s.heap.size B3 o 0 len) hown (wks W (staticW U16 115 Cmp5.yN)) (wk W Cmp5.tab) (W := 0) (Nat.le_of_ble_eq_true rfl) (Nat.le_of_ble_eq_true rfl) (Nat.le_refl _) (by show 0 + len + 0 ≤ len; omega) (g := (mkF m 9 #[.val (.ref b), .val (.int (Int32.ofNat o)), .val (.int (Int32.ofNat len)), .val (.ref s.heap.size), .unset, .unset] [.int (Int32.ofNat len), .int (Int32.ofNat 0), .ref s.heap.size, .int (Int32.ofNat o), .ref b])) rfl (by rw [hml]; rfl) c5 (argsL := [.ref b, .int (Int32.ofNat o), .ref s.heap.size, .int (Int32.ofNat 0), .int (Int32.ofNat len)]) (rest := []) rfl rfl (by show 2 * 0 + 0 ≤ _; decide) (hb hbytes d9) (⟨rfl, hA3, ba3, hne, l1, by rw [bs3]; simp, hp⟩)
  obtain ⟨rfl, B6, p6, f6⟩ := E6
  have c7 : Steps p.tables e below (s₁.setTop (entryFrame m #[.ref b, .int (Int32.ofNat o), .int (Int32.ofNat len)] 6)) (T6.setTop (mkF m 12 #[.val (.ref b), .val (.int (Int32.ofNat o)), .val (.int (Int32.ofNat len)), .val (.ref s.heap.size), .unset, .unset] [.int (Int32.ofNat len)])) := g6
  have c8 : Steps p.tables e below (s₁.setTop (entryFrame m #[.ref b, .int (Int32.ofNat o), .int (Int32.ofNat len)] 6)) (T6.setTop (mkF m 58 #[.val (.ref b), .val (.int (Int32.ofNat o)), .val (.int (Int32.ofNat len)), .val (.ref s.heap.size), .val (.int (Int32.ofNat len)), .unset] [.ref s.heap.size])) := c7.trans (by
    refine XS.istore X6.here hexec rfl (hb hbytes d12) rfl rfl ?_
    refine XS.iload X6.here hexec rfl (hb hbytes d14) rfl ?_
    refine XS.iloadN X6.here hexec rfl (hb hbytes d16) rfl ?_
    refine XS.icmpYes X6.here hexec rfl (pc0 := 17) rfl (hb hbytes d17) rfl (ii_eq_t rfl) (by decide) rfl ?_
    refine XS.aloadN X6.here hexec rfl (hb hbytes d57) rfl rfl ?_
    exact Steps.refl _)
  have X8 := X6.wide (L' := []) (cells' := 1) (slots' := len) (fun x hx hlt => by
    simp only [List.nil_append, copyLocs, List.mem_map, List.mem_range] at hx
    obtain ⟨i, -, rfl⟩ := hx
    exact absurd hlt (Nat.lt_irrefl _)) (Nat.le_refl _) (by omega)
  exact ⟨T6, some (.ref s.heap.size), _, _, _, X8, rfl, rfl, rfl, (fun h => by cases h), ⟨⟨rfl, B6, ba3.like (X3.warmed.alike.symm.trans X6.warmed.alike) p6.1 f6.1 f6.2.1 f6.2.2.1, f6.2.1.trans bv3, by rw [X6.warmed.alike.findClass, f6.1]; exact bf3, by rw [f6.2.2.1, bs3]; simp, fun j hj => by rw [f6.2.2.2 j, if_pos (by omega)]; rfl, kp3.put p6 (Nat.le_refl _)⟩, by rw [p6.2.2, bh3, hh0]; simp⟩, fun fs hl => c8.trans (X8.areturnOut hexec rfl hret rfl (hb hbytes d58) hl)⟩
end Cmp3
namespace CodL
def yN : MethodName := ⟨"java/lang/StringUTF16", "coderFromArrayLen", "([BI)B"⟩
abbrev yB : ByteArray := jdk_52_method_15_code
theorem d0 : decode yB 0 = .ok (.iload_n 1, 1) := by decide +kernel
theorem d1 : decode yB 1 = .ok (.aload_n 0, 1) := by decide +kernel
theorem d2 : decode yB 2 = .ok (.arraylength, 1) := by decide +kernel
theorem d3 : decode yB 3 = .ok (.isub, 1) := by decide +kernel
theorem d4 : decode yB 4 = .ok (.bipush 31, 2) := by decide +kernel
theorem d6 : decode yB 6 = .ok (.iushr, 1) := by decide +kernel
theorem d7 : decode yB 7 = .ok (.i2b, 1) := by decide +kernel
theorem d8 : decode yB 8 = .ok (.ireturn, 1) := by decide +kernel
def site : List Cond := []
def tab : Cond := tabOf yN yB 2 (some .byte) site
def P (d : Addr) (B : Cell) (args : Array Value) (s : State) : Prop := args = #[.ref d, .int (Int32.ofNat B.slots.size)] ∧ Arr .byte d B s
def E (r : Option Value) (s u : State) : Prop := XT.PureE (some (.int 0)) r s u
/-- an array as long as the number of chars: LATIN1 -/
theorem law (l : Launch) (d : Addr) (B : Cell) : Law l yN 2 2 0 0 yB 2 (some .byte) site (P d B) E [] 0 0 := by
  refine Law.of_walk (plainFor_of_name (by decide +kernel)) (by decide +kernel) (by decide +kernel) (by decide) (fun _ _ h => by rw [h.1]; rfl) (fun _ U U' hal hh h => ⟨h.1, h.2.mv hal hh⟩) (fun r U U' V V' h1 hal h2 h => XT.PureE.mv r U U' V V' h1 hal h2 h) ?_
  intro p e s m args below meth c s₁ X0 hexec hbytes hml hret hlk hnm hown hh0 W hP
  obtain ⟨rfl, hB⟩ := hP
  have hB0 := hB.mv X0.warmed.alike hh0
  have c1 : Steps p.tables e below (s₁.setTop (entryFrame m #[.ref d, .int (Int32.ofNat B.slots.size)] 2)) (s₁.setTop (mkF m 0 #[.val (.ref d), .val (.int (Int32.ofNat B.slots.size))] [])) := entry rfl
  have c2 : Steps p.tables e below (s₁.setTop (entryFrame m #[.ref d, .int (Int32.ofNat B.slots.size)] 2)) (s₁.setTop (mkF m 2 #[.val (.ref d), .val (.int (Int32.ofNat B.slots.size))] [.ref d, .int (Int32.ofNat B.slots.size)])) := c1.trans (by
    refine XS.iloadN X0.here hexec rfl (hb hbytes d0) rfl ?_
    refine XS.aloadN X0.here hexec rfl (hb hbytes d1) rfl rfl ?_
    exact Steps.refl _)
  have c3 : Steps p.tables e below (s₁.setTop (entryFrame m #[.ref d, .int (Int32.ofNat B.slots.size)] 2)) (s₁.setTop (mkF m 8 #[.val (.ref d), .val (.int (Int32.ofNat B.slots.size))] [.int (lo8 (ushr (Int32.ofNat B.slots.size - Int32.ofNat B.slots.size) 31))])) := c2.trans (by
    refine X0.alen hexec hB0 rfl rfl (hb hbytes d2) ?_
    refine XS.isub X0.here hexec rfl (hb hbytes d3) rfl ?_
    refine bipushV X0.here hexec rfl 31 (hb hbytes d4) (by decide) ?_
    refine iushr X0.here hexec rfl (hb hbytes d6) rfl ?_
    refine i2b X0.here hexec rfl (hb hbytes d7) rfl ?_
    exact Steps.refl _)
  have e0 : lo8 (ushr (Int32.ofNat B.slots.size - Int32.ofNat B.slots.size) 31) = 0 := by rw [Int32.sub_self]; decide
  rw [e0] at c3
  exact ⟨s₁, some (.int 0), _, _, _, X0, rfl, rfl, rfl, (fun h => by cases h), ⟨rfl, hh0⟩, fun fs hl => c3.trans (X0.ireturnOut hexec hret rfl (Or.inr (Or.inr (Or.inl rfl))) (hb hbytes d8) hl)⟩
end CodL
/-- the String at a is Latin-1 over a new byte[] (the heap's one new cell): the low bytes of the len chars of A from o on; every cell but a is kept -/
def Got (a : Addr) (D : Cell) (fV fC : Field) (A : Cell) (o len : Nat) (r : Option Value) (s u : State) : Prop := r = none ∧ ∃ D' V : Cell, Blank "java/lang/String" a D' u ∧ Same D D' [fV.slot, fC.slot] ∧ D'.slots[fV.slot]? = some (.ref s.heap.size) ∧ D'.slots[fC.slot]? = some (.int 0) ∧ Arr .byte s.heap.size V u ∧ V.vm = .none ∧ u.vm.findClass "[B" = some V.cls ∧ V.slots.size = len ∧ (∀ j, j < len → V.slots[j]? = some (.int (lo8 (cv A (o + j))))) ∧ (∀ (y : Addr) (c : Cell), y ≠ a → s.heap[y]? = some c → u.heap[y]? = some c) ∧ u.heap.size = s.heap.size + 1
theorem Got.mv {a : Addr} {D A : Cell} {fV fC : Field} {o len : Nat} : ∀ r (U U' V V' : State), U'.heap = U.heap → V.vm.Alike V'.vm → V'.heap = V.heap → Got a D fV fC A o len r U V → Got a D fV fC A o len r U' V' :=
  fun r U U' V V' h1 hal h2 ⟨e0, D', X, a1, a2, a3, a4, a5, a6, a7, a8, a9, a10, a11⟩ => ⟨e0, D', X, a1.mv hal h2, a2, by rw [h1]; exact a3, a4, by rw [h1]; exact a5.mv hal h2, a6, by rw [hal.findClass]; exact a7, a8, a9, by rw [h1, h2]; exact a10, by rw [h1, h2]; exact a11⟩
namespace New4
def yN : MethodName := ⟨"java/lang/String", "<init>", "([CIILjava/lang/Void;)V"⟩
abbrev yB : ByteArray := jdk_42_method_149_code
theorem d0 : decode yB 0 = .ok (.aload_n 0, 1) := by decide +kernel
theorem d1 : decode yB 1 = .ok (.invokespecial 1, 3) := by decide +kernel
theorem d4 : decode yB 4 = .ok (.iload_n 3, 1) := by decide +kernel
theorem d5 : decode yB 5 = .ok (.ifCond (.ne) 22, 3) := by decide +kernel
theorem d27 : decode yB 27 = .ok (.getstatic 38, 3) := by decide +kernel
theorem d30 : decode yB 30 = .ok (.ifCond (.eq) 28, 3) := by decide +kernel
theorem d33 : decode yB 33 = .ok (.aload_n 1, 1) := by decide +kernel
theorem d34 : decode yB 34 = .ok (.iload_n 2, 1) := by decide +kernel
theorem d35 : decode yB 35 = .ok (.iload_n 3, 1) := by decide +kernel
theorem d36 : decode yB 36 = .ok (.invokestatic 177, 3) := by decide +kernel
theorem d39 : decode yB 39 = .ok (.astore 5, 2) := by decide +kernel
theorem d41 : decode yB 41 = .ok (.aload_n 0, 1) := by decide +kernel
theorem d42 : decode yB 42 = .ok (.aload 5, 2) := by decide +kernel
theorem d44 : decode yB 44 = .ok (.iload_n 3, 1) := by decide +kernel
theorem d45 : decode yB 45 = .ok (.invokestatic 47, 3) := by decide +kernel
theorem d48 : decode yB 48 = .ok (.putfield 15, 3) := by decide +kernel
theorem d51 : decode yB 51 = .ok (.aload_n 0, 1) := by decide +kernel
theorem d52 : decode yB 52 = .ok (.aload 5, 2) := by decide +kernel
theorem d54 : decode yB 54 = .ok (.putfield 9, 3) := by decide +kernel
theorem d57 : decode yB 57 = .ok (.return_, 1) := by decide +kernel
def site : List Cond := [.fieldLink "java/lang/String" 38 "java/lang/String" "COMPACT_STRINGS" "Z", Cmp3.tab, CodL.tab, .laysFinal "java/lang/String" "java/lang/String" "value" "[B", .fieldLink "java/lang/String" 9 "java/lang/String" "value" "[B", .laysFinal "java/lang/String" "java/lang/String" "coder" "B", .fieldLink "java/lang/String" 15 "java/lang/String" "coder" "B"] ++ objW "java/lang/String" 1 ++ staticW "java/lang/String" 177 Cmp3.yN ++ staticW "java/lang/String" 47 CodL.yN
def tab : Cond := tabOf yN yB 6 none site
def P (a : Addr) (D : Cell) (fV fC : Field) (b : Addr) (A : Cell) (z : Int32) (o len : Nat) (args : Array Value) (s : State) : Prop := args = #[.ref a, .ref b, .int (Int32.ofNat o), .int (Int32.ofNat len), .null] ∧ Blank "java/lang/String" a D s ∧ Found "java/lang/String" "value" "[B" fV s ∧ Found "java/lang/String" "coder" "B" fC s ∧ Ch b A s ∧ StaticIs s "java/lang/String" "COMPACT_STRINGS" "Z" (.int z) ∧ ¬ z = 0 ∧ 0 < len ∧ o + len ≤ A.slots.size ∧ len ≤ 536870912 ∧ ∀ i, i < len → ¬ 255 < cv A (o + i)
def E (a : Addr) (D : Cell) (fV fC : Field) (A : Cell) (o len : Nat) (r : Option Value) (s u : State) : Prop := Got a D fV fC A o len r s u
/-- len > 0, no char of the range above 255: a Latin-1 String of their low bytes -/
theorem law (l : Launch) (a : Addr) (D : Cell) (fV fC : Field) (b : Addr) (A : Cell) (z : Int32) (o len : Nat) : Law l yN 5 4 2 35 yB 6 none site (P a D fV fC b A z o len) (E a D fV fC A o len) [⟨a, fC.slot⟩, ⟨a, fV.slot⟩] 1 len := by
  refine Law.of_walk (plainFor_of_name (by decide +kernel)) (by decide +kernel) (by decide +kernel) (by decide) (fun _ _ h => by rw [h.1]; rfl) (fun _ U U' hal hh h => ⟨h.1, h.2.1.mv hal hh, h.2.2.1.al hal, h.2.2.2.1.al hal, h.2.2.2.2.1.mv hal hh, h.2.2.2.2.2.1.there hal hh, h.2.2.2.2.2.2⟩) (fun r U U' V V' h1 hal h2 h => Got.mv r U U' V V' h1 hal h2 h) ?_
  intro p e s m args below meth c s₁ X0 hexec hbytes hml hret hlk hnm hown hh0 W hP
  obtain ⟨rfl, hB, f1, f2, hA, s1, hz, l0, l1, l2, hp⟩ := hP
  have a31 := hA.1.2.2.2
  have c1 : Steps p.tables e below (s₁.setTop (entryFrame m #[.ref a, .ref b, .int (Int32.ofNat o), .int (Int32.ofNat len), .null] 6)) (s₁.setTop (mkF m 0 #[.val (.ref a), .val (.ref b), .val (.int (Int32.ofNat o)), .val (.int (Int32.ofNat len)), .val .null, .unset] [])) := entry rfl
  have c2 : Steps p.tables e below (s₁.setTop (entryFrame m #[.ref a, .ref b, .int (Int32.ofNat o), .int (Int32.ofNat len), .null] 6)) (s₁.setTop (mkF m 1 #[.val (.ref a), .val (.ref b), .val (.int (Int32.ofNat o)), .val (.int (Int32.ofNat len)), .val .null, .unset] [.ref a])) := c1.trans (by
    refine XS.aloadN X0.here hexec rfl (hb hbytes d0) rfl rfl ?_
    exact Steps.refl _)
  obtain ⟨T3, X3, q3, st3⟩ := X0.oinit hexec hown (wks W (objW "java/lang/String" 1)) (g := (mkF m 1 #[.val (.ref a), .val (.ref b), .val (.int (Int32.ofNat o)), .val (.int (Int32.ofNat len)), .val .null, .unset] [.ref a])) rfl (by rw [hml]; rfl) (rest := []) rfl (hb hbytes d1) (W := 0) (by show 2 * 0 + 0 ≤ _; decide) (Nat.le_of_ble_eq_true rfl) (Nat.le_of_ble_eq_true rfl)
  have hh3 := q3.trans hh0
  have c4 : Steps p.tables e below (s₁.setTop (entryFrame m #[.ref a, .ref b, .int (Int32.ofNat o), .int (Int32.ofNat len), .null] 6)) (T3.setTop (mkF m 27 #[.val (.ref a), .val (.ref b), .val (.int (Int32.ofNat o)), .val (.int (Int32.ofNat len)), .val .null, .unset] [])) := (c2.trans (st3 _ (Steps.refl _))).trans (by
    refine XS.iloadN X3.here hexec rfl (hb hbytes d4) rfl ?_
    refine XS.ifYes X3.here hexec rfl (pc0 := 5) rfl (hb hbytes d5) rfl (i0_ne_t (nz32 (by omega) l0)) (by decide) rfl ?_
    exact Steps.refl _)
  obtain ⟨T5, X5, q5, st5⟩ := X3.sget hexec hown (wk W (.fieldLink "java/lang/String" 38 "java/lang/String" "COMPACT_STRINGS" "Z")) s1 (fun _ _ h => by rw [hh3]; exact h) (g := (mkF m 27 #[.val (.ref a), .val (.ref b), .val (.int (Int32.ofNat o)), .val (.int (Int32.ofNat len)), .val .null, .unset] [])) rfl (hb hbytes d27)
  have hh5 := q5.trans hh3
  have c6 : Steps p.tables e below (s₁.setTop (entryFrame m #[.ref a, .ref b, .int (Int32.ofNat o), .int (Int32.ofNat len), .null] 6)) (T5.setTop (mkF m 30 #[.val (.ref a), .val (.ref b), .val (.int (Int32.ofNat o)), .val (.int (Int32.ofNat len)), .val .null, .unset] [.int z])) := c4.trans (st5 _ (Steps.refl _))
  have c7 : Steps p.tables e below (s₁.setTop (entryFrame m #[.ref a, .ref b, .int (Int32.ofNat o), .int (Int32.ofNat len), .null] 6)) (T5.setTop (mkF m 36 #[.val (.ref a), .val (.ref b), .val (.int (Int32.ofNat o)), .val (.int (Int32.ofNat len)), .val .null, .unset] [.int (Int32.ofNat len), .int (Int32.ofNat o), .ref b])) := c6.trans (by
    refine XS.ifNo X5.here hexec rfl (hb hbytes d30) rfl (i0_eq_f hz) ?_
    refine XS.aloadN X5.here hexec rfl (hb hbytes d33) rfl rfl ?_
    refine XS.iloadN X5.here hexec rfl (hb hbytes d34) rfl ?_
    refine XS.iloadN X5.here hexec rfl (hb hbytes d35) rfl ?_
    exact Steps.refl _)
  obtain ⟨v8, T8, X8, E8, g8⟩ := X5.callS hexec (Cmp3.law l b A o len) hown (wks W (staticW "java/lang/String" 177 Cmp3.yN)) (wk W Cmp3.tab) (W := 0) (Nat.le_of_ble_eq_true rfl) (Nat.le_of_ble_eq_true rfl) (Nat.le_refl _) (by show 0 + len ≤ len; omega) (g := (mkF m 36 #[.val (.ref a), .val (.ref b), .val (.int (Int32.ofNat o)), .val (.int (Int32.ofNat len)), .val .null, .unset] [.int (Int32.ofNat len), .int (Int32.ofNat o), .ref b])) rfl (by rw [hml]; rfl) c7 (argsL := [.ref b, .int (Int32.ofNat o), .int (Int32.ofNat len)]) (rest := []) rfl rfl (by show 2 * 0 + 0 ≤ _; decide) (hb hbytes d36) (⟨rfl, hA.mv X5.warmed.alike hh5, l1, l2, hp⟩)
  obtain ⟨e8, z8⟩ := E8
  obtain ⟨rfl, N, n1, n2, n3, n4, n5, n6⟩ := NewArr.mv _ T5 s _ _ hh5.symm (Vm.Alike.refl _) rfl e8
  rw [hh5] at z8
  have hB1 := hB.keep X8.warmed.alike (n6 _ _ hB.1)
  have hne : s.heap.size ≠ a := (Nat.ne_of_lt (Array.getElem?_eq_some_iff.mp hB.1).1).symm
  have c9 : Steps p.tables e below (s₁.setTop (entryFrame m #[.ref a, .ref b, .int (Int32.ofNat o), .int (Int32.ofNat len), .null] 6)) (T8.setTop (mkF m 39 #[.val (.ref a), .val (.ref b), .val (.int (Int32.ofNat o)), .val (.int (Int32.ofNat len)), .val .null, .unset] [.ref s.heap.size])) := g8
  have c10 : Steps p.tables e below (s₁.setTop (entryFrame m #[.ref a, .ref b, .int (Int32.ofNat o), .int (Int32.ofNat len), .null] 6)) (T8.setTop (mkF m 45 #[.val (.ref a), .val (.ref b), .val (.int (Int32.ofNat o)), .val (.int (Int32.ofNat len)), .val .null, .val (.ref s.heap.size)] [.int (Int32.ofNat N.slots.size), .ref s.heap.size, .ref a])) := by
    have hc : Steps p.tables e below (s₁.setTop (entryFrame m #[.ref a, .ref b, .int (Int32.ofNat o), .int (Int32.ofNat len), .null] 6)) (T8.setTop (mkF m 45 #[.val (.ref a), .val (.ref b), .val (.int (Int32.ofNat o)), .val (.int (Int32.ofNat len)), .val .null, .val (.ref s.heap.size)] [.int (Int32.ofNat len), .ref s.heap.size, .ref a])) := c9.trans (by
      refine XS.astore X8.here hexec rfl (hb hbytes d39) rfl rfl rfl ?_
      refine XS.aloadN X8.here hexec rfl (hb hbytes d41) rfl rfl ?_
      refine XS.aload X8.here hexec rfl (hb hbytes d42) rfl rfl ?_
      refine XS.iloadN X8.here hexec rfl (hb hbytes d44) rfl ?_
      exact Steps.refl _)
    rw [n4]; exact hc
  obtain ⟨v11, T11, X11, E11, g11⟩ := X8.callS hexec (CodL.law l s.heap.size N) hown (wks W (staticW "java/lang/String" 47 CodL.yN)) (wk W CodL.tab) (W := 1) (Nat.le_of_ble_eq_true rfl) (Nat.le_of_ble_eq_true rfl) (Nat.le_refl _) (by show 0 + len + 0 ≤ len; omega) (g := (mkF m 45 #[.val (.ref a), .val (.ref b), .val (.int (Int32.ofNat o)), .val (.int (Int32.ofNat len)), .val .null, .val (.ref s.heap.size)] [.int (Int32.ofNat N.slots.size), .ref s.heap.size, .ref a])) rfl (by rw [hml]; rfl) c10 (argsL := [.ref s.heap.size, .int (Int32.ofNat N.slots.size)]) (rest := [.ref a]) rfl rfl (by show 2 * 0 + (1 + 0) ≤ _; decide) (hb hbytes d45) (⟨rfl, n1⟩)
  obtain ⟨rfl, q11⟩ := E11
  have hB11 := hB1.mv (X8.warmed.alike.symm.trans X11.warmed.alike) q11
  have c12 : Steps p.tables e below (s₁.setTop (entryFrame m #[.ref a, .ref b, .int (Int32.ofNat o), .int (Int32.ofNat len), .null] 6)) (T11.setTop (mkF m 48 #[.val (.ref a), .val (.ref b), .val (.int (Int32.ofNat o)), .val (.int (Int32.ofNat len)), .val .null, .val (.ref s.heap.size)] [.int 0, .ref a])) := g11
  obtain ⟨T13, X13, p13, bl13, sl13, st13⟩ := X11.finit hexec hown (wk W (.fieldLink "java/lang/String" 15 "java/lang/String" "coder" "B")) (Or.inr ⟨_, (wk W (.laysFinal "java/lang/String" "java/lang/String" "coder" "B"))⟩) (Or.inl ⟨rfl, hnm⟩) f2 (Or.inl rfl) hB11 (t := .byte) (by decide +kernel) rfl (g := (mkF m 48 #[.val (.ref a), .val (.ref b), .val (.int (Int32.ofNat o)), .val (.int (Int32.ofNat len)), .val .null, .val (.ref s.heap.size)] [.int 0, .ref a])) rfl (rest := []) rfl (hb hbytes d48)
  have c14 : Steps p.tables e below (s₁.setTop (entryFrame m #[.ref a, .ref b, .int (Int32.ofNat o), .int (Int32.ofNat len), .null] 6)) (T13.setTop (mkF m 54 #[.val (.ref a), .val (.ref b), .val (.int (Int32.ofNat o)), .val (.int (Int32.ofNat len)), .val .null, .val (.ref s.heap.size)] [.ref s.heap.size, .ref a])) := (c12.trans (st13 _ (Steps.refl _))).trans (by
    refine XS.aloadN X13.here hexec rfl (hb hbytes d51) rfl rfl ?_
    refine XS.aload X13.here hexec rfl (hb hbytes d52) rfl rfl ?_
    exact Steps.refl _)
  obtain ⟨T15, X15, p15, bl15, sl15, st15⟩ := X13.finit hexec hown (wk W (.fieldLink "java/lang/String" 9 "java/lang/String" "value" "[B")) (Or.inr ⟨_, (wk W (.laysFinal "java/lang/String" "java/lang/String" "value" "[B"))⟩) (Or.inl ⟨rfl, hnm⟩) f1 (Or.inl rfl) bl13 (t := (.array .byte)) (by decide +kernel) rfl (g := (mkF m 54 #[.val (.ref a), .val (.ref b), .val (.int (Int32.ofNat o)), .val (.int (Int32.ofNat len)), .val .null, .val (.ref s.heap.size)] [.ref s.heap.size, .ref a])) rfl (rest := []) rfl (hb hbytes d54)
  have c16 : Steps p.tables e below (s₁.setTop (entryFrame m #[.ref a, .ref b, .int (Int32.ofNat o), .int (Int32.ofNat len), .null] 6)) (T15.setTop (mkF m 57 #[.val (.ref a), .val (.ref b), .val (.int (Int32.ofNat o)), .val (.int (Int32.ofNat len)), .val .null, .val (.ref s.heap.size)] [])) := c14.trans (st15 _ (Steps.refl _))
  have ap := apart (Or.inr ⟨_, (wk W (.laysFinal "java/lang/String" "java/lang/String" "value" "[B"))⟩) (Or.inr ⟨_, (wk W (.laysFinal "java/lang/String" "java/lang/String" "coder" "B"))⟩) f1 f2 (t₁ := .array .byte) (t₂ := .byte) (by decide +kernel) (by decide +kernel) (by decide)
  have al := X8.warmed.alike.symm.trans X15.warmed.alike
  have n7 : T11.heap[s.heap.size]? = some N := by rw [q11]; exact n1.1
  exact ⟨T15, none, _, _, _, X15, by simp, rfl, by omega, (fun _ => rfl), ⟨rfl, _, N, bl15, ((Same.refl D _).set _ (by simp)).set _ (by simp), sl15, (Cell.slots_setSlot_ne _ ap).trans sl13, n1.keep al (p15.other hne (p13.other hne n7)), n2, by rw [al.findClass]; exact n3, n4, n5, fun y c h1 h2 => p15.other h1 (p13.other h1 (by rw [q11]; exact n6 y c h2)), by rw [p15.2.2, p13.2.2, q11]; exact z8⟩, fun fs hl => c16.trans (X15.returnOut hexec hret (hb hbytes d57) hl)⟩
end New4
namespace New1
def yN : MethodName := ⟨"java/lang/String", "<init>", "([C)V"⟩
abbrev yB : ByteArray := jdk_42_method_3_code
theorem d0 : decode yB 0 = .ok (.aload_n 0, 1) := by decide +kernel
theorem d1 : decode yB 1 = .ok (.aload_n 1, 1) := by decide +kernel
theorem d2 : decode yB 2 = .ok (.iconst 0, 1) := by decide +kernel
theorem d3 : decode yB 3 = .ok (.aload_n 1, 1) := by decide +kernel
theorem d4 : decode yB 4 = .ok (.arraylength, 1) := by decide +kernel
theorem d5 : decode yB 5 = .ok (.aconst_null, 1) := by decide +kernel
theorem d6 : decode yB 6 = .ok (.invokespecial 27, 3) := by decide +kernel
theorem d9 : decode yB 9 = .ok (.return_, 1) := by decide +kernel
def site : List Cond := [New4.tab] ++ initW "java/lang/String" 27 New4.yN
def tab : Cond := tabOf yN yB 2 none site
def P (a : Addr) (D : Cell) (fV fC : Field) (b : Addr) (A : Cell) (z : Int32) (args : Array Value) (s : State) : Prop := args = #[.ref a, .ref b] ∧ Blank "java/lang/String" a D s ∧ Found "java/lang/String" "value" "[B" fV s ∧ Found "java/lang/String" "coder" "B" fC s ∧ Ch b A s ∧ StaticIs s "java/lang/String" "COMPACT_STRINGS" "Z" (.int z) ∧ ¬ z = 0 ∧ 0 < A.slots.size ∧ A.slots.size ≤ 536870912 ∧ ∀ i, i < A.slots.size → ¬ 255 < cv A i
def E (a : Addr) (D : Cell) (fV fC : Field) (A : Cell) (r : Option Value) (s u : State) : Prop := Got a D fV fC A 0 A.slots.size r s u
/-- new String(chars), not empty, no char above 255: a Latin-1 String of their low bytes -/
theorem law (l : Launch) (a : Addr) (D : Cell) (fV fC : Field) (b : Addr) (A : Cell) (z : Int32) : Law l yN 2 1 3 52 yB 2 none site (P a D fV fC b A z) (E a D fV fC A) [⟨a, fC.slot⟩, ⟨a, fV.slot⟩] 1 A.slots.size := by
  refine Law.of_walk (plainFor_of_name (by decide +kernel)) (by decide +kernel) (by decide +kernel) (by decide) (fun _ _ h => by rw [h.1]; rfl) (fun _ U U' hal hh h => ⟨h.1, h.2.1.mv hal hh, h.2.2.1.al hal, h.2.2.2.1.al hal, h.2.2.2.2.1.mv hal hh, h.2.2.2.2.2.1.there hal hh, h.2.2.2.2.2.2⟩) (fun r U U' V V' h1 hal h2 h => Got.mv r U U' V V' h1 hal h2 h) ?_
  intro p e s m args below meth c s₁ X0 hexec hbytes hml hret hlk hnm hown hh0 W hP
  obtain ⟨rfl, hB, f1, f2, hA, s1, hz, l0, l2, hp⟩ := hP
  have c1 : Steps p.tables e below (s₁.setTop (entryFrame m #[.ref a, .ref b] 2)) (s₁.setTop (mkF m 0 #[.val (.ref a), .val (.ref b)] [])) := entry rfl
  have c2 : Steps p.tables e below (s₁.setTop (entryFrame m #[.ref a, .ref b] 2)) (s₁.setTop (mkF m 6 #[.val (.ref a), .val (.ref b)] [.null, .int (Int32.ofNat A.slots.size), .int 0, .ref b, .ref a])) := c1.trans (by
    refine XS.aloadN X0.here hexec rfl (hb hbytes d0) rfl rfl ?_
    refine XS.aloadN X0.here hexec rfl (hb hbytes d1) rfl rfl ?_
    refine iconstV X0.here hexec rfl 0 (hb hbytes d2) (by decide) ?_
    refine XS.aloadN X0.here hexec rfl (hb hbytes d3) rfl rfl ?_
    refine X0.alen hexec (hA.1.mv X0.warmed.alike hh0) rfl rfl (hb hbytes d4) ?_
    refine XS.aconstNull X0.here hexec rfl (hb hbytes d5) ?_
    exact Steps.refl _)
  obtain ⟨v3, T3, X3, E3, g3⟩ := X0.callN hexec (New4.law l a D fV fC b A z 0 A.slots.size) rfl hown (wks W (initW "java/lang/String" 27 New4.yN)) (W New4.tab (by simp only [site, List.mem_cons, List.mem_append, true_or, or_true])) (W := 0) (Nat.le_of_ble_eq_true rfl) (Nat.le_of_ble_eq_true rfl) (Nat.le_refl _) (by show 0 + A.slots.size ≤ A.slots.size; omega) (g := (mkF m 6 #[.val (.ref a), .val (.ref b)] [.null, .int (Int32.ofNat A.slots.size), .int (Int32.ofNat 0), .ref b, .ref a])) rfl (by rw [hml]; rfl) c2 (argsL := [.ref b, .int (Int32.ofNat 0), .int (Int32.ofNat A.slots.size), .null]) (rest := []) rfl rfl (by show 2 * 0 + 0 ≤ _; decide) (hb hbytes d6) (⟨rfl, hB.mv X0.warmed.alike hh0, f1.al X0.warmed.alike, f2.al X0.warmed.alike, hA.mv X0.warmed.alike hh0, s1.there X0.warmed.alike hh0, hz, l0, by omega, l2, fun i hi => by rw [Nat.zero_add]; exact hp i hi⟩)
  have e0 := Got.mv _ s₁ s _ _ hh0.symm (Vm.Alike.refl _) rfl E3
  obtain rfl := e0.1
  have c4 : Steps p.tables e below (s₁.setTop (entryFrame m #[.ref a, .ref b] 2)) (T3.setTop (mkF m 9 #[.val (.ref a), .val (.ref b)] [])) := g3
  exact ⟨T3, none, _, _, _, X3, by simp, rfl, by omega, (fun _ => rfl), e0, fun fs hl => c4.trans (X3.returnOut hexec hret (hb hbytes d9) hl)⟩
theorem pays {l : Launch} {R : Room} {p : Program} {e : Env} {below : List Frame} {s : State} {sargs : Array Value} {len W : Nat} (a : Addr) (D : Cell) (fV fC : Field) (b : Addr) (A : Cell) (z : Int32) (htab : tab.before sargs s = true) (hfr : 4 ≤ R.frames) (hlo : W + 65 ≤ R.locals) :
    Back l R p e below s sargs yN len W (fun A₁ a₁ => A₁.cells + 1 ≤ R.cells ∧ A₁.slots + A.slots.size ≤ R.slots ∧ P a D fV fC b A z a₁ A₁.U) (fun A₁ _ v₁ B₁ => E a D fV fC A v₁ A₁.U B₁.U ∧ B₁.locs = A₁.locs ++ [⟨a, fC.slot⟩, ⟨a, fV.slot⟩] ∧ B₁.cells = A₁.cells + 1 ∧ B₁.slots = A₁.slots + A.slots.size) :=
  (law l a D fV fC b A z).pays htab hfr (by omega)
end New1
end StrChars
namespace StrChars.Road
open Jvm Sem ClassFile Op Lib Jvm.Stand Jvm.Free Jvm.Free.XT
open Jvm.Lib.Cold (StaticIs)
abbrev ST : String := "java/lang/String"
/-- every table word that New1's law asks, flat -/
abbrev words : List Jvm.Cond := [.code New1.yN New1.yB 2 none, .initialized ST, .methodLink ST 27 New4.yN, .instanceMethod New4.yN,
  .code New4.yN New4.yB 6 none, .fieldLink ST 38 ST "COMPACT_STRINGS" "Z", .laysFinal ST ST "value" "[B", .fieldLink ST 9 ST "value" "[B", .laysFinal ST ST "coder" "B", .fieldLink ST 15 ST "coder" "B",
  .methodLink ST 1 Lib.objectInit, .instanceMethod Lib.objectInit, .code Lib.objectInit ⟨#[0xb1]⟩ 1 none, .methodLink ST 177 Cmp3.yN, .static Cmp3.yN, .methodLink ST 47 CodL.yN, .static CodL.yN,
  .code Cmp3.yN Cmp3.yB 6 (some (.array .byte)), .initialized U16, .arrayClass .byte, .methodLink U16 115 Cmp5.yN, .static Cmp5.yN, .code Cmp5.yN Cmp5.yB 7 (some .int), .code CodL.yN CodL.yB 2 (some .byte)]
theorem tab_of {a : Array Value} {s : State} (h : ∀ w ∈ words, w.before a s = true) : New1.tab.before a s = true := by
  have h5 : Cmp5.tab.before a s = true := unparts (wk h (.code Cmp5.yN Cmp5.yB 7 (some .int))) (wks h (.initialized Cmp5.yN.cls :: Cmp5.site))
  have hc : CodL.tab.before a s = true := unparts (wk h (.code CodL.yN CodL.yB 2 (some .byte))) (wks h (.initialized CodL.yN.cls :: CodL.site))
  have q5 : ∀ w ∈ Cmp5.tab :: words, w.before a s = true := fun w hw => (List.mem_cons.mp hw).elim (fun e => e ▸ h5) (h w)
  have h3 : Cmp3.tab.before a s = true := unparts (wk q5 (.code Cmp3.yN Cmp3.yB 6 (some (.array .byte)))) (wks q5 (.initialized Cmp3.yN.cls :: Cmp3.site))
  have q3 : ∀ w ∈ Cmp3.tab :: CodL.tab :: words, w.before a s = true := fun w hw => (List.mem_cons.mp hw).elim (fun e => e ▸ h3) fun hw => (List.mem_cons.mp hw).elim (fun e => e ▸ hc) (h w)
  have h4 : New4.tab.before a s = true := unparts (wk q3 (.code New4.yN New4.yB 6 none)) (wks q3 (.initialized New4.yN.cls :: New4.site))
  have q4 : ∀ w ∈ New4.tab :: words, w.before a s = true := fun w hw => (List.mem_cons.mp hw).elim (fun e => e ▸ h4) (h w)
  exact unparts (wk q4 (.code New1.yN New1.yB 2 none)) (wks q4 (.initialized New1.yN.cls :: New1.site))
/-- the words ride from the start Z to the walk's own state -/
theorem moved {Z s : State} {a0 args : Array Value} (hZ : Z.Warmed39 s.vm) (hw : ∀ d ∈ words, d.before a0 Z = true) : ∀ d ∈ words, d.before args s = true := fun d hd => by
  have q := hw d hd
  have t : ∀ d ∈ words, d = .arrayClass .byte ∨ (d.onTables && d.keepsFace) = true := by decide +kernel
  rcases t d hd with rfl | t
  · exact RoadKit.mvA hZ q
  · exact RoadKit.mv hZ q t
/-- WHAT COMES BACK, over the tables of the start Z: h the heap at the call, h' behind it -/
def Q (Z : State) (x : Addr) (A : Cell) (h : Heap) (v : Option Value) (h' : Heap) (L : List Loc) : Prop := v = none ∧ (∀ y ∈ L, y.base = x) ∧ RoadKit.Keep h h' [x] ∧ h'.size = h.size + 1 ∧ RoadKit.Exa Z h' x ST ∧ RoadKit.Fld Z h' x ST "value" "[B" (.ref h.size) ∧ RoadKit.Fld Z h' x ST "coder" "B" (.int 0) ∧
  (∃ V : Cell, RoadKit.Arr Z h' h.size V .byte ∧ V.vm = .none ∧ Z.vm.findClass "[B" = some V.cls ∧ V.slots.size = A.slots.size ∧ ∀ j, j < A.slots.size → V.slots[j]? = some (.int (lo8 (cv A j)))) ∧
  ∀ (O n d : String) (w : Value), RoadKit.Fld Z h x O n d w → RoadKit.slotOf Z O n d ≠ RoadKit.slotOf Z ST "value" "[B" → RoadKit.slotOf Z O n d ≠ RoadKit.slotOf Z ST "coder" "B" → RoadKit.Fld Z h' x O n d w
/-- **new String(chars) AT A CALL, IN THE ROAD'S FORM**: for specialBack behind newO: x the fresh String, b the char[] with the cell A -/
theorem back {p : Program} {l : Launch} {e : Env} {R : Room} {s : State} {args : Array Value} {below : List Frame} {len W : Nat} {Z : State} {a0 : Array Value} {h : Heap} (hZ : Z.Warmed39 s.vm) (hw : ∀ d ∈ words, d.before a0 Z = true) {kI : Nat} (wi : (Jvm.Cond.instantiable ST kI).before a0 Z = true)
    {x b : Addr} {A : Cell} {z : Int32} {v0 c0 : Value} (E : RoadKit.Exa Z h x ST) (V : RoadKit.Fld Z h x ST "value" "[B" v0) (C : RoadKit.Fld Z h x ST "coder" "B" c0) (K : RoadKit.Arr Z h b A .char) (hty : Typed .char A) (S : RoadKit.Sta Z h ST "COMPACT_STRINGS" "Z" (.int z)) (hz : ¬ z = 0)
    (l0 : 0 < A.slots.size) (l2 : A.slots.size ≤ 536870912) (hp : ∀ i, i < A.slots.size → ¬ 255 < cv A i) (hfr : 4 ≤ R.frames) (hlo : W + 65 ≤ R.locals) :
    Back l R p e below s args New1.yN len W (fun P a => a = #[.ref x, .ref b] ∧ P.U.heap = h ∧ P.cells + 1 ≤ R.cells ∧ P.slots + A.slots.size ≤ R.slots)
      (fun P _ v B => ∃ L, Q Z x A h v B.U.heap L ∧ B.locs = P.locs ++ L ∧ B.cells = P.cells + 1 ∧ B.slots = P.slots + A.slots.size) := by
  intro m meth c P g ig mk a X hg hsize hdg hW hn hp'
  obtain ⟨rfl, rfl, r1, r2⟩ := hp'
  have al : Z.vm.Alike P.U.vm := hZ.alike.trans X.warmed.alike
  obtain ⟨D, cfV, kV, iV, fV, hD, gV, stV, knV, obV, asV, slV⟩ := id V
  obtain ⟨D', cfC, kC, iC, fC, hD', gC, stC, -, -, asC, slC⟩ := id C
  cases hD.symm.trans hD'
  obtain ⟨D2, kD, e1, e2, e3, e4, e5⟩ := id E
  cases hD.symm.trans e1
  obtain ⟨c2, k2, i1, i2, i3, -⟩ := Cond.instantiable_spec wi
  cases e2.symm.trans i1
  cases e3.symm.trans i2
  obtain ⟨kU, u1, u2⟩ := al.2.2 _ _ e3
  have hB : Blank ST x D P.U := ⟨hD, ⟨knV, fun q hq => by rw [hq] at obV; cases obV⟩, by rw [al.findClass]; exact e2, kU, u1, by rw [u2]; exact i3, by rw [u2]; exact e5 i3⟩
  have F1 : Found ST "value" "[B" fV P.U := ⟨SBG.found_only al ⟨cfV, kV, iV, gV⟩, stV⟩
  have F2 : Found ST "coder" "B" fC P.U := ⟨SBG.found_only al ⟨cfC, kC, iC, gC⟩, stC⟩
  have hA : Ch b A P.U := ⟨⟨K.1, State.isArrayOf_alike al K.2.1, K.2.2, by omega⟩, hty⟩
  have hS : StaticIs P.U ST "COMPACT_STRINGS" "Z" (.int z) := by
    obtain ⟨cfS, iS, kS, fS, st, cS, t1, t2, t3, t4, t5, t6, t7⟩ := S
    exact StaticIs.there (s := { Z with heap := P.U.heap }) ⟨cfS, iS, kS, fS, st, cS, t1, t2, t3, t4, t5, (fun q => by rw [q] at t6; cases t6), t7⟩ al rfl
  obtain ⟨v, B, X', ⟨⟨hv, E', V', q1, q2, q3, q4, q5, q6, q7, q8, q9, q10, q11⟩, hl, hc, hs⟩, st⟩ := New1.pays x D fV fC b A z (tab_of (moved hZ hw)) hfr hlo m meth c P g ig mk _ X hg hsize hdg hW hn ⟨r1, r2, rfl, hB, F1, F2, hA, hS, hz, l0, l2, hp⟩
  have al' : Z.vm.Alike B.U.vm := hZ.alike.trans X'.warmed.alike
  have hsz : E'.slots.size = D.slots.size := by
    obtain ⟨-, -, -, kB, w1, w2, w3⟩ := q1
    obtain ⟨kB', y1, y2⟩ := al'.2.2 _ _ e3
    rw [q2.2.1] at w1
    cases w1.symm.trans y1
    rw [w3, e5 i3, y2]
  refine ⟨v, B, X', ⟨_, ⟨hv, ?_, ⟨by omega, fun y cy hy hn' => q10 y cy (by simpa using hn') hy, fun y cy hy => ?_⟩, q11, ⟨E', _, q1.1, by rw [q2.2.1]; exact e2, by rw [q2.2.1]; exact e3, by rw [q2.1]; exact obV, fun _ => by rw [hsz]; exact e5 i3⟩,
    ⟨E', cfV, kV, iV, fV, q1.1, gV, stV, by rw [q2.1]; exact knV, by rw [q2.1]; exact obV, by rw [q2.2.1]; exact asV, q3⟩, ⟨E', cfC, kC, iC, fC, q1.1, gC, stC, by rw [q2.1]; exact knV, by rw [q2.1]; exact obV, by rw [q2.2.1]; exact asC, q4⟩,
    ⟨V', ⟨q5.1, State.isArrayOf_alike al'.symm q5.2.1, q5.2.2.1⟩, q6, by rw [← al'.findClass]; exact q7, q8, fun j hj => by have := q9 j hj; rwa [Nat.zero_add] at this⟩, fun O n d w F n1 n2 => ?_⟩, hl, hc, hs⟩, st⟩
  · intro y hy
    simp only [List.mem_cons, List.not_mem_nil, or_false] at hy
    rcases hy with rfl | rfl <;> rfl
  · by_cases q : y = x
    · subst q
      cases hD.symm.trans hy
      exact ⟨E', q1.1, q2.2.1, q2.1, hsz⟩
    · exact ⟨cy, q10 y cy q hy, rfl, rfl, rfl⟩
  · obtain ⟨D3, cf, k, i, f, g1, g2, g3, g4, g5, g6, g7⟩ := F
    cases hD.symm.trans g1
    simp only [RoadKit.slotOf, g2, gV, gC, Option.map_some, Option.getD_some] at n1 n2
    exact ⟨E', cf, k, i, f, q1.1, g2, g3, by rw [q2.1]; exact g4, by rw [q2.1]; exact g5, by rw [q2.2.1]; exact g6, by rw [q2.2.2 f.slot (by simp [n1, n2])]; exact g7⟩
end StrChars.Road
namespace StrChars.Road
open Jvm Sem ClassFile Op Lib Jvm.Stand Jvm.Free Jvm.Free.XT
/-- WHAT COMES BACK, the byte[] as a list of values -/
def QA (Z : State) (x : Addr) (zn : Int32) (cs : List Int32) (h : Heap) (v : Option Value) (h' : Heap) (L : List Loc) : Prop := v = none ∧ (∀ y ∈ L, y.base = x) ∧ RoadKit.Keep h h' [x] ∧ h'.size = h.size + 1 ∧ RoadKit.Exa Z h' x ST ∧ RoadKit.Fld Z h' x ST "value" "[B" (.ref h.size) ∧ RoadKit.Fld Z h' x ST "coder" "B" (.int 0) ∧
  (∃ kb, Z.vm.findClass "[B" = some kb ∧ RoadKit.Arv Z h' h.size kb .byte zn (cs.map fun c => .int (lo8 c)) (.int 0)) ∧
  ∀ (O n d : String) (w : Value), RoadKit.Fld Z h x O n d w → RoadKit.slotOf Z O n d ≠ RoadKit.slotOf Z ST "value" "[B" → RoadKit.slotOf Z O n d ≠ RoadKit.slotOf Z ST "coder" "B" → RoadKit.Fld Z h' x O n d w
/-- **new String(chars) AT A CALL, THE ARRAYS AS LISTS**: the char[] at b holds cs, not empty, no char above 255 -/
theorem backArv {p : Program} {l : Launch} {e : Env} {R : Room} {s : State} {args : Array Value} {below : List Frame} {len W : Nat} {Z : State} {a0 : Array Value} {h : Heap} (hZ : Z.Warmed39 s.vm) (hw : ∀ d ∈ words, d.before a0 Z = true) {kI : Nat} (wi : (Jvm.Cond.instantiable ST kI).before a0 Z = true)
    {x b : Addr} {k : ClassId} {zn z : Int32} {cs : List Int32} {dv v0 c0 : Value} (E : RoadKit.Exa Z h x ST) (V : RoadKit.Fld Z h x ST "value" "[B" v0) (C : RoadKit.Fld Z h x ST "coder" "B" c0) (K : RoadKit.Arv Z h b k .char zn (cs.map Value.int) dv) (S : RoadKit.Sta Z h ST "COMPACT_STRINGS" "Z" (.int z)) (hz : ¬ z = 0)
    (hlen : zn.toNatClampNeg = cs.length) (h0 : 0 < cs.length) (hbig : cs.length ≤ 536870912) (hall : ∀ c ∈ cs, ¬ 255 < c) (hfr : 4 ≤ R.frames) (hlo : W + 65 ≤ R.locals) :
    Back l R p e below s args New1.yN len W (fun P a => a = #[.ref x, .ref b] ∧ P.U.heap = h ∧ P.cells + 1 ≤ R.cells ∧ P.slots + cs.length ≤ R.slots)
      (fun P _ v B => ∃ L, QA Z x zn cs h v B.U.heap L ∧ B.locs = P.locs ++ L ∧ B.cells = P.cells + 1 ∧ B.slots = P.slots + cs.length) := by
  obtain ⟨A, K1, K2, K3, K4, K5, K6⟩ := K
  have e : A.slots.size = cs.length := K3.trans hlen
  have hat : ∀ (i : Nat) (hi : i < cs.length), A.slots[i]? = some (.int cs[i]) := fun i hi => by rw [K5 i (by omega)]; simp [List.getD_eq_getElem?_getD, hi]
  have hcv : ∀ (i : Nat) (hi : i < cs.length), cv A i = cs[i] := fun i hi => by unfold cv; rw [hat i hi]
  have hty : Typed .char A := fun i v hv => by
    have hi : i < A.slots.size := (Array.getElem?_eq_some_iff.mp hv).1
    have q := K5 i hi
    rw [hv] at q
    rw [Option.some.inj q]
    exact K6 i hi
  refine Back.mono (back hZ hw wi E V C K1 hty S hz (by omega) (by omega) (fun i hi => by rw [hcv i (by omega)]; exact hall _ (List.getElem_mem _)) hfr hlo) (fun P a hp => ⟨hp.1, hp.2.1, hp.2.2.1, by rw [e]; exact hp.2.2.2⟩) (fun P a v B hp hq => ?_)
  obtain ⟨L, ⟨q1, q2, q3, q4, q5, q6, q7, ⟨V', v1, v2, v3, v4, v5⟩, q9⟩, hl, hc, hs⟩ := hq
  refine ⟨L, ⟨q1, q2, q3, q4, q5, q6, q7, ⟨V'.cls, v3, V', v1, rfl, by rw [v4, e, hlen], K4, fun i hi => ?_, fun i hi => ?_⟩, q9⟩, hl, hc, by rw [hs, e]⟩
  · have hi' : i < cs.length := by omega
    rw [v5 i (by omega), hcv i hi']; simp [List.getD_eq_getElem?_getD, hi']
  · have hi' : i < cs.length := by omega
    simp only [List.getD_eq_getElem?_getD, List.getElem?_map, List.getElem?_eq_getElem hi', Option.map_some, Option.getD_some]
    exact fits_lo8 _
end StrChars.Road
namespace StrChars.Road
open Jvm Sem ClassFile Op Lib Jvm.Stand Jvm.Free Jvm.Free.XT
/-- WHAT COMES BACK, in the writer's own shape -/
def QV (Z : State) (x : Addr) (N : Int32) (bs : List Int32) (h : Heap) (n0 : Nat) (v : Option Value) (h' : Heap) (L : List Loc) : Prop := v = none ∧ RoadKit.Fr n0 L ∧ RoadKit.Keep h h' [x] ∧ RoadKit.Exa Z h' x ST ∧ RoadKit.Fld Z h' x ST "coder" "B" (.int 0) ∧
  ∃ (t : Addr) (kb : ClassId), n0 ≤ t ∧ h.size ≤ t ∧ ¬ t = x ∧ RoadKit.Fld Z h' x ST "value" "[B" (.ref t) ∧ RoadKit.Arv Z h' t kb .byte N (bs.map Value.int) (.int 0)
/-- **new String(chars) AT A CALL, FOR THE WRITER**: a char[] of n known ints, each 0 to 255 -/
theorem backV {p : Program} {l : Launch} {e : Env} {R : Room} {s : State} {args : Array Value} {below : List Frame} {len W : Nat} {Z : State} {a0 : Array Value} {h : Heap} (hZ : Z.Warmed39 s.vm) (hw : ∀ d ∈ words, d.before a0 Z = true) {kI : Nat} (wi : (Jvm.Cond.instantiable ST kI).before a0 Z = true)
    {x b : Addr} {kC : ClassId} {cs bs : List Int32} {d v0 c0 : Value} {z N : Int32} {n n0 : Nat} (hx0 : n0 ≤ x) (hh0 : n0 ≤ h.size) (E : RoadKit.Exa Z h x ST) (V : RoadKit.Fld Z h x ST "value" "[B" v0) (C : RoadKit.Fld Z h x ST "coder" "B" c0) (K : RoadKit.Arv Z h b kC .char N (cs.map Value.int) d) (S : RoadKit.Sta Z h ST "COMPACT_STRINGS" "Z" (.int z)) (hz : ¬ z = 0)
    (hn : cs.length = n) (hN : N = Int32.ofNat n) (l0 : 0 < n) (l2 : n ≤ 4000) (hp : ∀ c ∈ cs, ¬ c < 0 ∧ ¬ (255 : Int32) < c) (hb : bs = cs.map (fun c => c.toInt8.toInt32)) (hfr : 4 ≤ R.frames) (hlo : W + 65 ≤ R.locals) :
    Back l R p e below s args (⟨"java/lang/String", "<init>", "([C)V"⟩ : MethodName) len W (fun P a => a = #[.ref x, .ref b] ∧ P.U.heap = h ∧ P.cells + 1 ≤ R.cells ∧ P.slots + n ≤ R.slots)
      (fun P _ v B => ∃ L, QV Z x N bs h n0 v B.U.heap L ∧ B.locs = P.locs ++ L ∧ B.cells = P.cells + 1 ∧ B.slots = P.slots + n) := by
  subst hn hN hb
  refine Back.mono (backArv hZ hw wi E V C K S hz (n32 (by omega)) l0 (by omega) (fun c hc => (hp c hc).2) hfr hlo) (fun P a hp => hp) (fun P a v B hp hq => ?_)
  obtain ⟨L, ⟨q1, q2, q3, q4, q5, q6, q7, ⟨kb, v1, v2⟩, q9⟩, hl, hc, hs⟩ := hq
  exact ⟨L, ⟨q1, fun y hy => by rw [q2 y hy]; exact hx0, q3, q5, q7, h.size, kb, hh0, Nat.le_refl _, Nat.ne_of_gt E.lt, q6, by rw [List.map_map]; exact v2⟩, hl, hc, hs⟩
end StrChars.Road
end Jvm.Pilot.@@N@@

namespace Jvm.Pilot.@@N@@
open Jvm Jvm.ClassFile Sem Op Lib Jvm.Free Jvm.Stand Jvm.LawKit Jvm.RoadKit Bundle Jvm.OwnKit
section StrKit
variable {p : Program} {l : Launch} {e : Env} {R : Room} {s : State} {m : MethodId} {args : Array Value} {below : List Frame} {meth : Method} {c : Code} {Z : State} {a0 : Array Value} {EL : List (String × Nat)} {cw : Prop} {own : String} {n0 : Nat} {bytes : ByteArray} {maxL : Nat} {ret : Option FieldType} {nm : String} {T : State} {h : Heap} {C S : Nat} {sf : List Addr} {P : State → Outcome → Prop}
theorem G.newStr (H : Hs p l e R s m args below meth c Z a0 EL cw own n0 bytes maxL ret nm T h C S sf) (hws : ∀ d ∈ StrChars.Road.words, d.before a0 Z = true) {kI : Nat} (wi : (Jvm.Cond.instantiable "java/lang/String" kI).before a0 Z = true) {index : Nat} (w1 : (Jvm.Cond.methodLink own index (⟨"java/lang/String", "<init>", "([C)V"⟩ : MethodName)).before a0 Z = true) (w2 : (Jvm.Cond.instanceMethod (⟨"java/lang/String", "<init>", "([C)V"⟩ : MethodName)).before a0 Z = true)
    {x b : Addr} {kC : ClassId} {cs : List Int32} {d v0 c0 : Value} {z N : Int32} {n : Nat} (g : n0 ≤ x) (E : Exa Z h x "java/lang/String") (V : Fld Z h x "java/lang/String" "value" "[B" v0) (Cd : Fld Z h x "java/lang/String" "coder" "B" c0) (K : Arv Z h b kC .char N (cs.map Value.int) d) (Sc : Sta Z Z.heap "java/lang/String" "COMPACT_STRINGS" "Z" (.int z)) (hz : ¬ z = 0)
    (hn : cs.length = n) (hN : N = Int32.ofNat n) (l0 : 0 < n) (l2 : n ≤ 4000) (hp : ∀ c ∈ cs, ¬ c < 0 ∧ ¬ (255 : Int32) < c) (hsf : Sf Z EL h sf x) {rest : List Value} {W : Nat} {pc pc' : Nat} {L : Array Slot} (hL : L.size = maxL) (hW : (rest.map fun v => v.category).sum = W) (hd : decode bytes pc = .ok (.invokespecial index, 3)) (hp' : pc + 3 = pc') (hfr : 4 ≤ R.frames) (hlo : W + 65 ≤ R.locals) (hc : C + 1 ≤ R.cells) (hsl : S + n ≤ R.slots)
    (k : ∀ T' h' t kb, h.size ≤ t → Hs p l e R s m args below meth c Z a0 EL cw own n0 bytes maxL ret nm T' h' (C + 1) (S + n) (t :: sf) → Keep h h' [x] → Str Z h' x t kb cs → Go p e below P (T'.setTop (mkF m pc' L rest))) : Go p e below P (T.setTop (mkF m pc L (.ref b :: .ref x :: rest))) := by
  subst hp'
  obtain ⟨hM, vm0, k0, locs, X, h1, h2, h3, h4, h5, h6, h7, h8, h9, hO⟩ := id H
  have wc : (Jvm.Cond.code StrChars.New1.yN StrChars.New1.yB 2 none).before a0 Z = true := hws _ (List.mem_of_getElem? (i := 0) rfl)
  obtain ⟨v, vm₁, B, hw, X', ⟨L', ⟨q1, q2, q3, q4, q5, t, kb, q6, q7, q8, q9, q10⟩, r2, r3, r4⟩, st'⟩ := X.specialBack H.exec (y := (⟨"java/lang/String", "<init>", "([C)V"⟩ : MethodName)) rfl h5 (mvT (s := s.setVm vm0) h4 w1) (mvT (s := s.setVm vm0) h4 w2) (mvT (s := s.setVm vm0) h4 wc) (by decide)
    (StrChars.Road.backV (W := W) (s := s.setVm vm0) h4 hws wi g H.le E V Cd K (Sta.ext hO.2 Sc) hz hn hN l0 l2 hp rfl hfr hlo) (g := mkF m pc L (.ref b :: .ref x :: rest)) rfl (by rw [hM.2.2.2.1]; exact hL) (Steps.refl _) (a := x) (argsL := [.ref b]) (rest := rest) (lenOf (show parseMethodDescriptor "([C)V" = some ⟨[.array .char], none⟩ by decide +kernel) rfl) rfl (by show 2 * 0 + _ ≤ _; omega) (H.dec hd) (fun _ _ => ⟨rfl, h1, hc, hsl⟩)
  subst q1
  have sx : ∀ y ∈ [x], Safe Z EL vm0 h y := fun y hy => by rw [List.mem_singleton.mp hy]; exact hsf.safe h4 h8
  have hC := CHr.keep q3 sx h7.1
  refine Go.tr st' (k B.U B.U.heap t kb q7 ⟨hM, vm0, k0, B.locs, by rw [← r3, ← r4]; exact X', rfl, h2, Nat.le_trans h3 q3.1, h4, h5, by rw [r2]; exact Fr.app h6 q2, h7.trans hC, fun y hy => ?_, h9, hO.keep q3 (fun y hy => by rw [List.mem_singleton.mp hy]; exact g)⟩ q3 ⟨q4, q5, q9, ?_, hp, by rw [hn]; exact l2⟩)
  · rcases List.mem_cons.mp hy with rfl | hy
    · exact ⟨q10.lt, Safe.keep q3 sx h7.1 (Safe.new q7)⟩
    · exact ⟨Nat.lt_of_lt_of_le (h8 y hy).1 q3.1, Safe.keep q3 sx h7.1 (h8 y hy).2⟩
  · rw [hn, ← hN]; rw [List.map_map] at q10; exact q10
end StrKit
end Jvm.Pilot.@@N@@
namespace Jvm.Pilot.@@N@@
open Jvm Jvm.ClassFile Sem Op Lib Jvm.Free Jvm.Stand Jvm.LawKit Jvm.RoadKit Bundle Jvm.OwnKit Jvm.Pilot.@@N@@.Jvm.D
abbrev ELs : List (String × Nat) := [("com/example/formboard/formboard/cli/Arguments", 33)]
def Env1 (Z : State) (a0 : Array Value) (n0 : Nat) (uu0 : Addr) (uu1 : Addr) (uu2 : ClassId) (uu3 : ClassId) (uu4 : Int32) (uu5 : Value) : Prop := (∀ d ∈ tables_1, d.before a0 Z = true) ∧ EW Z a0 ELs ∧ Sta Z Z.heap "java/util/ArrayList" "EMPTY_ELEMENTDATA" "[Ljava/lang/Object;" (.ref uu0) ∧ Exa Z Z.heap uu0 "[Ljava/lang/Object;" ∧ Sta Z Z.heap "java/util/ArrayList" "DEFAULTCAPACITY_EMPTY_ELEMENTDATA" "[Ljava/lang/Object;" (.ref uu1) ∧ Exa Z Z.heap uu1 "[Ljava/lang/Object;" ∧ Arv Z Z.heap uu0 uu2 (.object "java/lang/Object") (0 : Int32) [] .null ∧ Arv Z Z.heap uu1 uu3 (.object "java/lang/Object") (0 : Int32) [] .null ∧ Sta Z Z.heap "java/lang/String" "COMPACT_STRINGS" "Z" (.int uu4) ∧ ¬ uu4 = 0 ∧ Sta Z Z.heap "jdk/internal/util/Preconditions" "SIOOBE_FORMATTER" "Ljava/util/function/BiFunction;" uu5 ∧ uu5.isRef = true ∧ True
theorem EWl (V : Env1 Z a0 n0 uu0 uu1 uu2 uu3 uu4 uu5) : EW Z a0 ELs := V.2.1
theorem hv0 (V : Env1 Z a0 n0 uu0 uu1 uu2 uu3 uu4 uu5) : Sta Z Z.heap "java/util/ArrayList" "EMPTY_ELEMENTDATA" "[Ljava/lang/Object;" (.ref uu0) := V.2.2.1
theorem hv1 (V : Env1 Z a0 n0 uu0 uu1 uu2 uu3 uu4 uu5) : Exa Z Z.heap uu0 "[Ljava/lang/Object;" := V.2.2.2.1
theorem hv2 (V : Env1 Z a0 n0 uu0 uu1 uu2 uu3 uu4 uu5) : Sta Z Z.heap "java/util/ArrayList" "DEFAULTCAPACITY_EMPTY_ELEMENTDATA" "[Ljava/lang/Object;" (.ref uu1) := V.2.2.2.2.1
theorem hv3 (V : Env1 Z a0 n0 uu0 uu1 uu2 uu3 uu4 uu5) : Exa Z Z.heap uu1 "[Ljava/lang/Object;" := V.2.2.2.2.2.1
theorem hv4 (V : Env1 Z a0 n0 uu0 uu1 uu2 uu3 uu4 uu5) : Arv Z Z.heap uu0 uu2 (.object "java/lang/Object") (0 : Int32) [] .null := V.2.2.2.2.2.2.1
theorem hv5 (V : Env1 Z a0 n0 uu0 uu1 uu2 uu3 uu4 uu5) : Arv Z Z.heap uu1 uu3 (.object "java/lang/Object") (0 : Int32) [] .null := V.2.2.2.2.2.2.2.1
theorem hv6 (V : Env1 Z a0 n0 uu0 uu1 uu2 uu3 uu4 uu5) : Sta Z Z.heap "java/lang/String" "COMPACT_STRINGS" "Z" (.int uu4) := V.2.2.2.2.2.2.2.2.1
theorem hv7 (V : Env1 Z a0 n0 uu0 uu1 uu2 uu3 uu4 uu5) : ¬ uu4 = 0 := V.2.2.2.2.2.2.2.2.2.1
theorem hv8 (V : Env1 Z a0 n0 uu0 uu1 uu2 uu3 uu4 uu5) : Sta Z Z.heap "jdk/internal/util/Preconditions" "SIOOBE_FORMATTER" "Ljava/util/function/BiFunction;" uu5 := V.2.2.2.2.2.2.2.2.2.2.1
theorem hv9 (V : Env1 Z a0 n0 uu0 uu1 uu2 uu3 uu4 uu5) : uu5.isRef = true := V.2.2.2.2.2.2.2.2.2.2.2.1
theorem wd0 (V : Env1 Z a0 n0 uu0 uu1 uu2 uu3 uu4 uu5) : (Jvm.Cond.methodLink "com/example/formboard/formboard/cli/ArgumentsValuePinLaw" (12 : Nat) ({ cls := "com/example/formboard/formboard/cli/ArgumentsValuePinLaw", name := "two", desc := "(I)Ljava/lang/String;" } : Jvm.MethodName)).before a0 Z = true := V.1 _ (List.mem_of_getElem? (i := 0) rfl)
theorem wd1 (V : Env1 Z a0 n0 uu0 uu1 uu2 uu3 uu4 uu5) : (Jvm.Cond.static ({ cls := "com/example/formboard/formboard/cli/ArgumentsValuePinLaw", name := "two", desc := "(I)Ljava/lang/String;" } : Jvm.MethodName)).before a0 Z = true := V.1 _ (List.mem_of_getElem? (i := 1) rfl)
theorem wd2 (V : Env1 Z a0 n0 uu0 uu1 uu2 uu3 uu4 uu5) : (Jvm.Cond.initialized "com/example/formboard/formboard/cli/ArgumentsValuePinLaw").before a0 Z = true := V.1 _ (List.mem_of_getElem? (i := 2) rfl)
theorem wd3 (V : Env1 Z a0 n0 uu0 uu1 uu2 uu3 uu4 uu5) : (Jvm.Cond.code ({ cls := "com/example/formboard/formboard/cli/ArgumentsValuePinLaw", name := "two", desc := "(I)Ljava/lang/String;" } : Jvm.MethodName) method_2_code (2 : Nat) (Option.some (Jvm.ClassFile.FieldType.object "java/lang/String"))).before a0 Z = true := V.1 _ (List.mem_of_getElem? (i := 3) rfl)
theorem wd4 (V : Env1 Z a0 n0 uu0 uu1 uu2 uu3 uu4 uu5) : (Jvm.Cond.arrayClass Jvm.ClassFile.FieldType.char).before a0 Z = true := V.1 _ (List.mem_of_getElem? (i := 4) rfl)
theorem wd5 (V : Env1 Z a0 n0 uu0 uu1 uu2 uu3 uu4 uu5) : (Jvm.Cond.classLink "com/example/formboard/formboard/cli/ArgumentsValuePinLaw" (7 : Nat) "java/lang/String").before a0 Z = true := V.1 _ (List.mem_of_getElem? (i := 5) rfl)
theorem wd6 (V : Env1 Z a0 n0 uu0 uu1 uu2 uu3 uu4 uu5) : (Jvm.Cond.instantiable "java/lang/String" (4 : Nat)).before a0 Z = true := V.1 _ (List.mem_of_getElem? (i := 6) rfl)
theorem wd7 (V : Env1 Z a0 n0 uu0 uu1 uu2 uu3 uu4 uu5) : (Jvm.Cond.initialized "java/lang/String").before a0 Z = true := V.1 _ (List.mem_of_getElem? (i := 7) rfl)
theorem wd8 (V : Env1 Z a0 n0 uu0 uu1 uu2 uu3 uu4 uu5) : (Jvm.Cond.methodLink "com/example/formboard/formboard/cli/ArgumentsValuePinLaw" (9 : Nat) ({ cls := "java/lang/String", name := "<init>", desc := "([C)V" } : Jvm.MethodName)).before a0 Z = true := V.1 _ (List.mem_of_getElem? (i := 8) rfl)
theorem wd9 (V : Env1 Z a0 n0 uu0 uu1 uu2 uu3 uu4 uu5) : (Jvm.Cond.instanceMethod ({ cls := "java/lang/String", name := "<init>", desc := "([C)V" } : Jvm.MethodName)).before a0 Z = true := V.1 _ (List.mem_of_getElem? (i := 9) rfl)
theorem wd16 (V : Env1 Z a0 n0 uu0 uu1 uu2 uu3 uu4 uu5) : (Jvm.Cond.instanceMethod ({ cls := "java/lang/Object", name := "<init>", desc := "()V" } : Jvm.MethodName)).before a0 Z = true := V.1 _ (List.mem_of_getElem? (i := 16) rfl)
theorem wd17 (V : Env1 Z a0 n0 uu0 uu1 uu2 uu3 uu4 uu5) : (Jvm.Cond.code ({ cls := "java/lang/Object", name := "<init>", desc := "()V" } : Jvm.MethodName) object_method_1_code (1 : Nat) (Option.none : Option Jvm.ClassFile.FieldType)).before a0 Z = true := V.1 _ (List.mem_of_getElem? (i := 17) rfl)
theorem wd18 (V : Env1 Z a0 n0 uu0 uu1 uu2 uu3 uu4 uu5) : (Jvm.Cond.fieldLink "java/lang/String" (38 : Nat) "java/lang/String" "COMPACT_STRINGS" "Z").before a0 Z = true := V.1 _ (List.mem_of_getElem? (i := 18) rfl)
theorem wd30 (V : Env1 Z a0 n0 uu0 uu1 uu2 uu3 uu4 uu5) : (Jvm.Cond.fieldLink "java/lang/String" (15 : Nat) "java/lang/String" "coder" "B").before a0 Z = true := V.1 _ (List.mem_of_getElem? (i := 30) rfl)
theorem wd31 (V : Env1 Z a0 n0 uu0 uu1 uu2 uu3 uu4 uu5) : (Jvm.Cond.laysFinal "java/lang/String" "java/lang/String" "coder" "B").before a0 Z = true := V.1 _ (List.mem_of_getElem? (i := 31) rfl)
theorem wd32 (V : Env1 Z a0 n0 uu0 uu1 uu2 uu3 uu4 uu5) : (Jvm.Cond.fieldLink "java/lang/String" (9 : Nat) "java/lang/String" "value" "[B").before a0 Z = true := V.1 _ (List.mem_of_getElem? (i := 32) rfl)
theorem wd33 (V : Env1 Z a0 n0 uu0 uu1 uu2 uu3 uu4 uu5) : (Jvm.Cond.laysFinal "java/lang/String" "java/lang/String" "value" "[B").before a0 Z = true := V.1 _ (List.mem_of_getElem? (i := 33) rfl)
theorem wd34 (V : Env1 Z a0 n0 uu0 uu1 uu2 uu3 uu4 uu5) : (Jvm.Cond.classLink "com/example/formboard/formboard/cli/ArgumentsValuePinLaw" (18 : Nat) "java/util/ArrayList").before a0 Z = true := V.1 _ (List.mem_of_getElem? (i := 34) rfl)
theorem wd35 (V : Env1 Z a0 n0 uu0 uu1 uu2 uu3 uu4 uu5) : (Jvm.Cond.instantiable "java/util/ArrayList" (3 : Nat)).before a0 Z = true := V.1 _ (List.mem_of_getElem? (i := 35) rfl)
theorem wd36 (V : Env1 Z a0 n0 uu0 uu1 uu2 uu3 uu4 uu5) : (Jvm.Cond.initialized "java/util/ArrayList").before a0 Z = true := V.1 _ (List.mem_of_getElem? (i := 36) rfl)
theorem wd37 (V : Env1 Z a0 n0 uu0 uu1 uu2 uu3 uu4 uu5) : (Jvm.Cond.methodLink "com/example/formboard/formboard/cli/ArgumentsValuePinLaw" (20 : Nat) ({ cls := "java/util/ArrayList", name := "<init>", desc := "()V" } : Jvm.MethodName)).before a0 Z = true := V.1 _ (List.mem_of_getElem? (i := 37) rfl)
theorem wd38 (V : Env1 Z a0 n0 uu0 uu1 uu2 uu3 uu4 uu5) : (Jvm.Cond.instanceMethod ({ cls := "java/util/ArrayList", name := "<init>", desc := "()V" } : Jvm.MethodName)).before a0 Z = true := V.1 _ (List.mem_of_getElem? (i := 38) rfl)
theorem wd39 (V : Env1 Z a0 n0 uu0 uu1 uu2 uu3 uu4 uu5) : (Jvm.Cond.code ({ cls := "java/util/ArrayList", name := "<init>", desc := "()V" } : Jvm.MethodName) jdk_38_method_2_code (1 : Nat) (Option.none : Option Jvm.ClassFile.FieldType)).before a0 Z = true := V.1 _ (List.mem_of_getElem? (i := 39) rfl)
theorem wd40 (V : Env1 Z a0 n0 uu0 uu1 uu2 uu3 uu4 uu5) : (Jvm.Cond.methodLink "java/util/ArrayList" (1 : Nat) ({ cls := "java/util/AbstractList", name := "<init>", desc := "()V" } : Jvm.MethodName)).before a0 Z = true := V.1 _ (List.mem_of_getElem? (i := 40) rfl)
theorem wd41 (V : Env1 Z a0 n0 uu0 uu1 uu2 uu3 uu4 uu5) : (Jvm.Cond.instanceMethod ({ cls := "java/util/AbstractList", name := "<init>", desc := "()V" } : Jvm.MethodName)).before a0 Z = true := V.1 _ (List.mem_of_getElem? (i := 41) rfl)
theorem wd44 (V : Env1 Z a0 n0 uu0 uu1 uu2 uu3 uu4 uu5) : (Jvm.Cond.initialized "java/util/AbstractList").before a0 Z = true := V.1 _ (List.mem_of_getElem? (i := 44) rfl)
theorem wd45 (V : Env1 Z a0 n0 uu0 uu1 uu2 uu3 uu4 uu5) : (Jvm.Cond.code ({ cls := "java/util/AbstractList", name := "<init>", desc := "()V" } : Jvm.MethodName) jdk_39_method_1_code (1 : Nat) (Option.none : Option Jvm.ClassFile.FieldType)).before a0 Z = true := V.1 _ (List.mem_of_getElem? (i := 45) rfl)
theorem wd46 (V : Env1 Z a0 n0 uu0 uu1 uu2 uu3 uu4 uu5) : (Jvm.Cond.methodLink "java/util/AbstractList" (1 : Nat) ({ cls := "java/util/AbstractCollection", name := "<init>", desc := "()V" } : Jvm.MethodName)).before a0 Z = true := V.1 _ (List.mem_of_getElem? (i := 46) rfl)
theorem wd47 (V : Env1 Z a0 n0 uu0 uu1 uu2 uu3 uu4 uu5) : (Jvm.Cond.instanceMethod ({ cls := "java/util/AbstractCollection", name := "<init>", desc := "()V" } : Jvm.MethodName)).before a0 Z = true := V.1 _ (List.mem_of_getElem? (i := 47) rfl)
theorem wd50 (V : Env1 Z a0 n0 uu0 uu1 uu2 uu3 uu4 uu5) : (Jvm.Cond.initialized "java/util/AbstractCollection").before a0 Z = true := V.1 _ (List.mem_of_getElem? (i := 50) rfl)
theorem wd51 (V : Env1 Z a0 n0 uu0 uu1 uu2 uu3 uu4 uu5) : (Jvm.Cond.code ({ cls := "java/util/AbstractCollection", name := "<init>", desc := "()V" } : Jvm.MethodName) jdk_22_method_1_code (1 : Nat) (Option.none : Option Jvm.ClassFile.FieldType)).before a0 Z = true := V.1 _ (List.mem_of_getElem? (i := 51) rfl)
theorem wd52 (V : Env1 Z a0 n0 uu0 uu1 uu2 uu3 uu4 uu5) : (Jvm.Cond.methodLink "java/util/AbstractCollection" (1 : Nat) ({ cls := "java/lang/Object", name := "<init>", desc := "()V" } : Jvm.MethodName)).before a0 Z = true := V.1 _ (List.mem_of_getElem? (i := 52) rfl)
theorem wd53 (V : Env1 Z a0 n0 uu0 uu1 uu2 uu3 uu4 uu5) : (Jvm.Cond.fieldLink "java/util/AbstractList" (7 : Nat) "java/util/AbstractList" "modCount" "I").before a0 Z = true := V.1 _ (List.mem_of_getElem? (i := 53) rfl)
theorem wd54 (V : Env1 Z a0 n0 uu0 uu1 uu2 uu3 uu4 uu5) : (Jvm.Cond.lays "java/util/ArrayList" "java/util/AbstractList" "modCount" "I").before a0 Z = true := V.1 _ (List.mem_of_getElem? (i := 54) rfl)
theorem wd55 (V : Env1 Z a0 n0 uu0 uu1 uu2 uu3 uu4 uu5) : (Jvm.Cond.fieldLink "java/util/ArrayList" (39 : Nat) "java/util/ArrayList" "DEFAULTCAPACITY_EMPTY_ELEMENTDATA" "[Ljava/lang/Object;").before a0 Z = true := V.1 _ (List.mem_of_getElem? (i := 55) rfl)
theorem wd56 (V : Env1 Z a0 n0 uu0 uu1 uu2 uu3 uu4 uu5) : (Jvm.Cond.fieldLink "java/util/ArrayList" (9 : Nat) "java/util/ArrayList" "elementData" "[Ljava/lang/Object;").before a0 Z = true := V.1 _ (List.mem_of_getElem? (i := 56) rfl)
theorem wd57 (V : Env1 Z a0 n0 uu0 uu1 uu2 uu3 uu4 uu5) : (Jvm.Cond.lays "java/util/ArrayList" "java/util/ArrayList" "elementData" "[Ljava/lang/Object;").before a0 Z = true := V.1 _ (List.mem_of_getElem? (i := 57) rfl)
theorem wd58 (V : Env1 Z a0 n0 uu0 uu1 uu2 uu3 uu4 uu5) : (Jvm.Cond.methodLink "com/example/formboard/formboard/cli/ArgumentsValuePinLaw" (21 : Nat) ({ cls := "java/util/List", name := "add", desc := "(Ljava/lang/Object;)Z" } : Jvm.MethodName)).before a0 Z = true := V.1 _ (List.mem_of_getElem? (i := 58) rfl)
theorem wd59 (V : Env1 Z a0 n0 uu0 uu1 uu2 uu3 uu4 uu5) : (Jvm.Cond.declares ({ cls := "java/util/List", name := "add", desc := "(Ljava/lang/Object;)Z" } : Jvm.MethodName)).before a0 Z = true := V.1 _ (List.mem_of_getElem? (i := 59) rfl)
theorem wd60 (V : Env1 Z a0 n0 uu0 uu1 uu2 uu3 uu4 uu5) : (Jvm.Cond.interfaceMethod "java/util/List" "java/util/List" "add" "(Ljava/lang/Object;)Z").before a0 Z = true := V.1 _ (List.mem_of_getElem? (i := 60) rfl)
theorem wd61 (V : Env1 Z a0 n0 uu0 uu1 uu2 uu3 uu4 uu5) : (Jvm.Cond.selects "java/util/ArrayList" ({ cls := "java/util/List", name := "add", desc := "(Ljava/lang/Object;)Z" } : Jvm.MethodName) ({ cls := "java/util/ArrayList", name := "add", desc := "(Ljava/lang/Object;)Z" } : Jvm.MethodName)).before a0 Z = true := V.1 _ (List.mem_of_getElem? (i := 61) rfl)
theorem wd62 (V : Env1 Z a0 n0 uu0 uu1 uu2 uu3 uu4 uu5) : (Jvm.Cond.instanceMethod ({ cls := "java/util/ArrayList", name := "add", desc := "(Ljava/lang/Object;)Z" } : Jvm.MethodName)).before a0 Z = true := V.1 _ (List.mem_of_getElem? (i := 62) rfl)
theorem wd63 (V : Env1 Z a0 n0 uu0 uu1 uu2 uu3 uu4 uu5) : (Jvm.Cond.publicMethod ({ cls := "java/util/ArrayList", name := "add", desc := "(Ljava/lang/Object;)Z" } : Jvm.MethodName)).before a0 Z = true := V.1 _ (List.mem_of_getElem? (i := 63) rfl)
theorem wd64 (V : Env1 Z a0 n0 uu0 uu1 uu2 uu3 uu4 uu5) : (Jvm.Cond.unhidden "java/util/ArrayList" "add" "(Ljava/lang/Object;)Z").before a0 Z = true := V.1 _ (List.mem_of_getElem? (i := 64) rfl)
theorem wd65 (V : Env1 Z a0 n0 uu0 uu1 uu2 uu3 uu4 uu5) : (Jvm.Cond.castable "java/util/ArrayList" "java/util/List").before a0 Z = true := V.1 _ (List.mem_of_getElem? (i := 65) rfl)
theorem wd66 (V : Env1 Z a0 n0 uu0 uu1 uu2 uu3 uu4 uu5) : (Jvm.Cond.code ({ cls := "java/util/ArrayList", name := "add", desc := "(Ljava/lang/Object;)Z" } : Jvm.MethodName) jdk_38_method_25_code (2 : Nat) (Option.some Jvm.ClassFile.FieldType.boolean)).before a0 Z = true := V.1 _ (List.mem_of_getElem? (i := 66) rfl)
theorem wd67 (V : Env1 Z a0 n0 uu0 uu1 uu2 uu3 uu4 uu5) : (Jvm.Cond.fieldLink "java/util/ArrayList" (63 : Nat) "java/util/ArrayList" "modCount" "I").before a0 Z = true := V.1 _ (List.mem_of_getElem? (i := 67) rfl)
theorem wd68 (V : Env1 Z a0 n0 uu0 uu1 uu2 uu3 uu4 uu5) : (Jvm.Cond.sameField "java/util/ArrayList" "java/util/AbstractList" "modCount" "I").before a0 Z = true := V.1 _ (List.mem_of_getElem? (i := 68) rfl)
theorem wd69 (V : Env1 Z a0 n0 uu0 uu1 uu2 uu3 uu4 uu5) : (Jvm.Cond.fieldLink "java/util/ArrayList" (48 : Nat) "java/util/ArrayList" "size" "I").before a0 Z = true := V.1 _ (List.mem_of_getElem? (i := 69) rfl)
theorem wd70 (V : Env1 Z a0 n0 uu0 uu1 uu2 uu3 uu4 uu5) : (Jvm.Cond.lays "java/util/ArrayList" "java/util/ArrayList" "size" "I").before a0 Z = true := V.1 _ (List.mem_of_getElem? (i := 70) rfl)
theorem wd71 (V : Env1 Z a0 n0 uu0 uu1 uu2 uu3 uu4 uu5) : (Jvm.Cond.methodLink "java/util/ArrayList" (131 : Nat) ({ cls := "java/util/ArrayList", name := "add", desc := "(Ljava/lang/Object;[Ljava/lang/Object;I)V" } : Jvm.MethodName)).before a0 Z = true := V.1 _ (List.mem_of_getElem? (i := 71) rfl)
theorem wd72 (V : Env1 Z a0 n0 uu0 uu1 uu2 uu3 uu4 uu5) : (Jvm.Cond.instanceMethod ({ cls := "java/util/ArrayList", name := "add", desc := "(Ljava/lang/Object;[Ljava/lang/Object;I)V" } : Jvm.MethodName)).before a0 Z = true := V.1 _ (List.mem_of_getElem? (i := 72) rfl)
theorem wd73 (V : Env1 Z a0 n0 uu0 uu1 uu2 uu3 uu4 uu5) : (Jvm.Cond.privateMethod ({ cls := "java/util/ArrayList", name := "add", desc := "(Ljava/lang/Object;[Ljava/lang/Object;I)V" } : Jvm.MethodName)).before a0 Z = true := V.1 _ (List.mem_of_getElem? (i := 73) rfl)
theorem wd74 (V : Env1 Z a0 n0 uu0 uu1 uu2 uu3 uu4 uu5) : (Jvm.Cond.selects "java/util/ArrayList" ({ cls := "java/util/ArrayList", name := "add", desc := "(Ljava/lang/Object;[Ljava/lang/Object;I)V" } : Jvm.MethodName) ({ cls := "java/util/ArrayList", name := "add", desc := "(Ljava/lang/Object;[Ljava/lang/Object;I)V" } : Jvm.MethodName)).before a0 Z = true := V.1 _ (List.mem_of_getElem? (i := 74) rfl)
theorem wd75 (V : Env1 Z a0 n0 uu0 uu1 uu2 uu3 uu4 uu5) : (Jvm.Cond.code ({ cls := "java/util/ArrayList", name := "add", desc := "(Ljava/lang/Object;[Ljava/lang/Object;I)V" } : Jvm.MethodName) jdk_38_method_24_code (4 : Nat) (Option.none : Option Jvm.ClassFile.FieldType)).before a0 Z = true := V.1 _ (List.mem_of_getElem? (i := 75) rfl)
theorem wd76 (V : Env1 Z a0 n0 uu0 uu1 uu2 uu3 uu4 uu5) : (Jvm.Cond.methodLink "java/util/ArrayList" (129 : Nat) ({ cls := "java/util/ArrayList", name := "grow", desc := "()[Ljava/lang/Object;" } : Jvm.MethodName)).before a0 Z = true := V.1 _ (List.mem_of_getElem? (i := 76) rfl)
theorem wd77 (V : Env1 Z a0 n0 uu0 uu1 uu2 uu3 uu4 uu5) : (Jvm.Cond.instanceMethod ({ cls := "java/util/ArrayList", name := "grow", desc := "()[Ljava/lang/Object;" } : Jvm.MethodName)).before a0 Z = true := V.1 _ (List.mem_of_getElem? (i := 77) rfl)
theorem wd78 (V : Env1 Z a0 n0 uu0 uu1 uu2 uu3 uu4 uu5) : (Jvm.Cond.privateMethod ({ cls := "java/util/ArrayList", name := "grow", desc := "()[Ljava/lang/Object;" } : Jvm.MethodName)).before a0 Z = true := V.1 _ (List.mem_of_getElem? (i := 78) rfl)
theorem wd79 (V : Env1 Z a0 n0 uu0 uu1 uu2 uu3 uu4 uu5) : (Jvm.Cond.selects "java/util/ArrayList" ({ cls := "java/util/ArrayList", name := "grow", desc := "()[Ljava/lang/Object;" } : Jvm.MethodName) ({ cls := "java/util/ArrayList", name := "grow", desc := "()[Ljava/lang/Object;" } : Jvm.MethodName)).before a0 Z = true := V.1 _ (List.mem_of_getElem? (i := 79) rfl)
theorem wd80 (V : Env1 Z a0 n0 uu0 uu1 uu2 uu3 uu4 uu5) : (Jvm.Cond.code ({ cls := "java/util/ArrayList", name := "grow", desc := "()[Ljava/lang/Object;" } : Jvm.MethodName) jdk_38_method_7_code (1 : Nat) (Option.some (Jvm.ClassFile.FieldType.array (Jvm.ClassFile.FieldType.object "java/lang/Object")))).before a0 Z = true := V.1 _ (List.mem_of_getElem? (i := 80) rfl)
theorem wd81 (V : Env1 Z a0 n0 uu0 uu1 uu2 uu3 uu4 uu5) : (Jvm.Cond.methodLink "java/util/ArrayList" (69 : Nat) ({ cls := "java/util/ArrayList", name := "grow", desc := "(I)[Ljava/lang/Object;" } : Jvm.MethodName)).before a0 Z = true := V.1 _ (List.mem_of_getElem? (i := 81) rfl)
theorem wd82 (V : Env1 Z a0 n0 uu0 uu1 uu2 uu3 uu4 uu5) : (Jvm.Cond.instanceMethod ({ cls := "java/util/ArrayList", name := "grow", desc := "(I)[Ljava/lang/Object;" } : Jvm.MethodName)).before a0 Z = true := V.1 _ (List.mem_of_getElem? (i := 82) rfl)
theorem wd83 (V : Env1 Z a0 n0 uu0 uu1 uu2 uu3 uu4 uu5) : (Jvm.Cond.privateMethod ({ cls := "java/util/ArrayList", name := "grow", desc := "(I)[Ljava/lang/Object;" } : Jvm.MethodName)).before a0 Z = true := V.1 _ (List.mem_of_getElem? (i := 83) rfl)
theorem wd84 (V : Env1 Z a0 n0 uu0 uu1 uu2 uu3 uu4 uu5) : (Jvm.Cond.selects "java/util/ArrayList" ({ cls := "java/util/ArrayList", name := "grow", desc := "(I)[Ljava/lang/Object;" } : Jvm.MethodName) ({ cls := "java/util/ArrayList", name := "grow", desc := "(I)[Ljava/lang/Object;" } : Jvm.MethodName)).before a0 Z = true := V.1 _ (List.mem_of_getElem? (i := 84) rfl)
theorem wd85 (V : Env1 Z a0 n0 uu0 uu1 uu2 uu3 uu4 uu5) : (Jvm.Cond.code ({ cls := "java/util/ArrayList", name := "grow", desc := "(I)[Ljava/lang/Object;" } : Jvm.MethodName) jdk_38_method_6_code (4 : Nat) (Option.some (Jvm.ClassFile.FieldType.array (Jvm.ClassFile.FieldType.object "java/lang/Object")))).before a0 Z = true := V.1 _ (List.mem_of_getElem? (i := 85) rfl)
theorem wd86 (V : Env1 Z a0 n0 uu0 uu1 uu2 uu3 uu4 uu5) : (Jvm.Cond.methodLink "java/util/ArrayList" (79 : Nat) ({ cls := "java/lang/Math", name := "max", desc := "(II)I" } : Jvm.MethodName)).before a0 Z = true := V.1 _ (List.mem_of_getElem? (i := 86) rfl)
theorem wd87 (V : Env1 Z a0 n0 uu0 uu1 uu2 uu3 uu4 uu5) : (Jvm.Cond.static ({ cls := "java/lang/Math", name := "max", desc := "(II)I" } : Jvm.MethodName)).before a0 Z = true := V.1 _ (List.mem_of_getElem? (i := 87) rfl)
theorem wd88 (V : Env1 Z a0 n0 uu0 uu1 uu2 uu3 uu4 uu5) : (Jvm.Cond.initialized "java/lang/Math").before a0 Z = true := V.1 _ (List.mem_of_getElem? (i := 88) rfl)
theorem wd89 (V : Env1 Z a0 n0 uu0 uu1 uu2 uu3 uu4 uu5) : (Jvm.Cond.code ({ cls := "java/lang/Math", name := "max", desc := "(II)I" } : Jvm.MethodName) jdk_29_method_65_code (2 : Nat) (Option.some Jvm.ClassFile.FieldType.int)).before a0 Z = true := V.1 _ (List.mem_of_getElem? (i := 89) rfl)
theorem wd90 (V : Env1 Z a0 n0 uu0 uu1 uu2 uu3 uu4 uu5) : (Jvm.Cond.classLink "java/util/ArrayList" (7 : Nat) "java/lang/Object").before a0 Z = true := V.1 _ (List.mem_of_getElem? (i := 90) rfl)
theorem wd91 (V : Env1 Z a0 n0 uu0 uu1 uu2 uu3 uu4 uu5) : (Jvm.Cond.arrayOver (Jvm.ClassFile.FieldType.object "java/lang/Object")).before a0 Z = true := V.1 _ (List.mem_of_getElem? (i := 91) rfl)
theorem wd92 (V : Env1 Z a0 n0 uu0 uu1 uu2 uu3 uu4 uu5) : (Jvm.Cond.castable "java/lang/String" "java/lang/Object").before a0 Z = true := V.1 _ (List.mem_of_getElem? (i := 92) rfl)
theorem wd93 (V : Env1 Z a0 n0 uu0 uu1 uu2 uu3 uu4 uu5) : (Jvm.Cond.classLink "com/example/formboard/formboard/cli/ArgumentsValuePinLaw" (27 : Nat) "com/example/formboard/formboard/cli/Arguments").before a0 Z = true := V.1 _ (List.mem_of_getElem? (i := 93) rfl)
theorem wd94 (V : Env1 Z a0 n0 uu0 uu1 uu2 uu3 uu4 uu5) : (Jvm.Cond.instantiable "com/example/formboard/formboard/cli/Arguments" (3 : Nat)).before a0 Z = true := V.1 _ (List.mem_of_getElem? (i := 94) rfl)
theorem wd95 (V : Env1 Z a0 n0 uu0 uu1 uu2 uu3 uu4 uu5) : (Jvm.Cond.initialized "com/example/formboard/formboard/cli/Arguments").before a0 Z = true := V.1 _ (List.mem_of_getElem? (i := 95) rfl)
theorem wd96 (V : Env1 Z a0 n0 uu0 uu1 uu2 uu3 uu4 uu5) : (Jvm.Cond.methodLink "com/example/formboard/formboard/cli/ArgumentsValuePinLaw" (29 : Nat) ({ cls := "com/example/formboard/formboard/cli/Arguments", name := "<init>", desc := "(Ljava/util/List;Ljava/lang/String;)V" } : Jvm.MethodName)).before a0 Z = true := V.1 _ (List.mem_of_getElem? (i := 96) rfl)
theorem wd97 (V : Env1 Z a0 n0 uu0 uu1 uu2 uu3 uu4 uu5) : (Jvm.Cond.instanceMethod ({ cls := "com/example/formboard/formboard/cli/Arguments", name := "<init>", desc := "(Ljava/util/List;Ljava/lang/String;)V" } : Jvm.MethodName)).before a0 Z = true := V.1 _ (List.mem_of_getElem? (i := 97) rfl)
theorem wd98 (V : Env1 Z a0 n0 uu0 uu1 uu2 uu3 uu4 uu5) : (Jvm.Cond.code ({ cls := "com/example/formboard/formboard/cli/Arguments", name := "<init>", desc := "(Ljava/util/List;Ljava/lang/String;)V" } : Jvm.MethodName) prog_1_method_1_code (3 : Nat) (Option.none : Option Jvm.ClassFile.FieldType)).before a0 Z = true := V.1 _ (List.mem_of_getElem? (i := 98) rfl)
theorem wd99 (V : Env1 Z a0 n0 uu0 uu1 uu2 uu3 uu4 uu5) : (Jvm.Cond.methodLink "com/example/formboard/formboard/cli/Arguments" (1 : Nat) ({ cls := "java/lang/Object", name := "<init>", desc := "()V" } : Jvm.MethodName)).before a0 Z = true := V.1 _ (List.mem_of_getElem? (i := 99) rfl)
theorem wd100 (V : Env1 Z a0 n0 uu0 uu1 uu2 uu3 uu4 uu5) : (Jvm.Cond.fieldLink "com/example/formboard/formboard/cli/Arguments" (7 : Nat) "com/example/formboard/formboard/cli/Arguments" "args" "Ljava/util/List;").before a0 Z = true := V.1 _ (List.mem_of_getElem? (i := 100) rfl)
theorem wd101 (V : Env1 Z a0 n0 uu0 uu1 uu2 uu3 uu4 uu5) : (Jvm.Cond.laysFinal "com/example/formboard/formboard/cli/Arguments" "com/example/formboard/formboard/cli/Arguments" "args" "Ljava/util/List;").before a0 Z = true := V.1 _ (List.mem_of_getElem? (i := 101) rfl)
theorem wd102 (V : Env1 Z a0 n0 uu0 uu1 uu2 uu3 uu4 uu5) : (Jvm.Cond.fieldLink "com/example/formboard/formboard/cli/Arguments" (13 : Nat) "com/example/formboard/formboard/cli/Arguments" "usage" "Ljava/lang/String;").before a0 Z = true := V.1 _ (List.mem_of_getElem? (i := 102) rfl)
theorem wd103 (V : Env1 Z a0 n0 uu0 uu1 uu2 uu3 uu4 uu5) : (Jvm.Cond.laysFinal "com/example/formboard/formboard/cli/Arguments" "com/example/formboard/formboard/cli/Arguments" "usage" "Ljava/lang/String;").before a0 Z = true := V.1 _ (List.mem_of_getElem? (i := 103) rfl)
theorem wd104 (V : Env1 Z a0 n0 uu0 uu1 uu2 uu3 uu4 uu5) : (Jvm.Cond.constant "com/example/formboard/formboard/cli/ArgumentsValuePinLaw" (32 : Nat) (2147483647 : Int32)).before a0 Z = true := V.1 _ (List.mem_of_getElem? (i := 104) rfl)
theorem wd105 (V : Env1 Z a0 n0 uu0 uu1 uu2 uu3 uu4 uu5) : (Jvm.Cond.methodLink "com/example/formboard/formboard/cli/ArgumentsValuePinLaw" (33 : Nat) ({ cls := "com/example/formboard/formboard/cli/Arguments", name := "value", desc := "(Ljava/lang/String;)Ljava/lang/String;" } : Jvm.MethodName)).before a0 Z = true := V.1 _ (List.mem_of_getElem? (i := 105) rfl)
theorem wd106 (V : Env1 Z a0 n0 uu0 uu1 uu2 uu3 uu4 uu5) : (Jvm.Cond.declares ({ cls := "com/example/formboard/formboard/cli/Arguments", name := "value", desc := "(Ljava/lang/String;)Ljava/lang/String;" } : Jvm.MethodName)).before a0 Z = true := V.1 _ (List.mem_of_getElem? (i := 106) rfl)
theorem wd107 (V : Env1 Z a0 n0 uu0 uu1 uu2 uu3 uu4 uu5) : (Jvm.Cond.instanceMethod ({ cls := "com/example/formboard/formboard/cli/Arguments", name := "value", desc := "(Ljava/lang/String;)Ljava/lang/String;" } : Jvm.MethodName)).before a0 Z = true := V.1 _ (List.mem_of_getElem? (i := 107) rfl)
theorem wd108 (V : Env1 Z a0 n0 uu0 uu1 uu2 uu3 uu4 uu5) : (Jvm.Cond.selects "com/example/formboard/formboard/cli/Arguments" ({ cls := "com/example/formboard/formboard/cli/Arguments", name := "value", desc := "(Ljava/lang/String;)Ljava/lang/String;" } : Jvm.MethodName) ({ cls := "com/example/formboard/formboard/cli/Arguments", name := "value", desc := "(Ljava/lang/String;)Ljava/lang/String;" } : Jvm.MethodName)).before a0 Z = true := V.1 _ (List.mem_of_getElem? (i := 108) rfl)
theorem wd109 (V : Env1 Z a0 n0 uu0 uu1 uu2 uu3 uu4 uu5) : (Jvm.Cond.code ({ cls := "com/example/formboard/formboard/cli/Arguments", name := "value", desc := "(Ljava/lang/String;)Ljava/lang/String;" } : Jvm.MethodName) prog_1_method_4_code (2 : Nat) (Option.some (Jvm.ClassFile.FieldType.object "java/lang/String"))).before a0 Z = true := V.1 _ (List.mem_of_getElem? (i := 109) rfl)
theorem wd110 (V : Env1 Z a0 n0 uu0 uu1 uu2 uu3 uu4 uu5) : (Jvm.Cond.fieldLink "com/example/formboard/formboard/cli/Arguments" (17 : Nat) "com/example/formboard/formboard/cli/Arguments" "next" "I").before a0 Z = true := V.1 _ (List.mem_of_getElem? (i := 110) rfl)
theorem wd111 (V : Env1 Z a0 n0 uu0 uu1 uu2 uu3 uu4 uu5) : (Jvm.Cond.lays "com/example/formboard/formboard/cli/Arguments" "com/example/formboard/formboard/cli/Arguments" "next" "I").before a0 Z = true := V.1 _ (List.mem_of_getElem? (i := 111) rfl)
theorem wd112 (V : Env1 Z a0 n0 uu0 uu1 uu2 uu3 uu4 uu5) : (Jvm.Cond.methodLink "com/example/formboard/formboard/cli/Arguments" (21 : Nat) ({ cls := "java/util/List", name := "size", desc := "()I" } : Jvm.MethodName)).before a0 Z = true := V.1 _ (List.mem_of_getElem? (i := 112) rfl)
theorem wd113 (V : Env1 Z a0 n0 uu0 uu1 uu2 uu3 uu4 uu5) : (Jvm.Cond.declares ({ cls := "java/util/List", name := "size", desc := "()I" } : Jvm.MethodName)).before a0 Z = true := V.1 _ (List.mem_of_getElem? (i := 113) rfl)
theorem wd114 (V : Env1 Z a0 n0 uu0 uu1 uu2 uu3 uu4 uu5) : (Jvm.Cond.interfaceMethod "java/util/List" "java/util/List" "size" "()I").before a0 Z = true := V.1 _ (List.mem_of_getElem? (i := 114) rfl)
theorem wd115 (V : Env1 Z a0 n0 uu0 uu1 uu2 uu3 uu4 uu5) : (Jvm.Cond.selects "java/util/ArrayList" ({ cls := "java/util/List", name := "size", desc := "()I" } : Jvm.MethodName) ({ cls := "java/util/ArrayList", name := "size", desc := "()I" } : Jvm.MethodName)).before a0 Z = true := V.1 _ (List.mem_of_getElem? (i := 115) rfl)
theorem wd116 (V : Env1 Z a0 n0 uu0 uu1 uu2 uu3 uu4 uu5) : (Jvm.Cond.instanceMethod ({ cls := "java/util/ArrayList", name := "size", desc := "()I" } : Jvm.MethodName)).before a0 Z = true := V.1 _ (List.mem_of_getElem? (i := 116) rfl)
theorem wd117 (V : Env1 Z a0 n0 uu0 uu1 uu2 uu3 uu4 uu5) : (Jvm.Cond.publicMethod ({ cls := "java/util/ArrayList", name := "size", desc := "()I" } : Jvm.MethodName)).before a0 Z = true := V.1 _ (List.mem_of_getElem? (i := 117) rfl)
theorem wd118 (V : Env1 Z a0 n0 uu0 uu1 uu2 uu3 uu4 uu5) : (Jvm.Cond.unhidden "java/util/ArrayList" "size" "()I").before a0 Z = true := V.1 _ (List.mem_of_getElem? (i := 118) rfl)
theorem wd119 (V : Env1 Z a0 n0 uu0 uu1 uu2 uu3 uu4 uu5) : (Jvm.Cond.code ({ cls := "java/util/ArrayList", name := "size", desc := "()I" } : Jvm.MethodName) jdk_38_method_8_code (1 : Nat) (Option.some Jvm.ClassFile.FieldType.int)).before a0 Z = true := V.1 _ (List.mem_of_getElem? (i := 119) rfl)
theorem wd120 (V : Env1 Z a0 n0 uu0 uu1 uu2 uu3 uu4 uu5) : (Jvm.Cond.methodLink "com/example/formboard/formboard/cli/Arguments" (27 : Nat) ({ cls := "java/util/List", name := "get", desc := "(I)Ljava/lang/Object;" } : Jvm.MethodName)).before a0 Z = true := V.1 _ (List.mem_of_getElem? (i := 120) rfl)
theorem wd121 (V : Env1 Z a0 n0 uu0 uu1 uu2 uu3 uu4 uu5) : (Jvm.Cond.declares ({ cls := "java/util/List", name := "get", desc := "(I)Ljava/lang/Object;" } : Jvm.MethodName)).before a0 Z = true := V.1 _ (List.mem_of_getElem? (i := 121) rfl)
theorem wd122 (V : Env1 Z a0 n0 uu0 uu1 uu2 uu3 uu4 uu5) : (Jvm.Cond.interfaceMethod "java/util/List" "java/util/List" "get" "(I)Ljava/lang/Object;").before a0 Z = true := V.1 _ (List.mem_of_getElem? (i := 122) rfl)
theorem wd123 (V : Env1 Z a0 n0 uu0 uu1 uu2 uu3 uu4 uu5) : (Jvm.Cond.selects "java/util/ArrayList" ({ cls := "java/util/List", name := "get", desc := "(I)Ljava/lang/Object;" } : Jvm.MethodName) ({ cls := "java/util/ArrayList", name := "get", desc := "(I)Ljava/lang/Object;" } : Jvm.MethodName)).before a0 Z = true := V.1 _ (List.mem_of_getElem? (i := 123) rfl)
theorem wd124 (V : Env1 Z a0 n0 uu0 uu1 uu2 uu3 uu4 uu5) : (Jvm.Cond.instanceMethod ({ cls := "java/util/ArrayList", name := "get", desc := "(I)Ljava/lang/Object;" } : Jvm.MethodName)).before a0 Z = true := V.1 _ (List.mem_of_getElem? (i := 124) rfl)
theorem wd125 (V : Env1 Z a0 n0 uu0 uu1 uu2 uu3 uu4 uu5) : (Jvm.Cond.publicMethod ({ cls := "java/util/ArrayList", name := "get", desc := "(I)Ljava/lang/Object;" } : Jvm.MethodName)).before a0 Z = true := V.1 _ (List.mem_of_getElem? (i := 125) rfl)
theorem wd126 (V : Env1 Z a0 n0 uu0 uu1 uu2 uu3 uu4 uu5) : (Jvm.Cond.unhidden "java/util/ArrayList" "get" "(I)Ljava/lang/Object;").before a0 Z = true := V.1 _ (List.mem_of_getElem? (i := 126) rfl)
theorem wd127 (V : Env1 Z a0 n0 uu0 uu1 uu2 uu3 uu4 uu5) : (Jvm.Cond.code ({ cls := "java/util/ArrayList", name := "get", desc := "(I)Ljava/lang/Object;" } : Jvm.MethodName) jdk_38_method_20_code (2 : Nat) (Option.some (Jvm.ClassFile.FieldType.object "java/lang/Object"))).before a0 Z = true := V.1 _ (List.mem_of_getElem? (i := 127) rfl)
theorem wd128 (V : Env1 Z a0 n0 uu0 uu1 uu2 uu3 uu4 uu5) : (Jvm.Cond.methodLink "java/util/ArrayList" (118 : Nat) ({ cls := "java/util/Objects", name := "checkIndex", desc := "(II)I" } : Jvm.MethodName)).before a0 Z = true := V.1 _ (List.mem_of_getElem? (i := 128) rfl)
theorem wd129 (V : Env1 Z a0 n0 uu0 uu1 uu2 uu3 uu4 uu5) : (Jvm.Cond.static ({ cls := "java/util/Objects", name := "checkIndex", desc := "(II)I" } : Jvm.MethodName)).before a0 Z = true := V.1 _ (List.mem_of_getElem? (i := 129) rfl)
theorem wd130 (V : Env1 Z a0 n0 uu0 uu1 uu2 uu3 uu4 uu5) : (Jvm.Cond.initialized "java/util/Objects").before a0 Z = true := V.1 _ (List.mem_of_getElem? (i := 130) rfl)
theorem wd131 (V : Env1 Z a0 n0 uu0 uu1 uu2 uu3 uu4 uu5) : (Jvm.Cond.code ({ cls := "java/util/Objects", name := "checkIndex", desc := "(II)I" } : Jvm.MethodName) jdk_31_method_17_code (2 : Nat) (Option.some Jvm.ClassFile.FieldType.int)).before a0 Z = true := V.1 _ (List.mem_of_getElem? (i := 131) rfl)
theorem wd132 (V : Env1 Z a0 n0 uu0 uu1 uu2 uu3 uu4 uu5) : (Jvm.Cond.methodLink "java/util/Objects" (105 : Nat) ({ cls := "jdk/internal/util/Preconditions", name := "checkIndex", desc := "(IILjava/util/function/BiFunction;)I" } : Jvm.MethodName)).before a0 Z = true := V.1 _ (List.mem_of_getElem? (i := 132) rfl)
theorem wd133 (V : Env1 Z a0 n0 uu0 uu1 uu2 uu3 uu4 uu5) : (Jvm.Cond.static ({ cls := "jdk/internal/util/Preconditions", name := "checkIndex", desc := "(IILjava/util/function/BiFunction;)I" } : Jvm.MethodName)).before a0 Z = true := V.1 _ (List.mem_of_getElem? (i := 133) rfl)
theorem wd134 (V : Env1 Z a0 n0 uu0 uu1 uu2 uu3 uu4 uu5) : (Jvm.Cond.initialized "jdk/internal/util/Preconditions").before a0 Z = true := V.1 _ (List.mem_of_getElem? (i := 134) rfl)
theorem wd135 (V : Env1 Z a0 n0 uu0 uu1 uu2 uu3 uu4 uu5) : (Jvm.Cond.code ({ cls := "jdk/internal/util/Preconditions", name := "checkIndex", desc := "(IILjava/util/function/BiFunction;)I" } : Jvm.MethodName) jdk_41_method_11_code (3 : Nat) (Option.some Jvm.ClassFile.FieldType.int)).before a0 Z = true := V.1 _ (List.mem_of_getElem? (i := 135) rfl)
theorem wd136 (V : Env1 Z a0 n0 uu0 uu1 uu2 uu3 uu4 uu5) : (Jvm.Cond.methodLink "java/util/ArrayList" (123 : Nat) ({ cls := "java/util/ArrayList", name := "elementData", desc := "(I)Ljava/lang/Object;" } : Jvm.MethodName)).before a0 Z = true := V.1 _ (List.mem_of_getElem? (i := 136) rfl)
theorem wd137 (V : Env1 Z a0 n0 uu0 uu1 uu2 uu3 uu4 uu5) : (Jvm.Cond.declares ({ cls := "java/util/ArrayList", name := "elementData", desc := "(I)Ljava/lang/Object;" } : Jvm.MethodName)).before a0 Z = true := V.1 _ (List.mem_of_getElem? (i := 137) rfl)
theorem wd138 (V : Env1 Z a0 n0 uu0 uu1 uu2 uu3 uu4 uu5) : (Jvm.Cond.instanceMethod ({ cls := "java/util/ArrayList", name := "elementData", desc := "(I)Ljava/lang/Object;" } : Jvm.MethodName)).before a0 Z = true := V.1 _ (List.mem_of_getElem? (i := 138) rfl)
theorem wd139 (V : Env1 Z a0 n0 uu0 uu1 uu2 uu3 uu4 uu5) : (Jvm.Cond.selects "java/util/ArrayList" ({ cls := "java/util/ArrayList", name := "elementData", desc := "(I)Ljava/lang/Object;" } : Jvm.MethodName) ({ cls := "java/util/ArrayList", name := "elementData", desc := "(I)Ljava/lang/Object;" } : Jvm.MethodName)).before a0 Z = true := V.1 _ (List.mem_of_getElem? (i := 139) rfl)
theorem wd140 (V : Env1 Z a0 n0 uu0 uu1 uu2 uu3 uu4 uu5) : (Jvm.Cond.code ({ cls := "java/util/ArrayList", name := "elementData", desc := "(I)Ljava/lang/Object;" } : Jvm.MethodName) jdk_38_method_18_code (2 : Nat) (Option.some (Jvm.ClassFile.FieldType.object "java/lang/Object"))).before a0 Z = true := V.1 _ (List.mem_of_getElem? (i := 140) rfl)
theorem wd141 (V : Env1 Z a0 n0 uu0 uu1 uu2 uu3 uu4 uu5) : (Jvm.Cond.classLink "com/example/formboard/formboard/cli/Arguments" (31 : Nat) "java/lang/String").before a0 Z = true := V.1 _ (List.mem_of_getElem? (i := 141) rfl)
theorem wd142 (V : Env1 Z a0 n0 uu0 uu1 uu2 uu3 uu4 uu5) : (Jvm.Cond.methodLink "com/example/formboard/formboard/cli/ArgumentsValuePinLaw" (37 : Nat) ({ cls := "java/lang/String", name := "equals", desc := "(Ljava/lang/Object;)Z" } : Jvm.MethodName)).before a0 Z = true := V.1 _ (List.mem_of_getElem? (i := 142) rfl)
theorem wd143 (V : Env1 Z a0 n0 uu0 uu1 uu2 uu3 uu4 uu5) : (Jvm.Cond.declares ({ cls := "java/lang/String", name := "equals", desc := "(Ljava/lang/Object;)Z" } : Jvm.MethodName)).before a0 Z = true := V.1 _ (List.mem_of_getElem? (i := 143) rfl)
theorem wd144 (V : Env1 Z a0 n0 uu0 uu1 uu2 uu3 uu4 uu5) : (Jvm.Cond.instanceMethod ({ cls := "java/lang/String", name := "equals", desc := "(Ljava/lang/Object;)Z" } : Jvm.MethodName)).before a0 Z = true := V.1 _ (List.mem_of_getElem? (i := 144) rfl)
theorem wd145 (V : Env1 Z a0 n0 uu0 uu1 uu2 uu3 uu4 uu5) : (Jvm.Cond.selects "java/lang/String" ({ cls := "java/lang/String", name := "equals", desc := "(Ljava/lang/Object;)Z" } : Jvm.MethodName) ({ cls := "java/lang/String", name := "equals", desc := "(Ljava/lang/Object;)Z" } : Jvm.MethodName)).before a0 Z = true := V.1 _ (List.mem_of_getElem? (i := 145) rfl)
theorem wd146 (V : Env1 Z a0 n0 uu0 uu1 uu2 uu3 uu4 uu5) : (Jvm.Cond.code ({ cls := "java/lang/String", name := "equals", desc := "(Ljava/lang/Object;)Z" } : Jvm.MethodName) jdk_42_method_66_code (3 : Nat) (Option.some Jvm.ClassFile.FieldType.boolean)).before a0 Z = true := V.1 _ (List.mem_of_getElem? (i := 146) rfl)
theorem wd147 (V : Env1 Z a0 n0 uu0 uu1 uu2 uu3 uu4 uu5) : (Jvm.Cond.methodLink "com/example/formboard/formboard/cli/ArgumentsValuePinLaw" (40 : Nat) ({ cls := "com/example/formboard/formboard/cli/Arguments", name := "operands", desc := "()Ljava/util/List;" } : Jvm.MethodName)).before a0 Z = true := V.1 _ (List.mem_of_getElem? (i := 147) rfl)
theorem wd148 (V : Env1 Z a0 n0 uu0 uu1 uu2 uu3 uu4 uu5) : (Jvm.Cond.declares ({ cls := "com/example/formboard/formboard/cli/Arguments", name := "operands", desc := "()Ljava/util/List;" } : Jvm.MethodName)).before a0 Z = true := V.1 _ (List.mem_of_getElem? (i := 148) rfl)
theorem wd149 (V : Env1 Z a0 n0 uu0 uu1 uu2 uu3 uu4 uu5) : (Jvm.Cond.instanceMethod ({ cls := "com/example/formboard/formboard/cli/Arguments", name := "operands", desc := "()Ljava/util/List;" } : Jvm.MethodName)).before a0 Z = true := V.1 _ (List.mem_of_getElem? (i := 149) rfl)
theorem wd150 (V : Env1 Z a0 n0 uu0 uu1 uu2 uu3 uu4 uu5) : (Jvm.Cond.selects "com/example/formboard/formboard/cli/Arguments" ({ cls := "com/example/formboard/formboard/cli/Arguments", name := "operands", desc := "()Ljava/util/List;" } : Jvm.MethodName) ({ cls := "com/example/formboard/formboard/cli/Arguments", name := "operands", desc := "()Ljava/util/List;" } : Jvm.MethodName)).before a0 Z = true := V.1 _ (List.mem_of_getElem? (i := 150) rfl)
theorem wd151 (V : Env1 Z a0 n0 uu0 uu1 uu2 uu3 uu4 uu5) : (Jvm.Cond.code ({ cls := "com/example/formboard/formboard/cli/Arguments", name := "operands", desc := "()Ljava/util/List;" } : Jvm.MethodName) prog_1_method_5_code (1 : Nat) (Option.some (Jvm.ClassFile.FieldType.object "java/util/List"))).before a0 Z = true := V.1 _ (List.mem_of_getElem? (i := 151) rfl)
theorem wd152 (V : Env1 Z a0 n0 uu0 uu1 uu2 uu3 uu4 uu5) : (Jvm.Cond.methodLink "com/example/formboard/formboard/cli/Arguments" (48 : Nat) ({ cls := "java/util/List", name := "subList", desc := "(II)Ljava/util/List;" } : Jvm.MethodName)).before a0 Z = true := V.1 _ (List.mem_of_getElem? (i := 152) rfl)
theorem wd153 (V : Env1 Z a0 n0 uu0 uu1 uu2 uu3 uu4 uu5) : (Jvm.Cond.declares ({ cls := "java/util/List", name := "subList", desc := "(II)Ljava/util/List;" } : Jvm.MethodName)).before a0 Z = true := V.1 _ (List.mem_of_getElem? (i := 153) rfl)
theorem wd154 (V : Env1 Z a0 n0 uu0 uu1 uu2 uu3 uu4 uu5) : (Jvm.Cond.interfaceMethod "java/util/List" "java/util/List" "subList" "(II)Ljava/util/List;").before a0 Z = true := V.1 _ (List.mem_of_getElem? (i := 154) rfl)
theorem wd155 (V : Env1 Z a0 n0 uu0 uu1 uu2 uu3 uu4 uu5) : (Jvm.Cond.selects "java/util/ArrayList" ({ cls := "java/util/List", name := "subList", desc := "(II)Ljava/util/List;" } : Jvm.MethodName) ({ cls := "java/util/ArrayList", name := "subList", desc := "(II)Ljava/util/List;" } : Jvm.MethodName)).before a0 Z = true := V.1 _ (List.mem_of_getElem? (i := 155) rfl)
theorem wd156 (V : Env1 Z a0 n0 uu0 uu1 uu2 uu3 uu4 uu5) : (Jvm.Cond.instanceMethod ({ cls := "java/util/ArrayList", name := "subList", desc := "(II)Ljava/util/List;" } : Jvm.MethodName)).before a0 Z = true := V.1 _ (List.mem_of_getElem? (i := 156) rfl)
theorem wd157 (V : Env1 Z a0 n0 uu0 uu1 uu2 uu3 uu4 uu5) : (Jvm.Cond.publicMethod ({ cls := "java/util/ArrayList", name := "subList", desc := "(II)Ljava/util/List;" } : Jvm.MethodName)).before a0 Z = true := V.1 _ (List.mem_of_getElem? (i := 157) rfl)
theorem wd158 (V : Env1 Z a0 n0 uu0 uu1 uu2 uu3 uu4 uu5) : (Jvm.Cond.unhidden "java/util/ArrayList" "subList" "(II)Ljava/util/List;").before a0 Z = true := V.1 _ (List.mem_of_getElem? (i := 158) rfl)
theorem wd159 (V : Env1 Z a0 n0 uu0 uu1 uu2 uu3 uu4 uu5) : (Jvm.Cond.code ({ cls := "java/util/ArrayList", name := "subList", desc := "(II)Ljava/util/List;" } : Jvm.MethodName) jdk_38_method_56_code (3 : Nat) (Option.some (Jvm.ClassFile.FieldType.object "java/util/List"))).before a0 Z = true := V.1 _ (List.mem_of_getElem? (i := 159) rfl)
theorem wd160 (V : Env1 Z a0 n0 uu0 uu1 uu2 uu3 uu4 uu5) : (Jvm.Cond.methodLink "java/util/ArrayList" (272 : Nat) ({ cls := "java/util/ArrayList", name := "subListRangeCheck", desc := "(III)V" } : Jvm.MethodName)).before a0 Z = true := V.1 _ (List.mem_of_getElem? (i := 160) rfl)
theorem wd161 (V : Env1 Z a0 n0 uu0 uu1 uu2 uu3 uu4 uu5) : (Jvm.Cond.sameMethod "java/util/ArrayList" "java/util/AbstractList" "subListRangeCheck" "(III)V").before a0 Z = true := V.1 _ (List.mem_of_getElem? (i := 161) rfl)
theorem wd162 (V : Env1 Z a0 n0 uu0 uu1 uu2 uu3 uu4 uu5) : (Jvm.Cond.static ({ cls := "java/util/AbstractList", name := "subListRangeCheck", desc := "(III)V" } : Jvm.MethodName)).before a0 Z = true := V.1 _ (List.mem_of_getElem? (i := 162) rfl)
theorem wd163 (V : Env1 Z a0 n0 uu0 uu1 uu2 uu3 uu4 uu5) : (Jvm.Cond.code ({ cls := "java/util/AbstractList", name := "subListRangeCheck", desc := "(III)V" } : Jvm.MethodName) jdk_39_method_15_code (3 : Nat) (Option.none : Option Jvm.ClassFile.FieldType)).before a0 Z = true := V.1 _ (List.mem_of_getElem? (i := 163) rfl)
theorem wd164 (V : Env1 Z a0 n0 uu0 uu1 uu2 uu3 uu4 uu5) : (Jvm.Cond.classLink "java/util/ArrayList" (276 : Nat) "java/util/ArrayList$SubList").before a0 Z = true := V.1 _ (List.mem_of_getElem? (i := 164) rfl)
theorem wd165 (V : Env1 Z a0 n0 uu0 uu1 uu2 uu3 uu4 uu5) : (Jvm.Cond.instantiable "java/util/ArrayList$SubList" (5 : Nat)).before a0 Z = true := V.1 _ (List.mem_of_getElem? (i := 165) rfl)
theorem wd166 (V : Env1 Z a0 n0 uu0 uu1 uu2 uu3 uu4 uu5) : (Jvm.Cond.initialized "java/util/ArrayList$SubList").before a0 Z = true := V.1 _ (List.mem_of_getElem? (i := 166) rfl)
theorem wd167 (V : Env1 Z a0 n0 uu0 uu1 uu2 uu3 uu4 uu5) : (Jvm.Cond.methodLink "java/util/ArrayList" (278 : Nat) ({ cls := "java/util/ArrayList$SubList", name := "<init>", desc := "(Ljava/util/ArrayList;II)V" } : Jvm.MethodName)).before a0 Z = true := V.1 _ (List.mem_of_getElem? (i := 167) rfl)
theorem wd168 (V : Env1 Z a0 n0 uu0 uu1 uu2 uu3 uu4 uu5) : (Jvm.Cond.instanceMethod ({ cls := "java/util/ArrayList$SubList", name := "<init>", desc := "(Ljava/util/ArrayList;II)V" } : Jvm.MethodName)).before a0 Z = true := V.1 _ (List.mem_of_getElem? (i := 168) rfl)
theorem wd170 (V : Env1 Z a0 n0 uu0 uu1 uu2 uu3 uu4 uu5) : (Jvm.Cond.code ({ cls := "java/util/ArrayList$SubList", name := "<init>", desc := "(Ljava/util/ArrayList;II)V" } : Jvm.MethodName) jdk_130_method_1_code (4 : Nat) (Option.none : Option Jvm.ClassFile.FieldType)).before a0 Z = true := V.1 _ (List.mem_of_getElem? (i := 170) rfl)
theorem wd171 (V : Env1 Z a0 n0 uu0 uu1 uu2 uu3 uu4 uu5) : (Jvm.Cond.methodLink "java/util/ArrayList$SubList" (1 : Nat) ({ cls := "java/util/AbstractList", name := "<init>", desc := "()V" } : Jvm.MethodName)).before a0 Z = true := V.1 _ (List.mem_of_getElem? (i := 171) rfl)
theorem wd174 (V : Env1 Z a0 n0 uu0 uu1 uu2 uu3 uu4 uu5) : (Jvm.Cond.lays "java/util/ArrayList$SubList" "java/util/AbstractList" "modCount" "I").before a0 Z = true := V.1 _ (List.mem_of_getElem? (i := 174) rfl)
theorem wd175 (V : Env1 Z a0 n0 uu0 uu1 uu2 uu3 uu4 uu5) : (Jvm.Cond.fieldLink "java/util/ArrayList$SubList" (7 : Nat) "java/util/ArrayList$SubList" "root" "Ljava/util/ArrayList;").before a0 Z = true := V.1 _ (List.mem_of_getElem? (i := 175) rfl)
theorem wd176 (V : Env1 Z a0 n0 uu0 uu1 uu2 uu3 uu4 uu5) : (Jvm.Cond.laysFinal "java/util/ArrayList$SubList" "java/util/ArrayList$SubList" "root" "Ljava/util/ArrayList;").before a0 Z = true := V.1 _ (List.mem_of_getElem? (i := 176) rfl)
theorem wd177 (V : Env1 Z a0 n0 uu0 uu1 uu2 uu3 uu4 uu5) : (Jvm.Cond.fieldLink "java/util/ArrayList$SubList" (13 : Nat) "java/util/ArrayList$SubList" "parent" "Ljava/util/ArrayList$SubList;").before a0 Z = true := V.1 _ (List.mem_of_getElem? (i := 177) rfl)
theorem wd178 (V : Env1 Z a0 n0 uu0 uu1 uu2 uu3 uu4 uu5) : (Jvm.Cond.laysFinal "java/util/ArrayList$SubList" "java/util/ArrayList$SubList" "parent" "Ljava/util/ArrayList$SubList;").before a0 Z = true := V.1 _ (List.mem_of_getElem? (i := 178) rfl)
theorem wd179 (V : Env1 Z a0 n0 uu0 uu1 uu2 uu3 uu4 uu5) : (Jvm.Cond.fieldLink "java/util/ArrayList$SubList" (17 : Nat) "java/util/ArrayList$SubList" "offset" "I").before a0 Z = true := V.1 _ (List.mem_of_getElem? (i := 179) rfl)
theorem wd180 (V : Env1 Z a0 n0 uu0 uu1 uu2 uu3 uu4 uu5) : (Jvm.Cond.laysFinal "java/util/ArrayList$SubList" "java/util/ArrayList$SubList" "offset" "I").before a0 Z = true := V.1 _ (List.mem_of_getElem? (i := 180) rfl)
theorem wd181 (V : Env1 Z a0 n0 uu0 uu1 uu2 uu3 uu4 uu5) : (Jvm.Cond.fieldLink "java/util/ArrayList$SubList" (21 : Nat) "java/util/ArrayList$SubList" "size" "I").before a0 Z = true := V.1 _ (List.mem_of_getElem? (i := 181) rfl)
theorem wd182 (V : Env1 Z a0 n0 uu0 uu1 uu2 uu3 uu4 uu5) : (Jvm.Cond.lays "java/util/ArrayList$SubList" "java/util/ArrayList$SubList" "size" "I").before a0 Z = true := V.1 _ (List.mem_of_getElem? (i := 182) rfl)
theorem wd183 (V : Env1 Z a0 n0 uu0 uu1 uu2 uu3 uu4 uu5) : (Jvm.Cond.fieldLink "java/util/ArrayList$SubList" (24 : Nat) "java/util/ArrayList" "modCount" "I").before a0 Z = true := V.1 _ (List.mem_of_getElem? (i := 183) rfl)
theorem wd184 (V : Env1 Z a0 n0 uu0 uu1 uu2 uu3 uu4 uu5) : (Jvm.Cond.fieldLink "java/util/ArrayList$SubList" (29 : Nat) "java/util/ArrayList$SubList" "modCount" "I").before a0 Z = true := V.1 _ (List.mem_of_getElem? (i := 184) rfl)
theorem wd185 (V : Env1 Z a0 n0 uu0 uu1 uu2 uu3 uu4 uu5) : (Jvm.Cond.sameField "java/util/ArrayList$SubList" "java/util/AbstractList" "modCount" "I").before a0 Z = true := V.1 _ (List.mem_of_getElem? (i := 185) rfl)
theorem wd186 (V : Env1 Z a0 n0 uu0 uu1 uu2 uu3 uu4 uu5) : (Jvm.Cond.methodLink "com/example/formboard/formboard/cli/ArgumentsValuePinLaw" (44 : Nat) ({ cls := "java/util/List", name := "size", desc := "()I" } : Jvm.MethodName)).before a0 Z = true := V.1 _ (List.mem_of_getElem? (i := 186) rfl)
theorem wd187 (V : Env1 Z a0 n0 uu0 uu1 uu2 uu3 uu4 uu5) : (Jvm.Cond.selects "java/util/ArrayList$SubList" ({ cls := "java/util/List", name := "size", desc := "()I" } : Jvm.MethodName) ({ cls := "java/util/ArrayList$SubList", name := "size", desc := "()I" } : Jvm.MethodName)).before a0 Z = true := V.1 _ (List.mem_of_getElem? (i := 187) rfl)
theorem wd188 (V : Env1 Z a0 n0 uu0 uu1 uu2 uu3 uu4 uu5) : (Jvm.Cond.instanceMethod ({ cls := "java/util/ArrayList$SubList", name := "size", desc := "()I" } : Jvm.MethodName)).before a0 Z = true := V.1 _ (List.mem_of_getElem? (i := 188) rfl)
theorem wd189 (V : Env1 Z a0 n0 uu0 uu1 uu2 uu3 uu4 uu5) : (Jvm.Cond.publicMethod ({ cls := "java/util/ArrayList$SubList", name := "size", desc := "()I" } : Jvm.MethodName)).before a0 Z = true := V.1 _ (List.mem_of_getElem? (i := 189) rfl)
theorem wd190 (V : Env1 Z a0 n0 uu0 uu1 uu2 uu3 uu4 uu5) : (Jvm.Cond.unhidden "java/util/ArrayList$SubList" "size" "()I").before a0 Z = true := V.1 _ (List.mem_of_getElem? (i := 190) rfl)
theorem wd191 (V : Env1 Z a0 n0 uu0 uu1 uu2 uu3 uu4 uu5) : (Jvm.Cond.castable "java/util/ArrayList$SubList" "java/util/List").before a0 Z = true := V.1 _ (List.mem_of_getElem? (i := 191) rfl)
theorem wd192 (V : Env1 Z a0 n0 uu0 uu1 uu2 uu3 uu4 uu5) : (Jvm.Cond.code ({ cls := "java/util/ArrayList$SubList", name := "size", desc := "()I" } : Jvm.MethodName) jdk_130_method_5_code (1 : Nat) (Option.some Jvm.ClassFile.FieldType.int)).before a0 Z = true := V.1 _ (List.mem_of_getElem? (i := 192) rfl)
theorem wd193 (V : Env1 Z a0 n0 uu0 uu1 uu2 uu3 uu4 uu5) : (Jvm.Cond.methodLink "java/util/ArrayList$SubList" (36 : Nat) ({ cls := "java/util/ArrayList$SubList", name := "checkForComodification", desc := "()V" } : Jvm.MethodName)).before a0 Z = true := V.1 _ (List.mem_of_getElem? (i := 193) rfl)
theorem wd194 (V : Env1 Z a0 n0 uu0 uu1 uu2 uu3 uu4 uu5) : (Jvm.Cond.instanceMethod ({ cls := "java/util/ArrayList$SubList", name := "checkForComodification", desc := "()V" } : Jvm.MethodName)).before a0 Z = true := V.1 _ (List.mem_of_getElem? (i := 194) rfl)
theorem wd195 (V : Env1 Z a0 n0 uu0 uu1 uu2 uu3 uu4 uu5) : (Jvm.Cond.privateMethod ({ cls := "java/util/ArrayList$SubList", name := "checkForComodification", desc := "()V" } : Jvm.MethodName)).before a0 Z = true := V.1 _ (List.mem_of_getElem? (i := 195) rfl)
theorem wd196 (V : Env1 Z a0 n0 uu0 uu1 uu2 uu3 uu4 uu5) : (Jvm.Cond.selects "java/util/ArrayList$SubList" ({ cls := "java/util/ArrayList$SubList", name := "checkForComodification", desc := "()V" } : Jvm.MethodName) ({ cls := "java/util/ArrayList$SubList", name := "checkForComodification", desc := "()V" } : Jvm.MethodName)).before a0 Z = true := V.1 _ (List.mem_of_getElem? (i := 196) rfl)
theorem wd197 (V : Env1 Z a0 n0 uu0 uu1 uu2 uu3 uu4 uu5) : (Jvm.Cond.code ({ cls := "java/util/ArrayList$SubList", name := "checkForComodification", desc := "()V" } : Jvm.MethodName) jdk_130_method_28_code (1 : Nat) (Option.none : Option Jvm.ClassFile.FieldType)).before a0 Z = true := V.1 _ (List.mem_of_getElem? (i := 197) rfl)
theorem wd198 (V : Env1 Z a0 n0 uu0 uu1 uu2 uu3 uu4 uu5) : (Jvm.Cond.methodLink "com/example/formboard/formboard/cli/ArgumentsValuePinLaw" (48 : Nat) ({ cls := "java/util/List", name := "get", desc := "(I)Ljava/lang/Object;" } : Jvm.MethodName)).before a0 Z = true := V.1 _ (List.mem_of_getElem? (i := 198) rfl)
theorem wd199 (V : Env1 Z a0 n0 uu0 uu1 uu2 uu3 uu4 uu5) : (Jvm.Cond.selects "java/util/ArrayList$SubList" ({ cls := "java/util/List", name := "get", desc := "(I)Ljava/lang/Object;" } : Jvm.MethodName) ({ cls := "java/util/ArrayList$SubList", name := "get", desc := "(I)Ljava/lang/Object;" } : Jvm.MethodName)).before a0 Z = true := V.1 _ (List.mem_of_getElem? (i := 199) rfl)
theorem wd200 (V : Env1 Z a0 n0 uu0 uu1 uu2 uu3 uu4 uu5) : (Jvm.Cond.instanceMethod ({ cls := "java/util/ArrayList$SubList", name := "get", desc := "(I)Ljava/lang/Object;" } : Jvm.MethodName)).before a0 Z = true := V.1 _ (List.mem_of_getElem? (i := 200) rfl)
theorem wd201 (V : Env1 Z a0 n0 uu0 uu1 uu2 uu3 uu4 uu5) : (Jvm.Cond.publicMethod ({ cls := "java/util/ArrayList$SubList", name := "get", desc := "(I)Ljava/lang/Object;" } : Jvm.MethodName)).before a0 Z = true := V.1 _ (List.mem_of_getElem? (i := 201) rfl)
theorem wd202 (V : Env1 Z a0 n0 uu0 uu1 uu2 uu3 uu4 uu5) : (Jvm.Cond.unhidden "java/util/ArrayList$SubList" "get" "(I)Ljava/lang/Object;").before a0 Z = true := V.1 _ (List.mem_of_getElem? (i := 202) rfl)
theorem wd203 (V : Env1 Z a0 n0 uu0 uu1 uu2 uu3 uu4 uu5) : (Jvm.Cond.code ({ cls := "java/util/ArrayList$SubList", name := "get", desc := "(I)Ljava/lang/Object;" } : Jvm.MethodName) jdk_130_method_4_code (2 : Nat) (Option.some (Jvm.ClassFile.FieldType.object "java/lang/Object"))).before a0 Z = true := V.1 _ (List.mem_of_getElem? (i := 203) rfl)
theorem wd204 (V : Env1 Z a0 n0 uu0 uu1 uu2 uu3 uu4 uu5) : (Jvm.Cond.methodLink "java/util/ArrayList$SubList" (30 : Nat) ({ cls := "java/util/Objects", name := "checkIndex", desc := "(II)I" } : Jvm.MethodName)).before a0 Z = true := V.1 _ (List.mem_of_getElem? (i := 204) rfl)
theorem wd205 (V : Env1 Z a0 n0 uu0 uu1 uu2 uu3 uu4 uu5) : (Jvm.Cond.methodLink "java/util/ArrayList$SubList" (39 : Nat) ({ cls := "java/util/ArrayList", name := "elementData", desc := "(I)Ljava/lang/Object;" } : Jvm.MethodName)).before a0 Z = true := V.1 _ (List.mem_of_getElem? (i := 205) rfl)
theorem wd206 (V : Env1 Z a0 n0 uu0 uu1 uu2 uu3 uu4 uu5) : (Jvm.Cond.methodLink "com/example/formboard/formboard/cli/ArgumentsValuePinLaw" (52 : Nat) ({ cls := "com/example/formboard/formboard/cli/ArgumentsValuePinLaw", name := "dashes", desc := "(I)Z" } : Jvm.MethodName)).before a0 Z = true := V.1 _ (List.mem_of_getElem? (i := 206) rfl)
theorem wd207 (V : Env1 Z a0 n0 uu0 uu1 uu2 uu3 uu4 uu5) : (Jvm.Cond.static ({ cls := "com/example/formboard/formboard/cli/ArgumentsValuePinLaw", name := "dashes", desc := "(I)Z" } : Jvm.MethodName)).before a0 Z = true := V.1 _ (List.mem_of_getElem? (i := 207) rfl)
theorem wd208 (V : Env1 Z a0 n0 uu0 uu1 uu2 uu3 uu4 uu5) : (Jvm.Cond.code ({ cls := "com/example/formboard/formboard/cli/ArgumentsValuePinLaw", name := "dashes", desc := "(I)Z" } : Jvm.MethodName) method_3_code (1 : Nat) (Option.some Jvm.ClassFile.FieldType.boolean)).before a0 Z = true := V.1 _ (List.mem_of_getElem? (i := 208) rfl)
theorem wd209 (V : Env1 Z a0 n0 uu0 uu1 uu2 uu3 uu4 uu5) : (Jvm.Cond.methodLink "com/example/formboard/formboard/cli/ArgumentsValuePinLaw" (56 : Nat) ({ cls := "com/example/formboard/formboard/cli/Arguments", name := "nextIsOption", desc := "()Z" } : Jvm.MethodName)).before a0 Z = true := V.1 _ (List.mem_of_getElem? (i := 209) rfl)
theorem wd210 (V : Env1 Z a0 n0 uu0 uu1 uu2 uu3 uu4 uu5) : (Jvm.Cond.declares ({ cls := "com/example/formboard/formboard/cli/Arguments", name := "nextIsOption", desc := "()Z" } : Jvm.MethodName)).before a0 Z = true := V.1 _ (List.mem_of_getElem? (i := 210) rfl)
theorem wd211 (V : Env1 Z a0 n0 uu0 uu1 uu2 uu3 uu4 uu5) : (Jvm.Cond.instanceMethod ({ cls := "com/example/formboard/formboard/cli/Arguments", name := "nextIsOption", desc := "()Z" } : Jvm.MethodName)).before a0 Z = true := V.1 _ (List.mem_of_getElem? (i := 211) rfl)
theorem wd212 (V : Env1 Z a0 n0 uu0 uu1 uu2 uu3 uu4 uu5) : (Jvm.Cond.selects "com/example/formboard/formboard/cli/Arguments" ({ cls := "com/example/formboard/formboard/cli/Arguments", name := "nextIsOption", desc := "()Z" } : Jvm.MethodName) ({ cls := "com/example/formboard/formboard/cli/Arguments", name := "nextIsOption", desc := "()Z" } : Jvm.MethodName)).before a0 Z = true := V.1 _ (List.mem_of_getElem? (i := 212) rfl)
theorem wd213 (V : Env1 Z a0 n0 uu0 uu1 uu2 uu3 uu4 uu5) : (Jvm.Cond.code ({ cls := "com/example/formboard/formboard/cli/Arguments", name := "nextIsOption", desc := "()Z" } : Jvm.MethodName) prog_1_method_2_code (1 : Nat) (Option.some Jvm.ClassFile.FieldType.boolean)).before a0 Z = true := V.1 _ (List.mem_of_getElem? (i := 213) rfl)
theorem wd214 (V : Env1 Z a0 n0 uu0 uu1 uu2 uu3 uu4 uu5) : (Jvm.Cond.stringLink "com/example/formboard/formboard/cli/Arguments" (33 : Nat) "--").before a0 Z = true := V.1 _ (List.mem_of_getElem? (i := 214) rfl)
theorem wd217 (V : Env1 Z a0 n0 uu0 uu1 uu2 uu3 uu4 uu5) : (Jvm.Cond.methodLink "com/example/formboard/formboard/cli/Arguments" (35 : Nat) ({ cls := "java/lang/String", name := "startsWith", desc := "(Ljava/lang/String;)Z" } : Jvm.MethodName)).before a0 Z = true := V.1 _ (List.mem_of_getElem? (i := 217) rfl)
theorem wd218 (V : Env1 Z a0 n0 uu0 uu1 uu2 uu3 uu4 uu5) : (Jvm.Cond.declares ({ cls := "java/lang/String", name := "startsWith", desc := "(Ljava/lang/String;)Z" } : Jvm.MethodName)).before a0 Z = true := V.1 _ (List.mem_of_getElem? (i := 218) rfl)
theorem wd219 (V : Env1 Z a0 n0 uu0 uu1 uu2 uu3 uu4 uu5) : (Jvm.Cond.instanceMethod ({ cls := "java/lang/String", name := "startsWith", desc := "(Ljava/lang/String;)Z" } : Jvm.MethodName)).before a0 Z = true := V.1 _ (List.mem_of_getElem? (i := 219) rfl)
theorem wd220 (V : Env1 Z a0 n0 uu0 uu1 uu2 uu3 uu4 uu5) : (Jvm.Cond.selects "java/lang/String" ({ cls := "java/lang/String", name := "startsWith", desc := "(Ljava/lang/String;)Z" } : Jvm.MethodName) ({ cls := "java/lang/String", name := "startsWith", desc := "(Ljava/lang/String;)Z" } : Jvm.MethodName)).before a0 Z = true := V.1 _ (List.mem_of_getElem? (i := 220) rfl)
theorem wd221 (V : Env1 Z a0 n0 uu0 uu1 uu2 uu3 uu4 uu5) : (Jvm.Cond.code ({ cls := "java/lang/String", name := "startsWith", desc := "(Ljava/lang/String;)Z" } : Jvm.MethodName) jdk_42_method_76_code (2 : Nat) (Option.some Jvm.ClassFile.FieldType.boolean)).before a0 Z = true := V.1 _ (List.mem_of_getElem? (i := 221) rfl)
theorem wd222 (V : Env1 Z a0 n0 uu0 uu1 uu2 uu3 uu4 uu5) : (Jvm.Cond.methodLink "java/lang/String" (624 : Nat) ({ cls := "java/lang/String", name := "startsWith", desc := "(Ljava/lang/String;I)Z" } : Jvm.MethodName)).before a0 Z = true := V.1 _ (List.mem_of_getElem? (i := 222) rfl)
theorem wd223 (V : Env1 Z a0 n0 uu0 uu1 uu2 uu3 uu4 uu5) : (Jvm.Cond.declares ({ cls := "java/lang/String", name := "startsWith", desc := "(Ljava/lang/String;I)Z" } : Jvm.MethodName)).before a0 Z = true := V.1 _ (List.mem_of_getElem? (i := 223) rfl)
theorem wd224 (V : Env1 Z a0 n0 uu0 uu1 uu2 uu3 uu4 uu5) : (Jvm.Cond.instanceMethod ({ cls := "java/lang/String", name := "startsWith", desc := "(Ljava/lang/String;I)Z" } : Jvm.MethodName)).before a0 Z = true := V.1 _ (List.mem_of_getElem? (i := 224) rfl)
theorem wd225 (V : Env1 Z a0 n0 uu0 uu1 uu2 uu3 uu4 uu5) : (Jvm.Cond.selects "java/lang/String" ({ cls := "java/lang/String", name := "startsWith", desc := "(Ljava/lang/String;I)Z" } : Jvm.MethodName) ({ cls := "java/lang/String", name := "startsWith", desc := "(Ljava/lang/String;I)Z" } : Jvm.MethodName)).before a0 Z = true := V.1 _ (List.mem_of_getElem? (i := 225) rfl)
theorem wd226 (V : Env1 Z a0 n0 uu0 uu1 uu2 uu3 uu4 uu5) : (Jvm.Cond.code ({ cls := "java/lang/String", name := "startsWith", desc := "(Ljava/lang/String;I)Z" } : Jvm.MethodName) jdk_42_method_75_code (8 : Nat) (Option.some Jvm.ClassFile.FieldType.boolean)).before a0 Z = true := V.1 _ (List.mem_of_getElem? (i := 226) rfl)
theorem wd227 (V : Env1 Z a0 n0 uu0 uu1 uu2 uu3 uu4 uu5) : (Jvm.Cond.methodLink "java/lang/String" (505 : Nat) ({ cls := "java/lang/String", name := "length", desc := "()I" } : Jvm.MethodName)).before a0 Z = true := V.1 _ (List.mem_of_getElem? (i := 227) rfl)
theorem wd228 (V : Env1 Z a0 n0 uu0 uu1 uu2 uu3 uu4 uu5) : (Jvm.Cond.declares ({ cls := "java/lang/String", name := "length", desc := "()I" } : Jvm.MethodName)).before a0 Z = true := V.1 _ (List.mem_of_getElem? (i := 228) rfl)
theorem wd229 (V : Env1 Z a0 n0 uu0 uu1 uu2 uu3 uu4 uu5) : (Jvm.Cond.instanceMethod ({ cls := "java/lang/String", name := "length", desc := "()I" } : Jvm.MethodName)).before a0 Z = true := V.1 _ (List.mem_of_getElem? (i := 229) rfl)
theorem wd230 (V : Env1 Z a0 n0 uu0 uu1 uu2 uu3 uu4 uu5) : (Jvm.Cond.selects "java/lang/String" ({ cls := "java/lang/String", name := "length", desc := "()I" } : Jvm.MethodName) ({ cls := "java/lang/String", name := "length", desc := "()I" } : Jvm.MethodName)).before a0 Z = true := V.1 _ (List.mem_of_getElem? (i := 230) rfl)
theorem wd231 (V : Env1 Z a0 n0 uu0 uu1 uu2 uu3 uu4 uu5) : (Jvm.Cond.code ({ cls := "java/lang/String", name := "length", desc := "()I" } : Jvm.MethodName) jdk_42_method_54_code (1 : Nat) (Option.some Jvm.ClassFile.FieldType.int)).before a0 Z = true := V.1 _ (List.mem_of_getElem? (i := 231) rfl)
theorem wd232 (V : Env1 Z a0 n0 uu0 uu1 uu2 uu3 uu4 uu5) : (Jvm.Cond.methodLink "java/lang/String" (335 : Nat) ({ cls := "java/lang/String", name := "coder", desc := "()B" } : Jvm.MethodName)).before a0 Z = true := V.1 _ (List.mem_of_getElem? (i := 232) rfl)
theorem wd233 (V : Env1 Z a0 n0 uu0 uu1 uu2 uu3 uu4 uu5) : (Jvm.Cond.declares ({ cls := "java/lang/String", name := "coder", desc := "()B" } : Jvm.MethodName)).before a0 Z = true := V.1 _ (List.mem_of_getElem? (i := 233) rfl)
theorem wd234 (V : Env1 Z a0 n0 uu0 uu1 uu2 uu3 uu4 uu5) : (Jvm.Cond.instanceMethod ({ cls := "java/lang/String", name := "coder", desc := "()B" } : Jvm.MethodName)).before a0 Z = true := V.1 _ (List.mem_of_getElem? (i := 234) rfl)
theorem wd235 (V : Env1 Z a0 n0 uu0 uu1 uu2 uu3 uu4 uu5) : (Jvm.Cond.selects "java/lang/String" ({ cls := "java/lang/String", name := "coder", desc := "()B" } : Jvm.MethodName) ({ cls := "java/lang/String", name := "coder", desc := "()B" } : Jvm.MethodName)).before a0 Z = true := V.1 _ (List.mem_of_getElem? (i := 235) rfl)
theorem wd236 (V : Env1 Z a0 n0 uu0 uu1 uu2 uu3 uu4 uu5) : (Jvm.Cond.code ({ cls := "java/lang/String", name := "coder", desc := "()B" } : Jvm.MethodName) jdk_42_method_152_code (1 : Nat) (Option.some Jvm.ClassFile.FieldType.byte)).before a0 Z = true := V.1 _ (List.mem_of_getElem? (i := 236) rfl)
theorem wd237 (V : Env1 Z a0 n0 uu0 uu1 uu2 uu3 uu4 uu5) : (Jvm.Cond.methodLink "java/lang/String" (607 : Nat) ({ cls := "jdk/internal/util/ArraysSupport", name := "mismatch", desc := "([BI[BII)I" } : Jvm.MethodName)).before a0 Z = true := V.1 _ (List.mem_of_getElem? (i := 237) rfl)
theorem wd238 (V : Env1 Z a0 n0 uu0 uu1 uu2 uu3 uu4 uu5) : (Jvm.Cond.static ({ cls := "jdk/internal/util/ArraysSupport", name := "mismatch", desc := "([BI[BII)I" } : Jvm.MethodName)).before a0 Z = true := V.1 _ (List.mem_of_getElem? (i := 238) rfl)
theorem wd239 (V : Env1 Z a0 n0 uu0 uu1 uu2 uu3 uu4 uu5) : (Jvm.Cond.initialized "jdk/internal/util/ArraysSupport").before a0 Z = true := V.1 _ (List.mem_of_getElem? (i := 239) rfl)
theorem wd240 (V : Env1 Z a0 n0 uu0 uu1 uu2 uu3 uu4 uu5) : (Jvm.Cond.code ({ cls := "jdk/internal/util/ArraysSupport", name := "mismatch", desc := "([BI[BII)I" } : Jvm.MethodName) jdk_48_method_14_code (8 : Nat) (Option.some Jvm.ClassFile.FieldType.int)).before a0 Z = true := V.1 _ (List.mem_of_getElem? (i := 240) rfl)
set_option maxRecDepth 65536 in
theorem wS (V : Env1 Z a0 n0 uu0 uu1 uu2 uu3 uu4 uu5) : ∀ a ∈ Bundle.stringAtoms, a.before a0 Z = true := fun d hd => V.1 d ((by decide +kernel : ∀ d ∈ Bundle.stringAtoms, d ∈ tables_1) d hd)
theorem pd_0 : parseMethodDescriptor "(I)Ljava/lang/String;" = some ⟨[.int], (some (.object "java/lang/String"))⟩ := by decide +kernel
theorem pd_1 : parseMethodDescriptor "()V" = some ⟨[], none⟩ := by decide +kernel
theorem pd_2 : parseMethodDescriptor "(II)I" = some ⟨[.int, .int], (some .int)⟩ := by decide +kernel
theorem pd_3 : parseMethodDescriptor "(I)[Ljava/lang/Object;" = some ⟨[.int], (some (.array (.object "java/lang/Object")))⟩ := by decide +kernel
theorem pd_4 : parseMethodDescriptor "()[Ljava/lang/Object;" = some ⟨[], (some (.array (.object "java/lang/Object")))⟩ := by decide +kernel
theorem pd_5 : parseMethodDescriptor "(Ljava/lang/Object;[Ljava/lang/Object;I)V" = some ⟨[(.object "java/lang/Object"), (.array (.object "java/lang/Object")), .int], none⟩ := by decide +kernel
theorem pd_6 : parseMethodDescriptor "(Ljava/lang/Object;)Z" = some ⟨[(.object "java/lang/Object")], (some .boolean)⟩ := by decide +kernel
theorem pd_7 : parseMethodDescriptor "(Ljava/util/List;Ljava/lang/String;)V" = some ⟨[(.object "java/util/List"), (.object "java/lang/String")], none⟩ := by decide +kernel
theorem pd_8 : parseMethodDescriptor "()I" = some ⟨[], (some .int)⟩ := by decide +kernel
theorem pd_9 : parseMethodDescriptor "(IILjava/util/function/BiFunction;)I" = some ⟨[.int, .int, (.object "java/util/function/BiFunction")], (some .int)⟩ := by decide +kernel
theorem pd_10 : parseMethodDescriptor "(I)Ljava/lang/Object;" = some ⟨[.int], (some (.object "java/lang/Object"))⟩ := by decide +kernel
theorem pd_11 : parseMethodDescriptor "(Ljava/lang/String;)Ljava/lang/String;" = some ⟨[(.object "java/lang/String")], (some (.object "java/lang/String"))⟩ := by decide +kernel
theorem pd_12 : parseMethodDescriptor "(III)V" = some ⟨[.int, .int, .int], none⟩ := by decide +kernel
theorem pd_13 : parseMethodDescriptor "(Ljava/util/ArrayList;II)V" = some ⟨[(.object "java/util/ArrayList"), .int, .int], none⟩ := by decide +kernel
theorem pd_14 : parseMethodDescriptor "(II)Ljava/util/List;" = some ⟨[.int, .int], (some (.object "java/util/List"))⟩ := by decide +kernel
theorem pd_15 : parseMethodDescriptor "()Ljava/util/List;" = some ⟨[], (some (.object "java/util/List"))⟩ := by decide +kernel
theorem pd_16 : parseMethodDescriptor "(I)Z" = some ⟨[.int], (some .boolean)⟩ := by decide +kernel
theorem pd_17 : parseMethodDescriptor "()B" = some ⟨[], (some .byte)⟩ := by decide +kernel
theorem pd_18 : parseMethodDescriptor "([BI[BII)I" = some ⟨[(.array .byte), .int, (.array .byte), .int, .int], (some .int)⟩ := by decide +kernel
theorem pd_19 : parseMethodDescriptor "(Ljava/lang/String;I)Z" = some ⟨[(.object "java/lang/String"), .int], (some .boolean)⟩ := by decide +kernel
theorem pd_20 : parseMethodDescriptor "(Ljava/lang/String;)Z" = some ⟨[(.object "java/lang/String")], (some .boolean)⟩ := by decide +kernel
theorem pd_21 : parseMethodDescriptor "()Z" = some ⟨[], (some .boolean)⟩ := by decide +kernel
set_option maxRecDepth 65536 in
theorem strw (V : Env1 Z a0 n0 uu0 uu1 uu2 uu3 uu4 uu5) : ∀ d ∈ StrChars.Road.words, d.before a0 Z = true := fun d hd => V.1 d ((by decide +kernel : ∀ d ∈ StrChars.Road.words, d ∈ tables_1) d hd)
theorem D25_0 : decode method_2_code 0 = .ok (.iconst 2, 1) := by decide +kernel
theorem D25_1 : decode method_2_code 1 = .ok (.newarray .char, 2) := by decide +kernel
theorem D25_3 : decode method_2_code 3 = .ok (.astore_n 1, 1) := by decide +kernel
theorem D25_4 : decode method_2_code 4 = .ok (.aload_n 1, 1) := by decide +kernel
theorem D25_5 : decode method_2_code 5 = .ok (.iconst 0, 1) := by decide +kernel
theorem D25_6 : decode method_2_code 6 = .ok (.iload_n 0, 1) := by decide +kernel
theorem D25_7 : decode method_2_code 7 = .ok (.sipush 255, 3) := by decide +kernel
theorem D25_10 : decode method_2_code 10 = .ok (.iand, 1) := by decide +kernel
theorem D25_11 : decode method_2_code 11 = .ok (.i2c, 1) := by decide +kernel
theorem D25_12 : decode method_2_code 12 = .ok (.castore, 1) := by decide +kernel
theorem D25_13 : decode method_2_code 13 = .ok (.aload_n 1, 1) := by decide +kernel
theorem D25_14 : decode method_2_code 14 = .ok (.iconst 1, 1) := by decide +kernel
theorem D25_15 : decode method_2_code 15 = .ok (.iload_n 0, 1) := by decide +kernel
theorem D25_16 : decode method_2_code 16 = .ok (.bipush 8, 2) := by decide +kernel
theorem D25_18 : decode method_2_code 18 = .ok (.iushr, 1) := by decide +kernel
theorem D25_19 : decode method_2_code 19 = .ok (.sipush 255, 3) := by decide +kernel
theorem D25_22 : decode method_2_code 22 = .ok (.iand, 1) := by decide +kernel
theorem D25_23 : decode method_2_code 23 = .ok (.i2c, 1) := by decide +kernel
theorem D25_24 : decode method_2_code 24 = .ok (.castore, 1) := by decide +kernel
theorem D25_25 : decode method_2_code 25 = .ok (.new 7, 3) := by decide +kernel
theorem D25_28 : decode method_2_code 28 = .ok (.dup, 1) := by decide +kernel
theorem D25_29 : decode method_2_code 29 = .ok (.aload_n 1, 1) := by decide +kernel
theorem D25_30 : decode method_2_code 30 = .ok (.invokespecial 9, 3) := by decide +kernel
theorem D25_33 : decode method_2_code 33 = .ok (.areturn, 1) := by decide +kernel
theorem D11_0 : decode jdk_38_method_2_code 0 = .ok (.aload_n 0, 1) := by decide +kernel
theorem D11_1 : decode jdk_38_method_2_code 1 = .ok (.invokespecial 1, 3) := by decide +kernel
theorem D17_0 : decode jdk_39_method_1_code 0 = .ok (.aload_n 0, 1) := by decide +kernel
theorem D17_1 : decode jdk_39_method_1_code 1 = .ok (.invokespecial 1, 3) := by decide +kernel
theorem D4_0 : decode jdk_22_method_1_code 0 = .ok (.aload_n 0, 1) := by decide +kernel
theorem D4_1 : decode jdk_22_method_1_code 1 = .ok (.invokespecial 1, 3) := by decide +kernel
theorem D4_4 : decode jdk_22_method_1_code 4 = .ok (.return_, 1) := by decide +kernel
theorem D17_4 : decode jdk_39_method_1_code 4 = .ok (.aload_n 0, 1) := by decide +kernel
theorem D17_5 : decode jdk_39_method_1_code 5 = .ok (.iconst 0, 1) := by decide +kernel
theorem D17_6 : decode jdk_39_method_1_code 6 = .ok (.putfield 7, 3) := by decide +kernel
theorem D17_9 : decode jdk_39_method_1_code 9 = .ok (.return_, 1) := by decide +kernel
theorem D11_4 : decode jdk_38_method_2_code 4 = .ok (.aload_n 0, 1) := by decide +kernel
theorem D11_5 : decode jdk_38_method_2_code 5 = .ok (.getstatic 39, 3) := by decide +kernel
theorem D11_8 : decode jdk_38_method_2_code 8 = .ok (.putfield 9, 3) := by decide +kernel
theorem D11_11 : decode jdk_38_method_2_code 11 = .ok (.return_, 1) := by decide +kernel
theorem D10_0 : decode jdk_38_method_25_code 0 = .ok (.aload_n 0, 1) := by decide +kernel
theorem D10_1 : decode jdk_38_method_25_code 1 = .ok (.dup, 1) := by decide +kernel
theorem D10_2 : decode jdk_38_method_25_code 2 = .ok (.getfield 63, 3) := by decide +kernel
theorem D10_5 : decode jdk_38_method_25_code 5 = .ok (.iconst 1, 1) := by decide +kernel
theorem D10_6 : decode jdk_38_method_25_code 6 = .ok (.iadd, 1) := by decide +kernel
theorem D10_7 : decode jdk_38_method_25_code 7 = .ok (.putfield 63, 3) := by decide +kernel
theorem D10_10 : decode jdk_38_method_25_code 10 = .ok (.aload_n 0, 1) := by decide +kernel
theorem D10_11 : decode jdk_38_method_25_code 11 = .ok (.aload_n 1, 1) := by decide +kernel
theorem D10_12 : decode jdk_38_method_25_code 12 = .ok (.aload_n 0, 1) := by decide +kernel
theorem D10_13 : decode jdk_38_method_25_code 13 = .ok (.getfield 9, 3) := by decide +kernel
theorem D10_16 : decode jdk_38_method_25_code 16 = .ok (.aload_n 0, 1) := by decide +kernel
theorem D10_17 : decode jdk_38_method_25_code 17 = .ok (.getfield 48, 3) := by decide +kernel
theorem D10_20 : decode jdk_38_method_25_code 20 = .ok (.invokevirtual 131, 3) := by decide +kernel
theorem D9_0 : decode jdk_38_method_24_code 0 = .ok (.iload_n 3, 1) := by decide +kernel
theorem D9_1 : decode jdk_38_method_24_code 1 = .ok (.aload_n 2, 1) := by decide +kernel
theorem D9_2 : decode jdk_38_method_24_code 2 = .ok (.arraylength, 1) := by decide +kernel
theorem D9_3 : decode jdk_38_method_24_code 3 = .ok (.if_icmp .ne 8, 3) := by decide +kernel
theorem D9_6 : decode jdk_38_method_24_code 6 = .ok (.aload_n 0, 1) := by decide +kernel
theorem D9_7 : decode jdk_38_method_24_code 7 = .ok (.invokevirtual 129, 3) := by decide +kernel
theorem D14_0 : decode jdk_38_method_7_code 0 = .ok (.aload_n 0, 1) := by decide +kernel
theorem D14_1 : decode jdk_38_method_7_code 1 = .ok (.aload_n 0, 1) := by decide +kernel
theorem D14_2 : decode jdk_38_method_7_code 2 = .ok (.getfield 48, 3) := by decide +kernel
theorem D14_5 : decode jdk_38_method_7_code 5 = .ok (.iconst 1, 1) := by decide +kernel
theorem D14_6 : decode jdk_38_method_7_code 6 = .ok (.iadd, 1) := by decide +kernel
theorem D14_7 : decode jdk_38_method_7_code 7 = .ok (.invokevirtual 69, 3) := by decide +kernel
theorem D13_0 : decode jdk_38_method_6_code 0 = .ok (.aload_n 0, 1) := by decide +kernel
theorem D13_1 : decode jdk_38_method_6_code 1 = .ok (.getfield 9, 3) := by decide +kernel
theorem D13_4 : decode jdk_38_method_6_code 4 = .ok (.arraylength, 1) := by decide +kernel
theorem D13_5 : decode jdk_38_method_6_code 5 = .ok (.istore_n 2, 1) := by decide +kernel
theorem D13_6 : decode jdk_38_method_6_code 6 = .ok (.iload_n 2, 1) := by decide +kernel
theorem D13_7 : decode jdk_38_method_6_code 7 = .ok (.ifCond .gt 13, 3) := by decide +kernel
theorem D13_10 : decode jdk_38_method_6_code 10 = .ok (.aload_n 0, 1) := by decide +kernel
theorem D13_11 : decode jdk_38_method_6_code 11 = .ok (.getfield 9, 3) := by decide +kernel
theorem D13_14 : decode jdk_38_method_6_code 14 = .ok (.getstatic 39, 3) := by decide +kernel
theorem D13_17 : decode jdk_38_method_6_code 17 = .ok (.if_acmp .eq 28, 3) := by decide +kernel
theorem D13_45 : decode jdk_38_method_6_code 45 = .ok (.aload_n 0, 1) := by decide +kernel
theorem D13_46 : decode jdk_38_method_6_code 46 = .ok (.bipush 10, 2) := by decide +kernel
theorem D13_48 : decode jdk_38_method_6_code 48 = .ok (.iload_n 1, 1) := by decide +kernel
theorem D13_49 : decode jdk_38_method_6_code 49 = .ok (.invokestatic 79, 3) := by decide +kernel
theorem D5_0 : decode jdk_29_method_65_code 0 = .ok (.iload_n 0, 1) := by decide +kernel
theorem D5_1 : decode jdk_29_method_65_code 1 = .ok (.iload_n 1, 1) := by decide +kernel
theorem D5_2 : decode jdk_29_method_65_code 2 = .ok (.if_icmp .lt 7, 3) := by decide +kernel
theorem D5_5 : decode jdk_29_method_65_code 5 = .ok (.iload_n 0, 1) := by decide +kernel
theorem D5_6 : decode jdk_29_method_65_code 6 = .ok (.goto 4, 3) := by decide +kernel
theorem D5_10 : decode jdk_29_method_65_code 10 = .ok (.ireturn, 1) := by decide +kernel
theorem D13_52 : decode jdk_38_method_6_code 52 = .ok (.anewarray 7, 3) := by decide +kernel
theorem D13_55 : decode jdk_38_method_6_code 55 = .ok (.dup_x1, 1) := by decide +kernel
theorem D13_56 : decode jdk_38_method_6_code 56 = .ok (.putfield 9, 3) := by decide +kernel
theorem D13_59 : decode jdk_38_method_6_code 59 = .ok (.areturn, 1) := by decide +kernel
theorem D14_10 : decode jdk_38_method_7_code 10 = .ok (.areturn, 1) := by decide +kernel
theorem D9_10 : decode jdk_38_method_24_code 10 = .ok (.astore_n 2, 1) := by decide +kernel
theorem D9_11 : decode jdk_38_method_24_code 11 = .ok (.aload_n 2, 1) := by decide +kernel
theorem D9_12 : decode jdk_38_method_24_code 12 = .ok (.iload_n 3, 1) := by decide +kernel
theorem D9_13 : decode jdk_38_method_24_code 13 = .ok (.aload_n 1, 1) := by decide +kernel
theorem D9_14 : decode jdk_38_method_24_code 14 = .ok (.aastore, 1) := by decide +kernel
theorem D9_15 : decode jdk_38_method_24_code 15 = .ok (.aload_n 0, 1) := by decide +kernel
theorem D9_16 : decode jdk_38_method_24_code 16 = .ok (.iload_n 3, 1) := by decide +kernel
theorem D9_17 : decode jdk_38_method_24_code 17 = .ok (.iconst 1, 1) := by decide +kernel
theorem D9_18 : decode jdk_38_method_24_code 18 = .ok (.iadd, 1) := by decide +kernel
theorem D9_19 : decode jdk_38_method_24_code 19 = .ok (.putfield 48, 3) := by decide +kernel
theorem D9_22 : decode jdk_38_method_24_code 22 = .ok (.return_, 1) := by decide +kernel
theorem D10_23 : decode jdk_38_method_25_code 23 = .ok (.iconst 1, 1) := by decide +kernel
theorem D10_24 : decode jdk_38_method_25_code 24 = .ok (.ireturn, 1) := by decide +kernel
theorem D27_0 : decode prog_1_method_1_code 0 = .ok (.aload_n 0, 1) := by decide +kernel
theorem D27_1 : decode prog_1_method_1_code 1 = .ok (.invokespecial 1, 3) := by decide +kernel
theorem D27_4 : decode prog_1_method_1_code 4 = .ok (.aload_n 0, 1) := by decide +kernel
theorem D27_5 : decode prog_1_method_1_code 5 = .ok (.aload_n 1, 1) := by decide +kernel
theorem D27_6 : decode prog_1_method_1_code 6 = .ok (.putfield 7, 3) := by decide +kernel
theorem D27_9 : decode prog_1_method_1_code 9 = .ok (.aload_n 0, 1) := by decide +kernel
theorem D27_10 : decode prog_1_method_1_code 10 = .ok (.aload_n 2, 1) := by decide +kernel
theorem D27_11 : decode prog_1_method_1_code 11 = .ok (.putfield 13, 3) := by decide +kernel
theorem D27_14 : decode prog_1_method_1_code 14 = .ok (.return_, 1) := by decide +kernel
theorem D29_0 : decode prog_1_method_4_code 0 = .ok (.aload_n 0, 1) := by decide +kernel
theorem D29_1 : decode prog_1_method_4_code 1 = .ok (.getfield 17, 3) := by decide +kernel
theorem D29_4 : decode prog_1_method_4_code 4 = .ok (.aload_n 0, 1) := by decide +kernel
theorem D29_5 : decode prog_1_method_4_code 5 = .ok (.getfield 7, 3) := by decide +kernel
theorem D29_8 : decode prog_1_method_4_code 8 = .ok (.invokeinterface 21 1, 5) := by decide +kernel
theorem D15_0 : decode jdk_38_method_8_code 0 = .ok (.aload_n 0, 1) := by decide +kernel
theorem D15_1 : decode jdk_38_method_8_code 1 = .ok (.getfield 48, 3) := by decide +kernel
theorem D15_4 : decode jdk_38_method_8_code 4 = .ok (.ireturn, 1) := by decide +kernel
theorem D29_13 : decode prog_1_method_4_code 13 = .ok (.if_icmp .ne 21, 3) := by decide +kernel
theorem D29_34 : decode prog_1_method_4_code 34 = .ok (.aload_n 0, 1) := by decide +kernel
theorem D29_35 : decode prog_1_method_4_code 35 = .ok (.getfield 7, 3) := by decide +kernel
theorem D29_38 : decode prog_1_method_4_code 38 = .ok (.aload_n 0, 1) := by decide +kernel
theorem D29_39 : decode prog_1_method_4_code 39 = .ok (.dup, 1) := by decide +kernel
theorem D29_40 : decode prog_1_method_4_code 40 = .ok (.getfield 17, 3) := by decide +kernel
theorem D29_43 : decode prog_1_method_4_code 43 = .ok (.dup_x1, 1) := by decide +kernel
theorem D29_44 : decode prog_1_method_4_code 44 = .ok (.iconst 1, 1) := by decide +kernel
theorem D29_45 : decode prog_1_method_4_code 45 = .ok (.iadd, 1) := by decide +kernel
theorem D29_46 : decode prog_1_method_4_code 46 = .ok (.putfield 17, 3) := by decide +kernel
theorem D29_49 : decode prog_1_method_4_code 49 = .ok (.invokeinterface 27 2, 5) := by decide +kernel
theorem D8_0 : decode jdk_38_method_20_code 0 = .ok (.iload_n 1, 1) := by decide +kernel
theorem D8_1 : decode jdk_38_method_20_code 1 = .ok (.aload_n 0, 1) := by decide +kernel
theorem D8_2 : decode jdk_38_method_20_code 2 = .ok (.getfield 48, 3) := by decide +kernel
theorem D8_5 : decode jdk_38_method_20_code 5 = .ok (.invokestatic 118, 3) := by decide +kernel
theorem D6_0 : decode jdk_31_method_17_code 0 = .ok (.iload_n 0, 1) := by decide +kernel
theorem D6_1 : decode jdk_31_method_17_code 1 = .ok (.iload_n 1, 1) := by decide +kernel
theorem D6_2 : decode jdk_31_method_17_code 2 = .ok (.aconst_null, 1) := by decide +kernel
theorem D6_3 : decode jdk_31_method_17_code 3 = .ok (.invokestatic 105, 3) := by decide +kernel
theorem D18_0 : decode jdk_41_method_11_code 0 = .ok (.iload_n 0, 1) := by decide +kernel
theorem D18_1 : decode jdk_41_method_11_code 1 = .ok (.ifCond .lt 8, 3) := by decide +kernel
theorem D18_4 : decode jdk_41_method_11_code 4 = .ok (.iload_n 0, 1) := by decide +kernel
theorem D18_5 : decode jdk_41_method_11_code 5 = .ok (.iload_n 1, 1) := by decide +kernel
theorem D18_6 : decode jdk_41_method_11_code 6 = .ok (.if_icmp .lt 10, 3) := by decide +kernel
theorem D18_16 : decode jdk_41_method_11_code 16 = .ok (.iload_n 0, 1) := by decide +kernel
theorem D18_17 : decode jdk_41_method_11_code 17 = .ok (.ireturn, 1) := by decide +kernel
theorem D6_6 : decode jdk_31_method_17_code 6 = .ok (.ireturn, 1) := by decide +kernel
theorem D8_8 : decode jdk_38_method_20_code 8 = .ok (.pop, 1) := by decide +kernel
theorem D8_9 : decode jdk_38_method_20_code 9 = .ok (.aload_n 0, 1) := by decide +kernel
theorem D8_10 : decode jdk_38_method_20_code 10 = .ok (.iload_n 1, 1) := by decide +kernel
theorem D8_11 : decode jdk_38_method_20_code 11 = .ok (.invokevirtual 123, 3) := by decide +kernel
theorem D7_0 : decode jdk_38_method_18_code 0 = .ok (.aload_n 0, 1) := by decide +kernel
theorem D7_1 : decode jdk_38_method_18_code 1 = .ok (.getfield 9, 3) := by decide +kernel
theorem D7_4 : decode jdk_38_method_18_code 4 = .ok (.iload_n 1, 1) := by decide +kernel
theorem D7_5 : decode jdk_38_method_18_code 5 = .ok (.aaload, 1) := by decide +kernel
theorem D7_6 : decode jdk_38_method_18_code 6 = .ok (.areturn, 1) := by decide +kernel
theorem D8_14 : decode jdk_38_method_20_code 14 = .ok (.areturn, 1) := by decide +kernel
theorem D29_54 : decode prog_1_method_4_code 54 = .ok (.checkcast 31, 3) := by decide +kernel
theorem D29_57 : decode prog_1_method_4_code 57 = .ok (.areturn, 1) := by decide +kernel
theorem D21_0 : decode jdk_42_method_66_code 0 = .ok (.aload_n 0, 1) := by decide +kernel
theorem D21_1 : decode jdk_42_method_66_code 1 = .ok (.aload_n 1, 1) := by decide +kernel
theorem D21_2 : decode jdk_42_method_66_code 2 = .ok (.if_acmp .ne 5, 3) := by decide +kernel
theorem D21_5 : decode jdk_42_method_66_code 5 = .ok (.iconst 1, 1) := by decide +kernel
theorem D21_6 : decode jdk_42_method_66_code 6 = .ok (.ireturn, 1) := by decide +kernel
theorem D30_0 : decode prog_1_method_5_code 0 = .ok (.aload_n 0, 1) := by decide +kernel
theorem D30_1 : decode prog_1_method_5_code 1 = .ok (.getfield 7, 3) := by decide +kernel
theorem D30_4 : decode prog_1_method_5_code 4 = .ok (.aload_n 0, 1) := by decide +kernel
theorem D30_5 : decode prog_1_method_5_code 5 = .ok (.getfield 17, 3) := by decide +kernel
theorem D30_8 : decode prog_1_method_5_code 8 = .ok (.aload_n 0, 1) := by decide +kernel
theorem D30_9 : decode prog_1_method_5_code 9 = .ok (.getfield 7, 3) := by decide +kernel
theorem D30_12 : decode prog_1_method_5_code 12 = .ok (.invokeinterface 21 1, 5) := by decide +kernel
theorem D30_17 : decode prog_1_method_5_code 17 = .ok (.invokeinterface 48 3, 5) := by decide +kernel
theorem D12_0 : decode jdk_38_method_56_code 0 = .ok (.iload_n 1, 1) := by decide +kernel
theorem D12_1 : decode jdk_38_method_56_code 1 = .ok (.iload_n 2, 1) := by decide +kernel
theorem D12_2 : decode jdk_38_method_56_code 2 = .ok (.aload_n 0, 1) := by decide +kernel
theorem D12_3 : decode jdk_38_method_56_code 3 = .ok (.getfield 48, 3) := by decide +kernel
theorem D12_6 : decode jdk_38_method_56_code 6 = .ok (.invokestatic 272, 3) := by decide +kernel
theorem D16_0 : decode jdk_39_method_15_code 0 = .ok (.iload_n 0, 1) := by decide +kernel
theorem D16_1 : decode jdk_39_method_15_code 1 = .ok (.ifCond .ge 30, 3) := by decide +kernel
theorem D16_31 : decode jdk_39_method_15_code 31 = .ok (.iload_n 1, 1) := by decide +kernel
theorem D16_32 : decode jdk_39_method_15_code 32 = .ok (.iload_n 2, 1) := by decide +kernel
theorem D16_33 : decode jdk_39_method_15_code 33 = .ok (.if_icmp .le 30, 3) := by decide +kernel
theorem D16_63 : decode jdk_39_method_15_code 63 = .ok (.iload_n 0, 1) := by decide +kernel
theorem D16_64 : decode jdk_39_method_15_code 64 = .ok (.iload_n 1, 1) := by decide +kernel
theorem D16_65 : decode jdk_39_method_15_code 65 = .ok (.if_icmp .le 44, 3) := by decide +kernel
theorem D16_109 : decode jdk_39_method_15_code 109 = .ok (.return_, 1) := by decide +kernel
theorem D12_9 : decode jdk_38_method_56_code 9 = .ok (.new 276, 3) := by decide +kernel
theorem D12_12 : decode jdk_38_method_56_code 12 = .ok (.dup, 1) := by decide +kernel
theorem D12_13 : decode jdk_38_method_56_code 13 = .ok (.aload_n 0, 1) := by decide +kernel
theorem D12_14 : decode jdk_38_method_56_code 14 = .ok (.iload_n 1, 1) := by decide +kernel
theorem D12_15 : decode jdk_38_method_56_code 15 = .ok (.iload_n 2, 1) := by decide +kernel
theorem D12_16 : decode jdk_38_method_56_code 16 = .ok (.invokespecial 278, 3) := by decide +kernel
theorem D0_0 : decode jdk_130_method_1_code 0 = .ok (.aload_n 0, 1) := by decide +kernel
theorem D0_1 : decode jdk_130_method_1_code 1 = .ok (.invokespecial 1, 3) := by decide +kernel
theorem D0_4 : decode jdk_130_method_1_code 4 = .ok (.aload_n 0, 1) := by decide +kernel
theorem D0_5 : decode jdk_130_method_1_code 5 = .ok (.aload_n 1, 1) := by decide +kernel
theorem D0_6 : decode jdk_130_method_1_code 6 = .ok (.putfield 7, 3) := by decide +kernel
theorem D0_9 : decode jdk_130_method_1_code 9 = .ok (.aload_n 0, 1) := by decide +kernel
theorem D0_10 : decode jdk_130_method_1_code 10 = .ok (.aconst_null, 1) := by decide +kernel
theorem D0_11 : decode jdk_130_method_1_code 11 = .ok (.putfield 13, 3) := by decide +kernel
theorem D0_14 : decode jdk_130_method_1_code 14 = .ok (.aload_n 0, 1) := by decide +kernel
theorem D0_15 : decode jdk_130_method_1_code 15 = .ok (.iload_n 2, 1) := by decide +kernel
theorem D0_16 : decode jdk_130_method_1_code 16 = .ok (.putfield 17, 3) := by decide +kernel
theorem D0_19 : decode jdk_130_method_1_code 19 = .ok (.aload_n 0, 1) := by decide +kernel
theorem D0_20 : decode jdk_130_method_1_code 20 = .ok (.iload_n 3, 1) := by decide +kernel
theorem D0_21 : decode jdk_130_method_1_code 21 = .ok (.iload_n 2, 1) := by decide +kernel
theorem D0_22 : decode jdk_130_method_1_code 22 = .ok (.isub, 1) := by decide +kernel
theorem D0_23 : decode jdk_130_method_1_code 23 = .ok (.putfield 21, 3) := by decide +kernel
theorem D0_26 : decode jdk_130_method_1_code 26 = .ok (.aload_n 0, 1) := by decide +kernel
theorem D0_27 : decode jdk_130_method_1_code 27 = .ok (.aload_n 1, 1) := by decide +kernel
theorem D0_28 : decode jdk_130_method_1_code 28 = .ok (.getfield 24, 3) := by decide +kernel
theorem D0_31 : decode jdk_130_method_1_code 31 = .ok (.putfield 29, 3) := by decide +kernel
theorem D0_34 : decode jdk_130_method_1_code 34 = .ok (.return_, 1) := by decide +kernel
theorem D12_19 : decode jdk_38_method_56_code 19 = .ok (.areturn, 1) := by decide +kernel
theorem D30_22 : decode prog_1_method_5_code 22 = .ok (.areturn, 1) := by decide +kernel
theorem D3_0 : decode jdk_130_method_5_code 0 = .ok (.aload_n 0, 1) := by decide +kernel
theorem D3_1 : decode jdk_130_method_5_code 1 = .ok (.invokevirtual 36, 3) := by decide +kernel
theorem D1_0 : decode jdk_130_method_28_code 0 = .ok (.aload_n 0, 1) := by decide +kernel
theorem D1_1 : decode jdk_130_method_28_code 1 = .ok (.getfield 7, 3) := by decide +kernel
theorem D1_4 : decode jdk_130_method_28_code 4 = .ok (.getfield 24, 3) := by decide +kernel
theorem D1_7 : decode jdk_130_method_28_code 7 = .ok (.aload_n 0, 1) := by decide +kernel
theorem D1_8 : decode jdk_130_method_28_code 8 = .ok (.getfield 29, 3) := by decide +kernel
theorem D1_11 : decode jdk_130_method_28_code 11 = .ok (.if_icmp .eq 11, 3) := by decide +kernel
theorem D1_22 : decode jdk_130_method_28_code 22 = .ok (.return_, 1) := by decide +kernel
theorem D3_4 : decode jdk_130_method_5_code 4 = .ok (.aload_n 0, 1) := by decide +kernel
theorem D3_5 : decode jdk_130_method_5_code 5 = .ok (.getfield 21, 3) := by decide +kernel
theorem D3_8 : decode jdk_130_method_5_code 8 = .ok (.ireturn, 1) := by decide +kernel
theorem D2_0 : decode jdk_130_method_4_code 0 = .ok (.iload_n 1, 1) := by decide +kernel
theorem D2_1 : decode jdk_130_method_4_code 1 = .ok (.aload_n 0, 1) := by decide +kernel
theorem D2_2 : decode jdk_130_method_4_code 2 = .ok (.getfield 21, 3) := by decide +kernel
theorem D2_5 : decode jdk_130_method_4_code 5 = .ok (.invokestatic 30, 3) := by decide +kernel
theorem D2_8 : decode jdk_130_method_4_code 8 = .ok (.pop, 1) := by decide +kernel
theorem D2_9 : decode jdk_130_method_4_code 9 = .ok (.aload_n 0, 1) := by decide +kernel
theorem D2_10 : decode jdk_130_method_4_code 10 = .ok (.invokevirtual 36, 3) := by decide +kernel
theorem D2_13 : decode jdk_130_method_4_code 13 = .ok (.aload_n 0, 1) := by decide +kernel
theorem D2_14 : decode jdk_130_method_4_code 14 = .ok (.getfield 7, 3) := by decide +kernel
theorem D2_17 : decode jdk_130_method_4_code 17 = .ok (.aload_n 0, 1) := by decide +kernel
theorem D2_18 : decode jdk_130_method_4_code 18 = .ok (.getfield 17, 3) := by decide +kernel
theorem D2_21 : decode jdk_130_method_4_code 21 = .ok (.iload_n 1, 1) := by decide +kernel
theorem D2_22 : decode jdk_130_method_4_code 22 = .ok (.iadd, 1) := by decide +kernel
theorem D2_23 : decode jdk_130_method_4_code 23 = .ok (.invokevirtual 39, 3) := by decide +kernel
theorem D2_26 : decode jdk_130_method_4_code 26 = .ok (.areturn, 1) := by decide +kernel
theorem D26_0 : decode method_3_code 0 = .ok (.iload_n 0, 1) := by decide +kernel
theorem D26_1 : decode method_3_code 1 = .ok (.sipush 255, 3) := by decide +kernel
theorem D26_4 : decode method_3_code 4 = .ok (.iand, 1) := by decide +kernel
theorem D26_5 : decode method_3_code 5 = .ok (.bipush 45, 2) := by decide +kernel
theorem D26_7 : decode method_3_code 7 = .ok (.if_icmp .ne 20, 3) := by decide +kernel
theorem D26_10 : decode method_3_code 10 = .ok (.iload_n 0, 1) := by decide +kernel
theorem D26_11 : decode method_3_code 11 = .ok (.bipush 8, 2) := by decide +kernel
theorem D26_13 : decode method_3_code 13 = .ok (.iushr, 1) := by decide +kernel
theorem D26_14 : decode method_3_code 14 = .ok (.sipush 255, 3) := by decide +kernel
theorem D26_17 : decode method_3_code 17 = .ok (.iand, 1) := by decide +kernel
theorem D26_18 : decode method_3_code 18 = .ok (.bipush 45, 2) := by decide +kernel
theorem D26_20 : decode method_3_code 20 = .ok (.if_icmp .ne 7, 3) := by decide +kernel
theorem D26_23 : decode method_3_code 23 = .ok (.iconst 1, 1) := by decide +kernel
theorem D26_24 : decode method_3_code 24 = .ok (.goto 4, 3) := by decide +kernel
theorem D26_28 : decode method_3_code 28 = .ok (.ireturn, 1) := by decide +kernel
theorem D26_27 : decode method_3_code 27 = .ok (.iconst 0, 1) := by decide +kernel
theorem D28_0 : decode prog_1_method_2_code 0 = .ok (.aload_n 0, 1) := by decide +kernel
theorem D28_1 : decode prog_1_method_2_code 1 = .ok (.getfield 17, 3) := by decide +kernel
theorem D28_4 : decode prog_1_method_2_code 4 = .ok (.aload_n 0, 1) := by decide +kernel
theorem D28_5 : decode prog_1_method_2_code 5 = .ok (.getfield 7, 3) := by decide +kernel
theorem D28_8 : decode prog_1_method_2_code 8 = .ok (.invokeinterface 21 1, 5) := by decide +kernel
theorem D28_13 : decode prog_1_method_2_code 13 = .ok (.if_icmp .ge 31, 3) := by decide +kernel
theorem D28_16 : decode prog_1_method_2_code 16 = .ok (.aload_n 0, 1) := by decide +kernel
theorem D28_17 : decode prog_1_method_2_code 17 = .ok (.getfield 7, 3) := by decide +kernel
theorem D28_20 : decode prog_1_method_2_code 20 = .ok (.aload_n 0, 1) := by decide +kernel
theorem D28_21 : decode prog_1_method_2_code 21 = .ok (.getfield 17, 3) := by decide +kernel
theorem D28_24 : decode prog_1_method_2_code 24 = .ok (.invokeinterface 27 2, 5) := by decide +kernel
theorem D28_29 : decode prog_1_method_2_code 29 = .ok (.checkcast 31, 3) := by decide +kernel
theorem D28_32 : decode prog_1_method_2_code 32 = .ok (.ldc 33, 2) := by decide +kernel
theorem D28_34 : decode prog_1_method_2_code 34 = .ok (.invokevirtual 35, 3) := by decide +kernel
theorem D23_0 : decode jdk_42_method_76_code 0 = .ok (.aload_n 0, 1) := by decide +kernel
theorem D23_1 : decode jdk_42_method_76_code 1 = .ok (.aload_n 1, 1) := by decide +kernel
theorem D23_2 : decode jdk_42_method_76_code 2 = .ok (.iconst 0, 1) := by decide +kernel
theorem D23_3 : decode jdk_42_method_76_code 3 = .ok (.invokevirtual 624, 3) := by decide +kernel
theorem D22_0 : decode jdk_42_method_75_code 0 = .ok (.iload_n 2, 1) := by decide +kernel
theorem D22_1 : decode jdk_42_method_75_code 1 = .ok (.ifCond .lt 16, 3) := by decide +kernel
theorem D22_4 : decode jdk_42_method_75_code 4 = .ok (.iload_n 2, 1) := by decide +kernel
theorem D22_5 : decode jdk_42_method_75_code 5 = .ok (.aload_n 0, 1) := by decide +kernel
theorem D22_6 : decode jdk_42_method_75_code 6 = .ok (.invokevirtual 505, 3) := by decide +kernel
theorem D20_0 : decode jdk_42_method_54_code 0 = .ok (.aload_n 0, 1) := by decide +kernel
theorem D20_1 : decode jdk_42_method_54_code 1 = .ok (.getfield 9, 3) := by decide +kernel
theorem D20_4 : decode jdk_42_method_54_code 4 = .ok (.arraylength, 1) := by decide +kernel
theorem D20_5 : decode jdk_42_method_54_code 5 = .ok (.aload_n 0, 1) := by decide +kernel
theorem D20_6 : decode jdk_42_method_54_code 6 = .ok (.invokevirtual 335, 3) := by decide +kernel
theorem D19_0 : decode jdk_42_method_152_code 0 = .ok (.getstatic 38, 3) := by decide +kernel
theorem D19_3 : decode jdk_42_method_152_code 3 = .ok (.ifCond .eq 10, 3) := by decide +kernel
theorem D19_6 : decode jdk_42_method_152_code 6 = .ok (.aload_n 0, 1) := by decide +kernel
theorem D19_7 : decode jdk_42_method_152_code 7 = .ok (.getfield 15, 3) := by decide +kernel
theorem D19_10 : decode jdk_42_method_152_code 10 = .ok (.goto 4, 3) := by decide +kernel
theorem D19_14 : decode jdk_42_method_152_code 14 = .ok (.ireturn, 1) := by decide +kernel
theorem D20_9 : decode jdk_42_method_54_code 9 = .ok (.ishr, 1) := by decide +kernel
theorem D20_10 : decode jdk_42_method_54_code 10 = .ok (.ireturn, 1) := by decide +kernel
theorem D22_9 : decode jdk_42_method_75_code 9 = .ok (.aload_n 1, 1) := by decide +kernel
theorem D22_10 : decode jdk_42_method_75_code 10 = .ok (.invokevirtual 505, 3) := by decide +kernel
theorem D22_13 : decode jdk_42_method_75_code 13 = .ok (.isub, 1) := by decide +kernel
theorem D22_14 : decode jdk_42_method_75_code 14 = .ok (.if_icmp .le 5, 3) := by decide +kernel
theorem D22_19 : decode jdk_42_method_75_code 19 = .ok (.aload_n 0, 1) := by decide +kernel
theorem D22_20 : decode jdk_42_method_75_code 20 = .ok (.getfield 9, 3) := by decide +kernel
theorem D22_23 : decode jdk_42_method_75_code 23 = .ok (.astore_n 3, 1) := by decide +kernel
theorem D22_24 : decode jdk_42_method_75_code 24 = .ok (.aload_n 1, 1) := by decide +kernel
theorem D22_25 : decode jdk_42_method_75_code 25 = .ok (.getfield 9, 3) := by decide +kernel
theorem D22_28 : decode jdk_42_method_75_code 28 = .ok (.astore 4, 2) := by decide +kernel
theorem D22_30 : decode jdk_42_method_75_code 30 = .ok (.iconst 0, 1) := by decide +kernel
theorem D22_31 : decode jdk_42_method_75_code 31 = .ok (.istore 5, 2) := by decide +kernel
theorem D22_33 : decode jdk_42_method_75_code 33 = .ok (.aload 4, 2) := by decide +kernel
theorem D22_35 : decode jdk_42_method_75_code 35 = .ok (.arraylength, 1) := by decide +kernel
theorem D22_36 : decode jdk_42_method_75_code 36 = .ok (.istore 6, 2) := by decide +kernel
theorem D22_38 : decode jdk_42_method_75_code 38 = .ok (.aload_n 0, 1) := by decide +kernel
theorem D22_39 : decode jdk_42_method_75_code 39 = .ok (.invokevirtual 335, 3) := by decide +kernel
theorem D22_42 : decode jdk_42_method_75_code 42 = .ok (.istore 7, 2) := by decide +kernel
theorem D22_44 : decode jdk_42_method_75_code 44 = .ok (.iload 7, 2) := by decide +kernel
theorem D22_46 : decode jdk_42_method_75_code 46 = .ok (.aload_n 1, 1) := by decide +kernel
theorem D22_47 : decode jdk_42_method_75_code 47 = .ok (.invokevirtual 335, 3) := by decide +kernel
theorem D22_50 : decode jdk_42_method_75_code 50 = .ok (.if_icmp .ne 32, 3) := by decide +kernel
theorem D22_53 : decode jdk_42_method_75_code 53 = .ok (.iload 7, 2) := by decide +kernel
theorem D22_55 : decode jdk_42_method_75_code 55 = .ok (.iconst 1, 1) := by decide +kernel
theorem D22_56 : decode jdk_42_method_75_code 56 = .ok (.if_icmp .ne 7, 3) := by decide +kernel
theorem D22_63 : decode jdk_42_method_75_code 63 = .ok (.aload_n 3, 1) := by decide +kernel
theorem D22_64 : decode jdk_42_method_75_code 64 = .ok (.iload_n 2, 1) := by decide +kernel
theorem D22_65 : decode jdk_42_method_75_code 65 = .ok (.aload 4, 2) := by decide +kernel
theorem D22_67 : decode jdk_42_method_75_code 67 = .ok (.iconst 0, 1) := by decide +kernel
theorem D22_68 : decode jdk_42_method_75_code 68 = .ok (.iload 6, 2) := by decide +kernel
theorem D22_70 : decode jdk_42_method_75_code 70 = .ok (.invokestatic 607, 3) := by decide +kernel
theorem D24_0 : decode jdk_48_method_14_code 0 = .ok (.iconst 0, 1) := by decide +kernel
theorem D24_1 : decode jdk_48_method_14_code 1 = .ok (.istore 5, 2) := by decide +kernel
theorem D24_3 : decode jdk_48_method_14_code 3 = .ok (.iload 4, 2) := by decide +kernel
theorem D24_5 : decode jdk_48_method_14_code 5 = .ok (.bipush 7, 2) := by decide +kernel
theorem D24_7 : decode jdk_48_method_14_code 7 = .ok (.if_icmp .le 63, 3) := by decide +kernel
theorem D24_70 : decode jdk_48_method_14_code 70 = .ok (.iload 5, 2) := by decide +kernel
theorem D24_72 : decode jdk_48_method_14_code 72 = .ok (.iload 4, 2) := by decide +kernel
theorem D24_74 : decode jdk_48_method_14_code 74 = .ok (.if_icmp .ge 27, 3) := by decide +kernel
theorem D24_77 : decode jdk_48_method_14_code 77 = .ok (.aload_n 0, 1) := by decide +kernel
theorem D24_78 : decode jdk_48_method_14_code 78 = .ok (.iload_n 1, 1) := by decide +kernel
theorem D24_79 : decode jdk_48_method_14_code 79 = .ok (.iload 5, 2) := by decide +kernel
theorem D24_81 : decode jdk_48_method_14_code 81 = .ok (.iadd, 1) := by decide +kernel
theorem D24_82 : decode jdk_48_method_14_code 82 = .ok (.baload, 1) := by decide +kernel
theorem D24_83 : decode jdk_48_method_14_code 83 = .ok (.aload_n 2, 1) := by decide +kernel
theorem D24_84 : decode jdk_48_method_14_code 84 = .ok (.iload_n 3, 1) := by decide +kernel
theorem D24_85 : decode jdk_48_method_14_code 85 = .ok (.iload 5, 2) := by decide +kernel
theorem D24_87 : decode jdk_48_method_14_code 87 = .ok (.iadd, 1) := by decide +kernel
theorem D24_88 : decode jdk_48_method_14_code 88 = .ok (.baload, 1) := by decide +kernel
theorem D24_89 : decode jdk_48_method_14_code 89 = .ok (.if_icmp .eq 6, 3) := by decide +kernel
theorem D24_95 : decode jdk_48_method_14_code 95 = .ok (.iinc 5 1, 3) := by decide +kernel
theorem D24_98 : decode jdk_48_method_14_code 98 = .ok (.goto (-28), 3) := by decide +kernel
theorem D24_101 : decode jdk_48_method_14_code 101 = .ok (.iconst (-1), 1) := by decide +kernel
theorem D24_102 : decode jdk_48_method_14_code 102 = .ok (.ireturn, 1) := by decide +kernel
theorem D22_73 : decode jdk_42_method_75_code 73 = .ok (.ifCond .ge 7, 3) := by decide +kernel
theorem D22_76 : decode jdk_42_method_75_code 76 = .ok (.iconst 1, 1) := by decide +kernel
theorem D22_77 : decode jdk_42_method_75_code 77 = .ok (.goto 4, 3) := by decide +kernel
theorem D22_81 : decode jdk_42_method_75_code 81 = .ok (.ireturn, 1) := by decide +kernel
theorem D23_6 : decode jdk_42_method_76_code 6 = .ok (.ireturn, 1) := by decide +kernel
theorem D28_37 : decode prog_1_method_2_code 37 = .ok (.ifCond .eq 7, 3) := by decide +kernel
theorem D28_40 : decode prog_1_method_2_code 40 = .ok (.iconst 1, 1) := by decide +kernel
theorem D28_41 : decode prog_1_method_2_code 41 = .ok (.goto 4, 3) := by decide +kernel
theorem D28_45 : decode prog_1_method_2_code 45 = .ok (.ireturn, 1) := by decide +kernel
theorem D24_92 : decode jdk_48_method_14_code 92 = .ok (.iload 5, 2) := by decide +kernel
theorem D24_94 : decode jdk_48_method_14_code 94 = .ok (.ireturn, 1) := by decide +kernel
theorem D22_80 : decode jdk_42_method_75_code 80 = .ok (.iconst 0, 1) := by decide +kernel
theorem D28_44 : decode prog_1_method_2_code 44 = .ok (.iconst 0, 1) := by decide +kernel
theorem own_k3 (x : Int32) : (x &&& 2147483647) % 3 = 0 ∨ (x &&& 2147483647) % 3 = 1 ∨ (x &&& 2147483647) % 3 = 2 := by
  obtain ⟨h1, h2⟩ := own_rem (x := x) (k := 3) (by decide)
  have e : (3 : Int32).toInt = 3 := rfl
  rw [e] at h2
  generalize (x &&& 2147483647) % 3 = k at h1 h2
  have key : ∀ j : Int32, k.toInt = j.toInt → k = j := fun j h => Int32.toInt_inj.mp h
  have hs : k.toInt = 0 ∨ k.toInt = 1 ∨ k.toInt = 2 := by omega
  rcases hs with h | h | h
  · exact (Or.inl (key 0 h))
  · exact (Or.inr (Or.inl (key 1 h)))
  · exact (Or.inr (Or.inr (key 2 h)))
set_option maxRecDepth 65536 in
set_option maxHeartbeats 40000000 in
theorem m1_two (V : Env1 Z a0 n0 uu0 uu1 uu2 uu3 uu4 uu5) (x0 : Int32) (h0 : Heap) (hO : Old Z n0 h0)  :
    Met Z a0 ELs True n0 l (⟨"com/example/formboard/formboard/cli/ArgumentsValuePinLaw", "two", "(I)Ljava/lang/String;"⟩ : MethodName) method_2_code 2 (Option.some (FieldType.object "java/lang/String")) ({ frames := 4, cells := 3, slots := 8, locals := 66 } : Room) #[(.int x0)] h0 [] (fun v h so => (∃ a14 t22 : Addr, ∃ k23 : ClassId, v = some (.ref a14) ∧ so = [a14, t22] ∧ Keep h0 h [] ∧ h0.size ≤ a14 ∧ a14 < t22 ∧ Str Z h a14 t22 k23 [(x0 &&& (255 : Int32)), ((XT.ushr x0 (8 : Int32)) &&& (255 : Int32))])) := by
  refine Met.of (EWl V) (by first | decide +kernel | rfl) hO (L0 := #[.val (.int x0), .unset]) rfl ?_
  intro p e s m below meth c T H
  show Go p e below _ (T.setTop (mkF m 0 #[.val (.int x0), .unset] []))
  refine G.iconst H D25_0 (pc' := 1) rfl (v := (2 : Int32)) rfl ?_
  refine G.newP H (aty := .char) (wd4 V) D25_1 (pc' := 3) rfl (by decide) (cap := 2) (by decide) (by decide) (by decide) (by decide) (vs := [(.int (0 : Int32)), (.int (0 : Int32))]) rfl (ad := "[C") rfl ?_
  intro T1 h1_ a2 k5 ga2 H1 E3 A4 X6
  have na2 := H.nle ga2
  replace A4 : Arv Z h1_ a2 k5 .char (2 : Int32) [(.int (0 : Int32)), (.int (0 : Int32))] (.int 0) := A4
  refine G.astoreN H1 (L' := #[.val (.int x0), .val (.ref a2)]) D25_3 (pc' := 4) rfl rfl rfl ?_
  refine G.aloadN H1 D25_4 (pc' := 5) rfl rfl rfl ?_
  refine G.iconst H1 D25_5 (pc' := 6) rfl (v := (0 : Int32)) rfl ?_
  refine G.iloadN H1 D25_6 (pc' := 7) rfl rfl ?_
  refine G.sipush H1 D25_7 (pc' := 10) rfl (v := (255 : Int32)) rfl ?_
  refine G.iand H1 D25_10 (pc' := 11) rfl ?_
  refine G.i2c H1 (y := (x0 &&& (255 : Int32))) D25_11 (pc' := 12) rfl (own_c16 (own_u16 (own_and255 _))) ?_
  refine G.stC H1 A4 (by decide) (i := 0) rfl (Nat.le_of_ble_eq_true rfl) na2 (y := (x0 &&& (255 : Int32))) (own_narC (own_u16 (own_and255 _))) D25_12 (pc' := 13) rfl ?_
  intro T7 h7_ H7 W8 A9
  replace A9 : Arv Z h7_ a2 k5 .char (2 : Int32) [(.int (x0 &&& (255 : Int32))), (.int (0 : Int32))] (.int 0) := A9
  refine G.aloadN H7 D25_13 (pc' := 14) rfl rfl rfl ?_
  refine G.iconst H7 D25_14 (pc' := 15) rfl (v := (1 : Int32)) rfl ?_
  refine G.iloadN H7 D25_15 (pc' := 16) rfl rfl ?_
  refine G.bipush H7 D25_16 (pc' := 18) rfl (v := (8 : Int32)) rfl ?_
  refine G.iushr H7 D25_18 (pc' := 19) rfl ?_
  refine G.sipush H7 D25_19 (pc' := 22) rfl (v := (255 : Int32)) rfl ?_
  refine G.iand H7 D25_22 (pc' := 23) rfl ?_
  refine G.i2c H7 (y := ((XT.ushr x0 (8 : Int32)) &&& (255 : Int32))) D25_23 (pc' := 24) rfl (own_c16 (own_u16 (own_and255 _))) ?_
  refine G.stC H7 A9 (by decide) (i := 1) rfl (Nat.le_of_ble_eq_true rfl) na2 (y := ((XT.ushr x0 (8 : Int32)) &&& (255 : Int32))) (own_narC (own_u16 (own_and255 _))) D25_24 (pc' := 25) rfl ?_
  intro T10 h10_ H10 W11 A12
  replace A12 : Arv Z h10_ a2 k5 .char (2 : Int32) [(.int (x0 &&& (255 : Int32))), (.int ((XT.ushr x0 (8 : Int32)) &&& (255 : Int32)))] (.int 0) := A12
  refine G.new H10 (wd5 V) (wd6 V) (wd7 V) D25_25 (pc' := 28) rfl (by decide) (by decide) ?_
  intro T13 h13_ a14 ga14 H13 E15 A16 D17
  have na14 := H10.nle ga14
  refine G.dup H13 D25_28 (pc' := 29) rfl rfl ?_
  refine G.aloadN H13 D25_29 (pc' := 30) rfl rfl rfl ?_
  have F18 := (Arv.ext A12 E15)
  have F19 : Fld Z h13_ a14 "java/lang/String" "value" "[B" .null := D17 (Or.inr (wd33 V)) (ty := (.array .byte)) (by decide)
  have F20 : Fld Z h13_ a14 "java/lang/String" "coder" "B" (.int (0 : Int32)) := D17 (Or.inr (wd31 V)) (ty := .byte) (by decide)
  refine G.newStr H13 (strw V) (wd6 V) (wd8 V) (wd9 V) (cs := [(x0 &&& (255 : Int32)), ((XT.ushr x0 (8 : Int32)) &&& (255 : Int32))]) (n := 2) na14 A16 F19 F20 F18 (hv6 V) (hv7 V) rfl rfl (by decide) (by decide) (cbS (own_and255 _) (cbS (own_and255 _) cb0)) (Sf.mem (List.mem_of_getElem? (i := 0) rfl)) (rest := [(.ref a14)]) (W := 1) rfl rfl D25_30 (pc' := 33) rfl (by decide) (by decide) (by decide) (by decide) ?_
  intro T21 h21_ t22 k23 g26 H21 K24 S25
  have nt22 : n0 ≤ t22 := Nat.le_trans H13.le g26
  have K27 : Keep h0 h10_ [] := (Keep.wr (Keep.wr (Keep.ext (Keep.refl h0 []) E3) W8 (Or.inr (Nat.le_of_eq ga2.symm))) W11 (Or.inr (Nat.le_of_eq ga2.symm)))
  have K28 : Keep h0 h21_ [] := (Keep.trans (Keep.ext (Keep.wr (Keep.wr (Keep.ext (Keep.refl h0 []) E3) W8 (Or.inr (Nat.le_of_eq ga2.symm))) W11 (Or.inr (Nat.le_of_eq ga2.symm))) E15) K24 (allS (Or.inr (Nat.le_trans K27.1 (Nat.le_of_eq ga14.symm))) all0))
  exact G.retA H21 (t := (.object "java/lang/String")) rfl rfl rfl D25_33 (so := [a14, t22]) (allS (List.mem_of_getElem? (i := 1) rfl) (allS (List.mem_of_getElem? (i := 0) rfl) all0)) (by decide) (by decide) ⟨a14, t22, k23, rfl, rfl, K28, (Nat.le_trans K27.1 (Nat.le_of_eq ga14.symm)), (Nat.lt_of_lt_of_le A16.lt g26), S25⟩
set_option maxRecDepth 65536 in
set_option maxHeartbeats 40000000 in
theorem m2_init (V : Env1 Z a0 n0 uu0 uu1 uu2 uu3 uu4 uu5) (p0 : Addr) (h0 : Heap) (hO : Old Z n0 h0)  :
    Met Z a0 ELs True n0 l (⟨"java/util/AbstractCollection", "<init>", "()V"⟩ : MethodName) jdk_22_method_1_code 1 (Option.none : Option FieldType) ({ frames := 1, cells := 0, slots := 0, locals := 12 } : Room) #[(.ref p0)] h0 [] (fun v h so => (v = none ∧ so = [] ∧ h0 = h)) := by
  refine Met.of (EWl V) (by first | decide +kernel | rfl) hO (L0 := #[.val (.ref p0)]) rfl ?_
  intro p e s m below meth c T H
  show Go p e below _ (T.setTop (mkF m 0 #[.val (.ref p0)] []))
  refine G.aloadN H D4_0 (pc' := 1) rfl rfl rfl ?_
  refine G.initO H (wd52 V) (wd16 V) (wd17 V) rfl D4_1 (pc' := 4) rfl (by decide) (W := 0) rfl (by decide) ?_
  intro T1 H2
  exact G.retV H2 rfl D4_4 (so := []) all0 (by decide) (by decide) ⟨rfl, rfl, rfl⟩
set_option maxRecDepth 65536 in
set_option maxHeartbeats 40000000 in
theorem m3_init (V : Env1 Z a0 n0 uu0 uu1 uu2 uu3 uu4 uu5) (p0 : Addr) (h0 : Heap) (hO : Old Z n0 h0) (f0 : Exa Z h0 p0 "java/util/ArrayList") (f1 : Fld Z h0 p0 "java/util/AbstractList" "modCount" "I" (.int (0 : Int32))) (g2 : n0 ≤ p0) :
    Met Z a0 ELs True n0 l (⟨"java/util/AbstractList", "<init>", "()V"⟩ : MethodName) jdk_39_method_1_code 1 (Option.none : Option FieldType) ({ frames := 2, cells := 0, slots := 0, locals := 24 } : Room) #[(.ref p0)] h0 [] (fun v h so => (v = none ∧ so = [] ∧ Keep h0 h [p0] ∧ (∀ (O n d : String) (w : Value), Fld Z h0 p0 O n d w → RoadKit.slotOf Z O n d ≠ RoadKit.slotOf Z "java/util/AbstractList" "modCount" "I" → Fld Z h p0 O n d w) ∧ Exa Z h p0 "java/util/ArrayList" ∧ Fld Z h p0 "java/util/AbstractList" "modCount" "I" (.int (0 : Int32)))) := by
  refine Met.of (EWl V) (by first | decide +kernel | rfl) hO (L0 := #[.val (.ref p0)]) rfl ?_
  intro p e s m below meth c T H
  show Go p e below _ (T.setTop (mkF m 0 #[.val (.ref p0)] []))
  refine G.aloadN H D17_0 (pc' := 1) rfl rfl rfl ?_
  refine G.callI H (m2_init V p0 h0 H.old) rfl (wd46 V) (wd47 V) (wd50 V) (wd51 V) (by decide) (a := p0) (argsL := []) (rest := []) (W := 0) rfl rfl (lenOf (pd_1) rfl) rfl rfl D17_1 (pc' := 4) rfl (by decide) (by decide) (by decide) (by decide) all0 ?_
  intro T1 h1_ v2 s3 H1 Q4
  obtain ⟨rfl, rfl, rfl⟩ := Q4
  show Go p e below _ (T1.setTop (mkF m 4 #[.val (.ref p0)] []))
  refine G.aloadN H1 D17_4 (pc' := 5) rfl rfl rfl ?_
  refine G.iconst H1 D17_5 (pc' := 6) rfl (v := (0 : Int32)) rfl ?_
  refine G.putF H1 (wd53 V) Via.refl f1 f0 (Or.inl (wd54 V)) (wd35 V) (ty := .int) (by decide) rfl rfl g2 (Sf.exa f0) D17_6 (pc' := 9) rfl ?_
  intro T5 h5_ H5 W6
  have F7 : Fld Z h5_ p0 "java/util/AbstractList" "modCount" "I" (.int (0 : Int32)) := Fld.same W6 f1
  have F8 := (Exa.wr W6 f0)
  have K9 : Keep h0 h5_ [p0] := (Keep.wr (Keep.refl h0 [p0]) W6 (Or.inl (List.mem_of_getElem? (i := 0) rfl)))
  exact G.retV H5 rfl D17_9 (so := []) all0 (by decide) (by decide) ⟨rfl, rfl, K9, (fun O n d w F hn0 => (Fld.other W6 F (Or.inr hn0))), F8, F7⟩
set_option maxRecDepth 65536 in
set_option maxHeartbeats 40000000 in
theorem m4_init (V : Env1 Z a0 n0 uu0 uu1 uu2 uu3 uu4 uu5) (p0 : Addr) (h0 : Heap) (hO : Old Z n0 h0) (f0 : Exa Z h0 p0 "java/util/ArrayList") (f1 : Fld Z h0 p0 "java/util/AbstractList" "modCount" "I" (.int (0 : Int32))) (g2 : n0 ≤ p0) (f3 : Fld Z h0 p0 "java/util/ArrayList" "elementData" "[Ljava/lang/Object;" .null) :
    Met Z a0 ELs True n0 l (⟨"java/util/ArrayList", "<init>", "()V"⟩ : MethodName) jdk_38_method_2_code 1 (Option.none : Option FieldType) ({ frames := 3, cells := 0, slots := 0, locals := 36 } : Room) #[(.ref p0)] h0 [] (fun v h so => (v = none ∧ so = [] ∧ Keep h0 h [p0] ∧ (∀ (O n d : String) (w : Value), Fld Z h0 p0 O n d w → RoadKit.slotOf Z O n d ≠ RoadKit.slotOf Z "java/util/AbstractList" "modCount" "I" → RoadKit.slotOf Z O n d ≠ RoadKit.slotOf Z "java/util/ArrayList" "elementData" "[Ljava/lang/Object;" → Fld Z h p0 O n d w) ∧ Exa Z h p0 "java/util/ArrayList" ∧ Fld Z h p0 "java/util/AbstractList" "modCount" "I" (.int (0 : Int32)) ∧ Fld Z h p0 "java/util/ArrayList" "elementData" "[Ljava/lang/Object;" (.ref uu1))) := by
  refine Met.of (EWl V) (by first | decide +kernel | rfl) hO (L0 := #[.val (.ref p0)]) rfl ?_
  intro p e s m below meth c T H
  show Go p e below _ (T.setTop (mkF m 0 #[.val (.ref p0)] []))
  refine G.aloadN H D11_0 (pc' := 1) rfl rfl rfl ?_
  refine G.callI H (m3_init V p0 h0 H.old f0 f1 g2) rfl (wd40 V) (wd41 V) (wd44 V) (wd45 V) (by decide) (a := p0) (argsL := []) (rest := []) (W := 0) rfl rfl (lenOf (pd_1) rfl) rfl rfl D11_1 (pc' := 4) rfl (by decide) (by decide) (by decide) (by decide) all0 ?_
  intro T1 h1_ v2 s3 H1 Q4
  obtain ⟨rfl, rfl, K5, U6, F7, F8⟩ := Q4
  show Go p e below _ (T1.setTop (mkF m 4 #[.val (.ref p0)] []))
  refine G.aloadN H1 D11_4 (pc' := 5) rfl rfl rfl ?_
  refine G.getS H1 (wd55 V) Via.refl (Sta.ext H1.old.2 (hv2 V)) D11_5 (pc' := 8) rfl ?_
  intro T9 H10
  have F11 := (U6 "java/util/ArrayList" "elementData" "[Ljava/lang/Object;" .null f3 (slot_ne (Or.inl (wd57 V)) (Or.inl (wd54 V)) (by decide) (t := (.array (.object "java/lang/Object"))) (t' := .int) (by decide) (by decide)))
  refine G.putF H10 (wd56 V) Via.refl F11 F7 (Or.inl (wd57 V)) (wd35 V) (ty := (.array (.object "java/lang/Object"))) (by decide) rfl rfl g2 (Sf.exa F7) D11_8 (pc' := 11) rfl ?_
  intro T12 h12_ H12 W13
  have F14 : Fld Z h12_ p0 "java/util/ArrayList" "elementData" "[Ljava/lang/Object;" (.ref uu1) := Fld.same W13 F11
  have F15 := (Exa.wr W13 F7)
  have F16 := (Fld.other W13 F8 (Or.inr (slot_ne (Or.inl (wd54 V)) (Or.inl (wd57 V)) (by decide) (t := .int) (t' := (.array (.object "java/lang/Object"))) (by decide) (by decide))))
  have K17 : Keep h0 h12_ [p0] := (Keep.wr (Keep.trans (Keep.refl h0 [p0]) K5 (allS (Or.inl (List.mem_of_getElem? (i := 0) rfl)) all0)) W13 (Or.inl (List.mem_of_getElem? (i := 0) rfl)))
  exact G.retV H12 rfl D11_11 (so := []) all0 (by decide) (by decide) ⟨rfl, rfl, K17, (fun O n d w F hn0 hn1 => (Fld.other W13 (U6 O n d w F hn0) (Or.inr hn1))), F15, F16, F14⟩
set_option maxRecDepth 65536 in
set_option maxHeartbeats 40000000 in
theorem m5_max (V : Env1 Z a0 n0 uu0 uu1 uu2 uu3 uu4 uu5)  (h0 : Heap) (hO : Old Z n0 h0)  :
    Met Z a0 ELs True n0 l (⟨"java/lang/Math", "max", "(II)I"⟩ : MethodName) jdk_29_method_65_code 2 (Option.some FieldType.int) ({ frames := 0, cells := 0, slots := 0, locals := 0 } : Room) #[(.int (10 : Int32)), (.int (1 : Int32))] h0 [] (fun v h so => (v = some (.int (10 : Int32)) ∧ so = [] ∧ h0 = h)) := by
  refine Met.of (EWl V) (by first | decide +kernel | rfl) hO (L0 := #[.val (.int (10 : Int32)), .val (.int (1 : Int32))]) rfl ?_
  intro p e s m below meth c T H
  show Go p e below _ (T.setTop (mkF m 0 #[.val (.int (10 : Int32)), .val (.int (1 : Int32))] []))
  refine G.iloadN H D5_0 (pc' := 1) rfl rfl ?_
  refine G.iloadN H D5_1 (pc' := 2) rfl rfl ?_
  refine G.icmpNo H D5_2 (pc' := 5) rfl (by decide) ?_
  refine G.iloadN H D5_5 (pc' := 6) rfl rfl ?_
  refine G.goto H D5_6 (by decide) (pc' := 10) rfl ?_
  exact G.retI H rfl D5_10 (so := []) all0 (by decide) (by decide) ⟨rfl, rfl, rfl⟩
set_option maxRecDepth 65536 in
set_option maxHeartbeats 40000000 in
theorem m6_grow (V : Env1 Z a0 n0 uu0 uu1 uu2 uu3 uu4 uu5) (p0 : Addr) (h0 : Heap) (hO : Old Z n0 h0) (f0 : Fld Z h0 p0 "java/util/ArrayList" "elementData" "[Ljava/lang/Object;" (.ref uu1)) (f1 : Exa Z h0 p0 "java/util/ArrayList") (g2 : n0 ≤ p0) :
    Met Z a0 ELs True n0 l (⟨"java/util/ArrayList", "grow", "(I)[Ljava/lang/Object;"⟩ : MethodName) jdk_38_method_6_code 4 (Option.some (FieldType.array (FieldType.object "java/lang/Object"))) ({ frames := 1, cells := 1, slots := 10, locals := 14 } : Room) #[(.ref p0), (.int (1 : Int32))] h0 [] (fun v h so => (∃ a13 : Addr, ∃ k16 : ClassId, v = some (.ref a13) ∧ so = [] ∧ Keep h0 h [p0] ∧ h0.size ≤ a13 ∧ (∀ (O n d : String) (w : Value), Fld Z h0 p0 O n d w → RoadKit.slotOf Z O n d ≠ RoadKit.slotOf Z "java/util/ArrayList" "elementData" "[Ljava/lang/Object;" → Fld Z h p0 O n d w) ∧ Ovr Z k16 "java/lang/Object" ∧ Fld Z h p0 "java/util/ArrayList" "elementData" "[Ljava/lang/Object;" (.ref a13) ∧ Exa Z h p0 "java/util/ArrayList" ∧ Arv Z h a13 k16 (.object "java/lang/Object") (10 : Int32) [.null, .null, .null, .null, .null, .null, .null, .null, .null, .null] .null ∧ Exa Z h a13 "[Ljava/lang/Object;")) := by
  refine Met.of (EWl V) (by first | decide +kernel | rfl) hO (L0 := #[.val (.ref p0), .val (.int (1 : Int32)), .unset, .unset]) rfl ?_
  intro p e s m below meth c T H
  show Go p e below _ (T.setTop (mkF m 0 #[.val (.ref p0), .val (.int (1 : Int32)), .unset, .unset] []))
  refine G.aloadN H D13_0 (pc' := 1) rfl rfl rfl ?_
  refine G.getF H (wd56 V) Via.refl f0 D13_1 (pc' := 4) rfl ?_
  intro T1 H2
  have B3 := Arv.ext (hv5 V) H2.old.2
  refine G.arrlen H2 B3 D13_4 (pc' := 5) rfl ?_
  refine G.istoreN H2 (L' := #[.val (.ref p0), .val (.int (1 : Int32)), .val (.int (0 : Int32)), .unset]) D13_5 (pc' := 6) rfl rfl ?_
  refine G.iloadN H2 D13_6 (pc' := 7) rfl rfl ?_
  refine G.ifNo H2 D13_7 (pc' := 10) rfl (by decide) ?_
  refine G.aloadN H2 D13_10 (pc' := 11) rfl rfl rfl ?_
  refine G.getF H2 (wd56 V) Via.refl f0 D13_11 (pc' := 14) rfl ?_
  intro T4 H5
  refine G.getS H5 (wd55 V) Via.refl (Sta.ext H5.old.2 (hv2 V)) D13_14 (pc' := 17) rfl ?_
  intro T6 H7
  refine G.acmpYes H7 D13_17 rfl rfl (XT.aa_eq_t rfl) (by decide) (pc' := 45) rfl ?_
  refine G.aloadN H7 D13_45 (pc' := 46) rfl rfl rfl ?_
  refine G.bipush H7 D13_46 (pc' := 48) rfl (v := (10 : Int32)) rfl ?_
  refine G.iloadN H7 D13_48 (pc' := 49) rfl rfl ?_
  refine G.callS H7 (m5_max V h0 H7.old) (wd86 V) (wd87 V) (wd88 V) (wd89 V) (by decide) (argsL := [(.int (10 : Int32)), (.int (1 : Int32))]) (rest := [(.ref p0)]) (W := 1) rfl rfl (lenOf (pd_2) rfl) rfl rfl D13_49 (pc' := 52) rfl (by decide) (by decide) (by decide) (by decide) all0 ?_
  intro T8 h8_ v9 s10 H8 Q11
  obtain ⟨rfl, rfl, rfl⟩ := Q11
  show Go p e below _ (T8.setTop (mkF m 52 #[.val (.ref p0), .val (.int (1 : Int32)), .val (.int (0 : Int32)), .unset] [(.int (10 : Int32)), (.ref p0)]))
  refine G.newR H8 (wd90 V) (wd91 V) D13_52 (pc' := 55) rfl (by decide) (cap := 10) (by decide) (by decide) (by decide) (by decide) (vs := [.null, .null, .null, .null, .null, .null, .null, .null, .null, .null]) rfl (ad := "[Ljava/lang/Object;") rfl ?_
  intro T12 h12_ a13 k16 ga13 H12 E14 A15 X17 O18
  have na13 := H8.nle ga13
  refine G.dupX1 H12 D13_55 (pc' := 56) rfl rfl rfl ?_
  have F19 := (Exa.ext E14 f1)
  have F20 := (Fld.ext E14 f0)
  refine G.putF H12 (wd56 V) Via.refl F20 F19 (Or.inl (wd57 V)) (wd35 V) (ty := (.array (.object "java/lang/Object"))) (by decide) rfl rfl g2 (Sf.exa F19) D13_56 (pc' := 59) rfl ?_
  intro T21 h21_ H21 W22
  have F23 : Fld Z h21_ p0 "java/util/ArrayList" "elementData" "[Ljava/lang/Object;" (.ref a13) := Fld.same W22 F20
  have F24 := (Exa.wr W22 F19)
  have N25 : a13 ≠ p0 := (Ne.symm (Nat.ne_of_lt (Nat.lt_of_lt_of_le f0.lt (Nat.le_of_eq ga13.symm))))
  have F26 := (Arv.other A15 W22 N25)
  have F27 := (Exa.wr W22 X17)
  have K28 : Keep h0 h21_ [p0] := (Keep.wr (Keep.ext (Keep.refl h0 [p0]) E14) W22 (Or.inl (List.mem_of_getElem? (i := 0) rfl)))
  exact G.retA H21 (t := (.array (.object "java/lang/Object"))) rfl rfl rfl D13_59 (so := []) all0 (by decide) (by decide) ⟨a13, k16, rfl, rfl, K28, (Nat.le_of_eq ga13.symm), (fun O n d w F hn0 => (Fld.other W22 (Fld.ext E14 F) (Or.inr hn0))), O18, F23, F24, F26, F27⟩
set_option maxRecDepth 65536 in
set_option maxHeartbeats 40000000 in
theorem m7_grow (V : Env1 Z a0 n0 uu0 uu1 uu2 uu3 uu4 uu5) (p0 : Addr) (h0 : Heap) (hO : Old Z n0 h0) (f0 : Fld Z h0 p0 "java/util/ArrayList" "size" "I" (.int (0 : Int32))) (f1 : Exa Z h0 p0 "java/util/ArrayList") (f2 : Fld Z h0 p0 "java/util/ArrayList" "elementData" "[Ljava/lang/Object;" (.ref uu1)) (g3 : n0 ≤ p0) :
    Met Z a0 ELs True n0 l (⟨"java/util/ArrayList", "grow", "()[Ljava/lang/Object;"⟩ : MethodName) jdk_38_method_7_code 1 (Option.some (FieldType.array (FieldType.object "java/lang/Object"))) ({ frames := 2, cells := 1, slots := 10, locals := 29 } : Room) #[(.ref p0)] h0 [] (fun v h so => (∃ a7 : Addr, ∃ k8 : ClassId, v = some (.ref a7) ∧ so = [] ∧ Keep h0 h [p0] ∧ h0.size ≤ a7 ∧ (∀ (O n d : String) (w : Value), Fld Z h0 p0 O n d w → RoadKit.slotOf Z O n d ≠ RoadKit.slotOf Z "java/util/ArrayList" "elementData" "[Ljava/lang/Object;" → Fld Z h p0 O n d w) ∧ Ovr Z k8 "java/lang/Object" ∧ Fld Z h p0 "java/util/ArrayList" "size" "I" (.int (0 : Int32)) ∧ Exa Z h p0 "java/util/ArrayList" ∧ Fld Z h p0 "java/util/ArrayList" "elementData" "[Ljava/lang/Object;" (.ref a7) ∧ Arv Z h a7 k8 (.object "java/lang/Object") (10 : Int32) [.null, .null, .null, .null, .null, .null, .null, .null, .null, .null] .null ∧ Exa Z h a7 "[Ljava/lang/Object;")) := by
  refine Met.of (EWl V) (by first | decide +kernel | rfl) hO (L0 := #[.val (.ref p0)]) rfl ?_
  intro p e s m below meth c T H
  show Go p e below _ (T.setTop (mkF m 0 #[.val (.ref p0)] []))
  refine G.aloadN H D14_0 (pc' := 1) rfl rfl rfl ?_
  refine G.aloadN H D14_1 (pc' := 2) rfl rfl rfl ?_
  refine G.getF H (wd69 V) Via.refl f0 D14_2 (pc' := 5) rfl ?_
  intro T1 H2
  refine G.iconst H2 D14_5 (pc' := 6) rfl (v := (1 : Int32)) rfl ?_
  refine G.iadd H2 D14_6 (pc' := 7) rfl ?_
  show Go p e below _ (T1.setTop (mkF m 7 #[.val (.ref p0)] [(.int (1 : Int32)), (.ref p0)]))
  refine G.callP H2 (m6_grow V p0 h0 H2.old f2 f1 g3) (wd81 V) (wd82 V) (wd84 V) (wd83 V) (wd36 V) (wd85 V) (by decide) f1 (argsL := [(.int (1 : Int32))]) (rest := []) (W := 0) rfl rfl (lenOf (pd_3) rfl) rfl rfl D14_7 (pc' := 10) rfl (by decide) (by decide) (by decide) (by decide) all0 ?_
  intro T3 h3_ v4 s5 H3 Q6
  obtain ⟨a7, k8, rfl, rfl, K9, g10, U11, O12, F13, F14, F15, F16⟩ := Q6
  have na7 : n0 ≤ a7 := Nat.le_trans H.le g10
  show Go p e below _ (T3.setTop (mkF m 10 #[.val (.ref p0)] [(.ref a7)]))
  have F17 := (U11 "java/util/ArrayList" "size" "I" (.int (0 : Int32)) f0 (slot_ne (Or.inl (wd70 V)) (Or.inl (wd57 V)) (by decide) (t := .int) (t' := (.array (.object "java/lang/Object"))) (by decide) (by decide)))
  have K18 : Keep h0 h3_ [p0] := (Keep.trans (Keep.refl h0 [p0]) K9 (allS (Or.inl (List.mem_of_getElem? (i := 0) rfl)) all0))
  exact G.retA H3 (t := (.array (.object "java/lang/Object"))) rfl rfl rfl D14_10 (so := []) all0 (by decide) (by decide) ⟨a7, k8, rfl, rfl, K18, g10, (fun O n d w F hn0 => (U11 O n d w F hn0)), O12, F17, F14, F13, F15, F16⟩
set_option maxRecDepth 65536 in
set_option maxHeartbeats 40000000 in
theorem m8_add (V : Env1 Z a0 n0 uu0 uu1 uu2 uu3 uu4 uu5) (p0 : Addr) (p1 : Addr) (h0 : Heap) (hO : Old Z n0 h0) (f0 : Exa Z h0 p0 "java/util/ArrayList") (f1 : Fld Z h0 p0 "java/util/ArrayList" "size" "I" (.int (0 : Int32))) (f2 : Fld Z h0 p0 "java/util/ArrayList" "elementData" "[Ljava/lang/Object;" (.ref uu1)) (g3 : n0 ≤ p0) (f4 : Exa Z h0 p1 "java/lang/String") :
    Met Z a0 ELs True n0 l (⟨"java/util/ArrayList", "add", "(Ljava/lang/Object;[Ljava/lang/Object;I)V"⟩ : MethodName) jdk_38_method_24_code 4 (Option.none : Option FieldType) ({ frames := 3, cells := 1, slots := 10, locals := 41 } : Room) #[(.ref p0), (.ref p1), (.ref uu1), (.int (0 : Int32))] h0 [] (fun v h so => (∃ a6 : Addr, ∃ k7 : ClassId, v = none ∧ so = [] ∧ Keep h0 h [p0] ∧ h0.size ≤ a6 ∧ (∀ (O n d : String) (w : Value), Fld Z h0 p0 O n d w → RoadKit.slotOf Z O n d ≠ RoadKit.slotOf Z "java/util/ArrayList" "elementData" "[Ljava/lang/Object;" → RoadKit.slotOf Z O n d ≠ RoadKit.slotOf Z "java/util/ArrayList" "size" "I" → Fld Z h p0 O n d w) ∧ Ovr Z k7 "java/lang/Object" ∧ Exa Z h p0 "java/util/ArrayList" ∧ Fld Z h p0 "java/util/ArrayList" "size" "I" (.int (1 : Int32)) ∧ Fld Z h p0 "java/util/ArrayList" "elementData" "[Ljava/lang/Object;" (.ref a6) ∧ Arv Z h a6 k7 (.object "java/lang/Object") (10 : Int32) [(.ref p1), .null, .null, .null, .null, .null, .null, .null, .null, .null] .null ∧ Exa Z h a6 "[Ljava/lang/Object;")) := by
  refine Met.of (EWl V) (by first | decide +kernel | rfl) hO (L0 := #[.val (.ref p0), .val (.ref p1), .val (.ref uu1), .val (.int (0 : Int32))]) rfl ?_
  intro p e s m below meth c T H
  show Go p e below _ (T.setTop (mkF m 0 #[.val (.ref p0), .val (.ref p1), .val (.ref uu1), .val (.int (0 : Int32))] []))
  refine G.iloadN H D9_0 (pc' := 1) rfl rfl ?_
  refine G.aloadN H D9_1 (pc' := 2) rfl rfl rfl ?_
  have B1 := Arv.ext (hv5 V) H.old.2
  refine G.arrlen H B1 D9_2 (pc' := 3) rfl ?_
  refine G.icmpNo H D9_3 (pc' := 6) rfl (by decide) ?_
  refine G.aloadN H D9_6 (pc' := 7) rfl rfl rfl ?_
  refine G.callP H (m7_grow V p0 h0 H.old f1 f0 f2 g3) (wd76 V) (wd77 V) (wd79 V) (wd78 V) (wd36 V) (wd80 V) (by decide) f0 (argsL := []) (rest := []) (W := 0) rfl rfl (lenOf (pd_4) rfl) rfl rfl D9_7 (pc' := 10) rfl (by decide) (by decide) (by decide) (by decide) all0 ?_
  intro T2 h2_ v3 s4 H2 Q5
  obtain ⟨a6, k7, rfl, rfl, K8, g9, U10, O11, F12, F13, F14, F15, F16⟩ := Q5
  have na6 : n0 ≤ a6 := Nat.le_trans H.le g9
  show Go p e below _ (T2.setTop (mkF m 10 #[.val (.ref p0), .val (.ref p1), .val (.ref uu1), .val (.int (0 : Int32))] [(.ref a6)]))
  refine G.astoreN H2 (L' := #[.val (.ref p0), .val (.ref p1), .val (.ref a6), .val (.int (0 : Int32))]) D9_10 (pc' := 11) rfl rfl rfl ?_
  refine G.aloadN H2 D9_11 (pc' := 12) rfl rfl rfl ?_
  refine G.iloadN H2 D9_12 (pc' := 13) rfl rfl ?_
  refine G.aloadN H2 D9_13 (pc' := 14) rfl rfl rfl ?_
  have F20 := (Exa.keep f4 K8)
  refine G.stR H2 F15 rfl (OwnKit.sto_of F15 O11 (Ins.of_exa F20 (wd92 V))) rfl (by decide) (i := 0) rfl (Nat.le_of_ble_eq_true rfl) na6 D9_14 (pc' := 15) rfl ?_
  intro T17 h17_ H17 W18 A19
  replace A19 : Arv Z h17_ a6 k7 (.object "java/lang/Object") (10 : Int32) [(.ref p1), .null, .null, .null, .null, .null, .null, .null, .null, .null] .null := A19
  refine G.aloadN H17 D9_15 (pc' := 16) rfl rfl rfl ?_
  refine G.iloadN H17 D9_16 (pc' := 17) rfl rfl ?_
  refine G.iconst H17 D9_17 (pc' := 18) rfl (v := (1 : Int32)) rfl ?_
  refine G.iadd H17 D9_18 (pc' := 19) rfl ?_
  show Go p e below _ (T17.setTop (mkF m 19 #[.val (.ref p0), .val (.ref p1), .val (.ref a6), .val (.int (0 : Int32))] [(.int (1 : Int32)), (.ref p0)]))
  have F21 := (Exa.wr W18 F13)
  have N22 : p0 ≠ a6 := Exa.neArv F21 A19 (wd35 V)
  have F23 := (Fld.other W18 F12 (Or.inl N22))
  refine G.putF H17 (wd69 V) Via.refl F23 F21 (Or.inl (wd70 V)) (wd35 V) (ty := .int) (by decide) rfl rfl g3 (Sf.exa F21) D9_19 (pc' := 22) rfl ?_
  intro T24 h24_ H24 W25
  have F26 : Fld Z h24_ p0 "java/util/ArrayList" "size" "I" (.int (1 : Int32)) := Fld.same W25 F23
  have F27 := (Exa.wr W25 F21)
  have F28 := (Fld.other W25 (Fld.other W18 F14 (Or.inl N22)) (Or.inr (slot_ne (Or.inl (wd57 V)) (Or.inl (wd70 V)) (by decide) (t := (.array (.object "java/lang/Object"))) (t' := .int) (by decide) (by decide))))
  have F29 := (Arv.other A19 W25 (Ne.symm N22))
  have K30 : Keep h2_ h24_ [a6, p0] := (Keep.wr (Keep.wr (Keep.refl h2_ [a6, p0]) W18 (Or.inl (List.mem_of_getElem? (i := 0) rfl))) W25 (Or.inl (List.mem_of_getElem? (i := 1) rfl)))
  have F31 := (Exa.keep F16 K30)
  have K32 : Keep h0 h24_ [p0] := (Keep.wr (Keep.wr (Keep.trans (Keep.refl h0 [p0]) K8 (allS (Or.inl (List.mem_of_getElem? (i := 0) rfl)) all0)) W18 (Or.inr g9)) W25 (Or.inl (List.mem_of_getElem? (i := 0) rfl)))
  exact G.retV H24 rfl D9_22 (so := []) all0 (by decide) (by decide) ⟨a6, k7, rfl, rfl, K32, g9, (fun O n d w F hn0 hn1 => (Fld.other W25 (Fld.other W18 (U10 O n d w F hn0) (Or.inl N22)) (Or.inr hn1))), O11, F27, F26, F28, F29, F31⟩
set_option maxRecDepth 65536 in
set_option maxHeartbeats 40000000 in
theorem m9_add (V : Env1 Z a0 n0 uu0 uu1 uu2 uu3 uu4 uu5) (p0 : Addr) (p1 : Addr) (h0 : Heap) (hO : Old Z n0 h0) (f0 : Fld Z h0 p0 "java/util/AbstractList" "modCount" "I" (.int (0 : Int32))) (f1 : Exa Z h0 p0 "java/util/ArrayList") (g2 : n0 ≤ p0) (f3 : Fld Z h0 p0 "java/util/ArrayList" "elementData" "[Ljava/lang/Object;" (.ref uu1)) (f4 : Fld Z h0 p0 "java/util/ArrayList" "size" "I" (.int (0 : Int32))) (f5 : Exa Z h0 p1 "java/lang/String") :
    Met Z a0 ELs True n0 l (⟨"java/util/ArrayList", "add", "(Ljava/lang/Object;)Z"⟩ : MethodName) jdk_38_method_25_code 2 (Option.some FieldType.boolean) ({ frames := 4, cells := 1, slots := 10, locals := 56 } : Room) #[(.ref p0), (.ref p1)] h0 [] (fun v h so => (∃ a18 : Addr, ∃ k19 : ClassId, v = some (.int (1 : Int32)) ∧ so = [] ∧ Keep h0 h [p0] ∧ h0.size ≤ a18 ∧ (∀ (O n d : String) (w : Value), Fld Z h0 p0 O n d w → RoadKit.slotOf Z O n d ≠ RoadKit.slotOf Z "java/util/AbstractList" "modCount" "I" → RoadKit.slotOf Z O n d ≠ RoadKit.slotOf Z "java/util/ArrayList" "elementData" "[Ljava/lang/Object;" → RoadKit.slotOf Z O n d ≠ RoadKit.slotOf Z "java/util/ArrayList" "size" "I" → Fld Z h p0 O n d w) ∧ Ovr Z k19 "java/lang/Object" ∧ Fld Z h p0 "java/util/AbstractList" "modCount" "I" (.int (1 : Int32)) ∧ Exa Z h p0 "java/util/ArrayList" ∧ Fld Z h p0 "java/util/ArrayList" "elementData" "[Ljava/lang/Object;" (.ref a18) ∧ Fld Z h p0 "java/util/ArrayList" "size" "I" (.int (1 : Int32)) ∧ Arv Z h a18 k19 (.object "java/lang/Object") (10 : Int32) [(.ref p1), .null, .null, .null, .null, .null, .null, .null, .null, .null] .null ∧ Exa Z h a18 "[Ljava/lang/Object;")) := by
  refine Met.of (EWl V) (by first | decide +kernel | rfl) hO (L0 := #[.val (.ref p0), .val (.ref p1)]) rfl ?_
  intro p e s m below meth c T H
  show Go p e below _ (T.setTop (mkF m 0 #[.val (.ref p0), .val (.ref p1)] []))
  refine G.aloadN H D10_0 (pc' := 1) rfl rfl rfl ?_
  refine G.dup H D10_1 (pc' := 2) rfl rfl ?_
  refine G.getF H (wd67 V) (Via.of (wd68 V)) f0 D10_2 (pc' := 5) rfl ?_
  intro T1 H2
  refine G.iconst H2 D10_5 (pc' := 6) rfl (v := (1 : Int32)) rfl ?_
  refine G.iadd H2 D10_6 (pc' := 7) rfl ?_
  show Go p e below _ (T1.setTop (mkF m 7 #[.val (.ref p0), .val (.ref p1)] [(.int (1 : Int32)), (.ref p0)]))
  refine G.putF H2 (wd67 V) (Via.of (wd68 V)) f0 f1 (Or.inl (wd54 V)) (wd35 V) (ty := .int) (by decide) rfl rfl g2 (Sf.exa f1) D10_7 (pc' := 10) rfl ?_
  intro T3 h3_ H3 W4
  have F5 : Fld Z h3_ p0 "java/util/AbstractList" "modCount" "I" (.int (1 : Int32)) := Fld.same W4 f0
  refine G.aloadN H3 D10_10 (pc' := 11) rfl rfl rfl ?_
  refine G.aloadN H3 D10_11 (pc' := 12) rfl rfl rfl ?_
  refine G.aloadN H3 D10_12 (pc' := 13) rfl rfl rfl ?_
  have F6 := (Fld.other W4 f3 (Or.inr (slot_ne (Or.inl (wd57 V)) (Or.inl (wd54 V)) (by decide) (t := (.array (.object "java/lang/Object"))) (t' := .int) (by decide) (by decide))))
  refine G.getF H3 (wd56 V) Via.refl F6 D10_13 (pc' := 16) rfl ?_
  intro T7 H8
  refine G.aloadN H8 D10_16 (pc' := 17) rfl rfl rfl ?_
  have F9 := (Fld.other W4 f4 (Or.inr (slot_ne (Or.inl (wd70 V)) (Or.inl (wd54 V)) (by decide) (t := .int) (t' := .int) (by decide) (by decide))))
  refine G.getF H8 (wd69 V) Via.refl F9 D10_17 (pc' := 20) rfl ?_
  intro T10 H11
  have F12 := (Exa.wr W4 f1)
  have F13 := (Exa.wr W4 f5)
  refine G.callP H11 (m8_add V p0 p1 h3_ H11.old F12 F9 F6 g2 F13) (wd71 V) (wd72 V) (wd74 V) (wd73 V) (wd36 V) (wd75 V) (by decide) F12 (argsL := [(.ref p1), (.ref uu1), (.int (0 : Int32))]) (rest := []) (W := 0) rfl rfl (lenOf (pd_5) rfl) rfl rfl D10_20 (pc' := 23) rfl (by decide) (by decide) (by decide) (by decide) all0 ?_
  intro T14 h14_ v15 s16 H14 Q17
  obtain ⟨a18, k19, rfl, rfl, K20, g21, U22, O23, F24, F25, F26, F27, F28⟩ := Q17
  have na18 : n0 ≤ a18 := Nat.le_trans H3.le g21
  show Go p e below _ (T14.setTop (mkF m 23 #[.val (.ref p0), .val (.ref p1)] []))
  refine G.iconst H14 D10_23 (pc' := 24) rfl (v := (1 : Int32)) rfl ?_
  have F29 := (U22 "java/util/AbstractList" "modCount" "I" (.int (1 : Int32)) F5 (slot_ne (Or.inl (wd54 V)) (Or.inl (wd57 V)) (by decide) (t := .int) (t' := (.array (.object "java/lang/Object"))) (by decide) (by decide)) (slot_ne (Or.inl (wd54 V)) (Or.inl (wd70 V)) (by decide) (t := .int) (t' := .int) (by decide) (by decide)))
  have K30 : Keep h0 h14_ [p0] := (Keep.trans (Keep.wr (Keep.refl h0 [p0]) W4 (Or.inl (List.mem_of_getElem? (i := 0) rfl))) K20 (allS (Or.inl (List.mem_of_getElem? (i := 0) rfl)) all0))
  have K31 : Keep h0 h3_ [p0] := (Keep.wr (Keep.refl h0 [p0]) W4 (Or.inl (List.mem_of_getElem? (i := 0) rfl)))
  exact G.retN H14 (t := .boolean) rfl (by decide) D10_24 (so := []) all0 (by decide) (by decide) ⟨a18, k19, rfl, rfl, K30, (Nat.le_trans K31.1 g21), (fun O n d w F hn0 hn1 hn2 => (U22 O n d w (Fld.other W4 F (Or.inr hn0)) hn1 hn2)), O23, F29, F24, F26, F25, F27, F28⟩
set_option maxRecDepth 65536 in
set_option maxHeartbeats 40000000 in
theorem m10_add (V : Env1 Z a0 n0 uu0 uu1 uu2 uu3 uu4 uu5) (p0 : Addr) (p1 : Addr) (p2 : Addr) (c0 : ClassId) (p3 : Addr) (h0 : Heap) (hO : Old Z n0 h0) (f0 : Arv Z h0 p2 c0 (.object "java/lang/Object") (10 : Int32) [(.ref p3), .null, .null, .null, .null, .null, .null, .null, .null, .null] .null) (g1 : n0 ≤ p2) (o2 : Ovr Z c0 "java/lang/Object") (f3 : Exa Z h0 p1 "java/lang/String") (f4 : Exa Z h0 p0 "java/util/ArrayList") (f5 : Fld Z h0 p0 "java/util/ArrayList" "size" "I" (.int (1 : Int32))) (g6 : n0 ≤ p0) :
    Met Z a0 ELs True n0 l (⟨"java/util/ArrayList", "add", "(Ljava/lang/Object;[Ljava/lang/Object;I)V"⟩ : MethodName) jdk_38_method_24_code 4 (Option.none : Option FieldType) ({ frames := 0, cells := 0, slots := 0, locals := 0 } : Room) #[(.ref p0), (.ref p1), (.ref p2), (.int (1 : Int32))] h0 [] (fun v h so => (v = none ∧ so = [] ∧ Keep h0 h [p2, p0] ∧ (∀ (O n d : String) (w : Value), Fld Z h0 p0 O n d w → RoadKit.slotOf Z O n d ≠ RoadKit.slotOf Z "java/util/ArrayList" "size" "I" → Fld Z h p0 O n d w) ∧ Arv Z h p2 c0 (.object "java/lang/Object") (10 : Int32) [(.ref p3), (.ref p1), .null, .null, .null, .null, .null, .null, .null, .null] .null ∧ Exa Z h p0 "java/util/ArrayList" ∧ Fld Z h p0 "java/util/ArrayList" "size" "I" (.int (2 : Int32)))) := by
  refine Met.of (EWl V) (by first | decide +kernel | rfl) hO (L0 := #[.val (.ref p0), .val (.ref p1), .val (.ref p2), .val (.int (1 : Int32))]) rfl ?_
  intro p e s m below meth c T H
  show Go p e below _ (T.setTop (mkF m 0 #[.val (.ref p0), .val (.ref p1), .val (.ref p2), .val (.int (1 : Int32))] []))
  refine G.iloadN H D9_0 (pc' := 1) rfl rfl ?_
  refine G.aloadN H D9_1 (pc' := 2) rfl rfl rfl ?_
  refine G.arrlen H f0 D9_2 (pc' := 3) rfl ?_
  refine G.icmpYes H D9_3 (by decide) (by decide) (pc' := 11) rfl ?_
  refine G.aloadN H D9_11 (pc' := 12) rfl rfl rfl ?_
  refine G.iloadN H D9_12 (pc' := 13) rfl rfl ?_
  refine G.aloadN H D9_13 (pc' := 14) rfl rfl rfl ?_
  refine G.stR H f0 rfl (OwnKit.sto_of f0 o2 (Ins.of_exa f3 (wd92 V))) rfl (by decide) (i := 1) rfl (Nat.le_of_ble_eq_true rfl) g1 D9_14 (pc' := 15) rfl ?_
  intro T1 h1_ H1 W2 A3
  replace A3 : Arv Z h1_ p2 c0 (.object "java/lang/Object") (10 : Int32) [(.ref p3), (.ref p1), .null, .null, .null, .null, .null, .null, .null, .null] .null := A3
  refine G.aloadN H1 D9_15 (pc' := 16) rfl rfl rfl ?_
  refine G.iloadN H1 D9_16 (pc' := 17) rfl rfl ?_
  refine G.iconst H1 D9_17 (pc' := 18) rfl (v := (1 : Int32)) rfl ?_
  refine G.iadd H1 D9_18 (pc' := 19) rfl ?_
  show Go p e below _ (T1.setTop (mkF m 19 #[.val (.ref p0), .val (.ref p1), .val (.ref p2), .val (.int (1 : Int32))] [(.int (2 : Int32)), (.ref p0)]))
  have F4 := (Exa.wr W2 f4)
  have N5 : p0 ≠ p2 := Exa.neArv F4 A3 (wd35 V)
  have F6 := (Fld.other W2 f5 (Or.inl N5))
  refine G.putF H1 (wd69 V) Via.refl F6 F4 (Or.inl (wd70 V)) (wd35 V) (ty := .int) (by decide) rfl rfl g6 (Sf.exa F4) D9_19 (pc' := 22) rfl ?_
  intro T7 h7_ H7 W8
  have F9 : Fld Z h7_ p0 "java/util/ArrayList" "size" "I" (.int (2 : Int32)) := Fld.same W8 F6
  have F10 := (Arv.other A3 W8 (Ne.symm N5))
  have F11 := (Exa.wr W8 F4)
  have K12 : Keep h0 h7_ [p2, p0] := (Keep.wr (Keep.wr (Keep.refl h0 [p2, p0]) W2 (Or.inl (List.mem_of_getElem? (i := 0) rfl))) W8 (Or.inl (List.mem_of_getElem? (i := 1) rfl)))
  exact G.retV H7 rfl D9_22 (so := []) all0 (by decide) (by decide) ⟨rfl, rfl, K12, (fun O n d w F hn0 => (Fld.other W8 (Fld.other W2 F (Or.inl N5)) (Or.inr hn0))), F10, F11, F9⟩
set_option maxRecDepth 65536 in
set_option maxHeartbeats 40000000 in
theorem m11_add (V : Env1 Z a0 n0 uu0 uu1 uu2 uu3 uu4 uu5) (p0 : Addr) (p1 : Addr) (p2 : Addr) (c0 : ClassId) (p3 : Addr) (h0 : Heap) (hO : Old Z n0 h0) (f0 : Fld Z h0 p0 "java/util/AbstractList" "modCount" "I" (.int (1 : Int32))) (f1 : Exa Z h0 p0 "java/util/ArrayList") (g2 : n0 ≤ p0) (f3 : Fld Z h0 p0 "java/util/ArrayList" "elementData" "[Ljava/lang/Object;" (.ref p2)) (f4 : Fld Z h0 p0 "java/util/ArrayList" "size" "I" (.int (1 : Int32))) (f5 : Arv Z h0 p2 c0 (.object "java/lang/Object") (10 : Int32) [(.ref p3), .null, .null, .null, .null, .null, .null, .null, .null, .null] .null) (q6 : p2 ≠ p0) (g7 : n0 ≤ p2) (o8 : Ovr Z c0 "java/lang/Object") (f9 : Exa Z h0 p1 "java/lang/String") :
    Met Z a0 ELs True n0 l (⟨"java/util/ArrayList", "add", "(Ljava/lang/Object;)Z"⟩ : MethodName) jdk_38_method_25_code 2 (Option.some FieldType.boolean) ({ frames := 1, cells := 0, slots := 0, locals := 15 } : Room) #[(.ref p0), (.ref p1)] h0 [] (fun v h so => (v = some (.int (1 : Int32)) ∧ so = [] ∧ Keep h0 h [p0, p2] ∧ (∀ (O n d : String) (w : Value), Fld Z h0 p0 O n d w → RoadKit.slotOf Z O n d ≠ RoadKit.slotOf Z "java/util/AbstractList" "modCount" "I" → RoadKit.slotOf Z O n d ≠ RoadKit.slotOf Z "java/util/ArrayList" "size" "I" → Fld Z h p0 O n d w) ∧ Fld Z h p0 "java/util/AbstractList" "modCount" "I" (.int (2 : Int32)) ∧ Exa Z h p0 "java/util/ArrayList" ∧ Fld Z h p0 "java/util/ArrayList" "elementData" "[Ljava/lang/Object;" (.ref p2) ∧ Fld Z h p0 "java/util/ArrayList" "size" "I" (.int (2 : Int32)) ∧ Arv Z h p2 c0 (.object "java/lang/Object") (10 : Int32) [(.ref p3), (.ref p1), .null, .null, .null, .null, .null, .null, .null, .null] .null)) := by
  refine Met.of (EWl V) (by first | decide +kernel | rfl) hO (L0 := #[.val (.ref p0), .val (.ref p1)]) rfl ?_
  intro p e s m below meth c T H
  show Go p e below _ (T.setTop (mkF m 0 #[.val (.ref p0), .val (.ref p1)] []))
  refine G.aloadN H D10_0 (pc' := 1) rfl rfl rfl ?_
  refine G.dup H D10_1 (pc' := 2) rfl rfl ?_
  refine G.getF H (wd67 V) (Via.of (wd68 V)) f0 D10_2 (pc' := 5) rfl ?_
  intro T1 H2
  refine G.iconst H2 D10_5 (pc' := 6) rfl (v := (1 : Int32)) rfl ?_
  refine G.iadd H2 D10_6 (pc' := 7) rfl ?_
  show Go p e below _ (T1.setTop (mkF m 7 #[.val (.ref p0), .val (.ref p1)] [(.int (2 : Int32)), (.ref p0)]))
  refine G.putF H2 (wd67 V) (Via.of (wd68 V)) f0 f1 (Or.inl (wd54 V)) (wd35 V) (ty := .int) (by decide) rfl rfl g2 (Sf.exa f1) D10_7 (pc' := 10) rfl ?_
  intro T3 h3_ H3 W4
  have F5 : Fld Z h3_ p0 "java/util/AbstractList" "modCount" "I" (.int (2 : Int32)) := Fld.same W4 f0
  refine G.aloadN H3 D10_10 (pc' := 11) rfl rfl rfl ?_
  refine G.aloadN H3 D10_11 (pc' := 12) rfl rfl rfl ?_
  refine G.aloadN H3 D10_12 (pc' := 13) rfl rfl rfl ?_
  have F6 := (Fld.other W4 f3 (Or.inr (slot_ne (Or.inl (wd57 V)) (Or.inl (wd54 V)) (by decide) (t := (.array (.object "java/lang/Object"))) (t' := .int) (by decide) (by decide))))
  refine G.getF H3 (wd56 V) Via.refl F6 D10_13 (pc' := 16) rfl ?_
  intro T7 H8
  refine G.aloadN H8 D10_16 (pc' := 17) rfl rfl rfl ?_
  have F9 := (Fld.other W4 f4 (Or.inr (slot_ne (Or.inl (wd70 V)) (Or.inl (wd54 V)) (by decide) (t := .int) (t' := .int) (by decide) (by decide))))
  refine G.getF H8 (wd69 V) Via.refl F9 D10_17 (pc' := 20) rfl ?_
  intro T10 H11
  have F12 := (Exa.wr W4 f1)
  have F13 := (Arv.other f5 W4 q6)
  have F14 := (Exa.wr W4 f9)
  refine G.callP H11 (m10_add V p0 p1 p2 c0 p3 h3_ H11.old F13 g7 o8 F14 F12 F9 g2) (wd71 V) (wd72 V) (wd74 V) (wd73 V) (wd36 V) (wd75 V) (by decide) F12 (argsL := [(.ref p1), (.ref p2), (.int (1 : Int32))]) (rest := []) (W := 0) rfl rfl (lenOf (pd_5) rfl) rfl rfl D10_20 (pc' := 23) rfl (by decide) (by decide) (by decide) (by decide) all0 ?_
  intro T15 h15_ v16 s17 H15 Q18
  obtain ⟨rfl, rfl, K19, U20, F21, F22, F23⟩ := Q18
  show Go p e below _ (T15.setTop (mkF m 23 #[.val (.ref p0), .val (.ref p1)] []))
  refine G.iconst H15 D10_23 (pc' := 24) rfl (v := (1 : Int32)) rfl ?_
  have F24 := (U20 "java/util/AbstractList" "modCount" "I" (.int (2 : Int32)) F5 (slot_ne (Or.inl (wd54 V)) (Or.inl (wd70 V)) (by decide) (t := .int) (t' := .int) (by decide) (by decide)))
  have F25 := (U20 "java/util/ArrayList" "elementData" "[Ljava/lang/Object;" (.ref p2) F6 (slot_ne (Or.inl (wd57 V)) (Or.inl (wd70 V)) (by decide) (t := (.array (.object "java/lang/Object"))) (t' := .int) (by decide) (by decide)))
  have K26 : Keep h0 h15_ [p0, p2] := (Keep.trans (Keep.wr (Keep.refl h0 [p0, p2]) W4 (Or.inl (List.mem_of_getElem? (i := 0) rfl))) K19 (allS (Or.inl (List.mem_of_getElem? (i := 1) rfl)) (allS (Or.inl (List.mem_of_getElem? (i := 0) rfl)) all0)))
  exact G.retN H15 (t := .boolean) rfl (by decide) D10_24 (so := []) all0 (by decide) (by decide) ⟨rfl, rfl, K26, (fun O n d w F hn0 hn1 => (U20 O n d w (Fld.other W4 F (Or.inr hn0)) hn1)), F24, F22, F25, F23, F21⟩
set_option maxRecDepth 65536 in
set_option maxHeartbeats 40000000 in
theorem m12_add (V : Env1 Z a0 n0 uu0 uu1 uu2 uu3 uu4 uu5) (p0 : Addr) (p1 : Addr) (p2 : Addr) (c0 : ClassId) (p3 : Addr) (p4 : Addr) (h0 : Heap) (hO : Old Z n0 h0) (f0 : Arv Z h0 p2 c0 (.object "java/lang/Object") (10 : Int32) [(.ref p3), (.ref p4), .null, .null, .null, .null, .null, .null, .null, .null] .null) (g1 : n0 ≤ p2) (o2 : Ovr Z c0 "java/lang/Object") (f3 : Exa Z h0 p1 "java/lang/String") (f4 : Exa Z h0 p0 "java/util/ArrayList") (f5 : Fld Z h0 p0 "java/util/ArrayList" "size" "I" (.int (2 : Int32))) (g6 : n0 ≤ p0) :
    Met Z a0 ELs True n0 l (⟨"java/util/ArrayList", "add", "(Ljava/lang/Object;[Ljava/lang/Object;I)V"⟩ : MethodName) jdk_38_method_24_code 4 (Option.none : Option FieldType) ({ frames := 0, cells := 0, slots := 0, locals := 0 } : Room) #[(.ref p0), (.ref p1), (.ref p2), (.int (2 : Int32))] h0 [] (fun v h so => (v = none ∧ so = [] ∧ Keep h0 h [p2, p0] ∧ (∀ (O n d : String) (w : Value), Fld Z h0 p0 O n d w → RoadKit.slotOf Z O n d ≠ RoadKit.slotOf Z "java/util/ArrayList" "size" "I" → Fld Z h p0 O n d w) ∧ Arv Z h p2 c0 (.object "java/lang/Object") (10 : Int32) [(.ref p3), (.ref p4), (.ref p1), .null, .null, .null, .null, .null, .null, .null] .null ∧ Exa Z h p0 "java/util/ArrayList" ∧ Fld Z h p0 "java/util/ArrayList" "size" "I" (.int (3 : Int32)))) := by
  refine Met.of (EWl V) (by first | decide +kernel | rfl) hO (L0 := #[.val (.ref p0), .val (.ref p1), .val (.ref p2), .val (.int (2 : Int32))]) rfl ?_
  intro p e s m below meth c T H
  show Go p e below _ (T.setTop (mkF m 0 #[.val (.ref p0), .val (.ref p1), .val (.ref p2), .val (.int (2 : Int32))] []))
  refine G.iloadN H D9_0 (pc' := 1) rfl rfl ?_
  refine G.aloadN H D9_1 (pc' := 2) rfl rfl rfl ?_
  refine G.arrlen H f0 D9_2 (pc' := 3) rfl ?_
  refine G.icmpYes H D9_3 (by decide) (by decide) (pc' := 11) rfl ?_
  refine G.aloadN H D9_11 (pc' := 12) rfl rfl rfl ?_
  refine G.iloadN H D9_12 (pc' := 13) rfl rfl ?_
  refine G.aloadN H D9_13 (pc' := 14) rfl rfl rfl ?_
  refine G.stR H f0 rfl (OwnKit.sto_of f0 o2 (Ins.of_exa f3 (wd92 V))) rfl (by decide) (i := 2) rfl (Nat.le_of_ble_eq_true rfl) g1 D9_14 (pc' := 15) rfl ?_
  intro T1 h1_ H1 W2 A3
  replace A3 : Arv Z h1_ p2 c0 (.object "java/lang/Object") (10 : Int32) [(.ref p3), (.ref p4), (.ref p1), .null, .null, .null, .null, .null, .null, .null] .null := A3
  refine G.aloadN H1 D9_15 (pc' := 16) rfl rfl rfl ?_
  refine G.iloadN H1 D9_16 (pc' := 17) rfl rfl ?_
  refine G.iconst H1 D9_17 (pc' := 18) rfl (v := (1 : Int32)) rfl ?_
  refine G.iadd H1 D9_18 (pc' := 19) rfl ?_
  show Go p e below _ (T1.setTop (mkF m 19 #[.val (.ref p0), .val (.ref p1), .val (.ref p2), .val (.int (2 : Int32))] [(.int (3 : Int32)), (.ref p0)]))
  have F4 := (Exa.wr W2 f4)
  have N5 : p0 ≠ p2 := Exa.neArv F4 A3 (wd35 V)
  have F6 := (Fld.other W2 f5 (Or.inl N5))
  refine G.putF H1 (wd69 V) Via.refl F6 F4 (Or.inl (wd70 V)) (wd35 V) (ty := .int) (by decide) rfl rfl g6 (Sf.exa F4) D9_19 (pc' := 22) rfl ?_
  intro T7 h7_ H7 W8
  have F9 : Fld Z h7_ p0 "java/util/ArrayList" "size" "I" (.int (3 : Int32)) := Fld.same W8 F6
  have F10 := (Arv.other A3 W8 (Ne.symm N5))
  have F11 := (Exa.wr W8 F4)
  have K12 : Keep h0 h7_ [p2, p0] := (Keep.wr (Keep.wr (Keep.refl h0 [p2, p0]) W2 (Or.inl (List.mem_of_getElem? (i := 0) rfl))) W8 (Or.inl (List.mem_of_getElem? (i := 1) rfl)))
  exact G.retV H7 rfl D9_22 (so := []) all0 (by decide) (by decide) ⟨rfl, rfl, K12, (fun O n d w F hn0 => (Fld.other W8 (Fld.other W2 F (Or.inl N5)) (Or.inr hn0))), F10, F11, F9⟩
set_option maxRecDepth 65536 in
set_option maxHeartbeats 40000000 in
theorem m13_add (V : Env1 Z a0 n0 uu0 uu1 uu2 uu3 uu4 uu5) (p0 : Addr) (p1 : Addr) (p2 : Addr) (c0 : ClassId) (p3 : Addr) (p4 : Addr) (h0 : Heap) (hO : Old Z n0 h0) (f0 : Fld Z h0 p0 "java/util/AbstractList" "modCount" "I" (.int (2 : Int32))) (f1 : Exa Z h0 p0 "java/util/ArrayList") (g2 : n0 ≤ p0) (f3 : Fld Z h0 p0 "java/util/ArrayList" "elementData" "[Ljava/lang/Object;" (.ref p2)) (f4 : Fld Z h0 p0 "java/util/ArrayList" "size" "I" (.int (2 : Int32))) (f5 : Arv Z h0 p2 c0 (.object "java/lang/Object") (10 : Int32) [(.ref p3), (.ref p4), .null, .null, .null, .null, .null, .null, .null, .null] .null) (q6 : p2 ≠ p0) (g7 : n0 ≤ p2) (o8 : Ovr Z c0 "java/lang/Object") (f9 : Exa Z h0 p1 "java/lang/String") :
    Met Z a0 ELs True n0 l (⟨"java/util/ArrayList", "add", "(Ljava/lang/Object;)Z"⟩ : MethodName) jdk_38_method_25_code 2 (Option.some FieldType.boolean) ({ frames := 1, cells := 0, slots := 0, locals := 15 } : Room) #[(.ref p0), (.ref p1)] h0 [] (fun v h so => (v = some (.int (1 : Int32)) ∧ so = [] ∧ Keep h0 h [p0, p2] ∧ (∀ (O n d : String) (w : Value), Fld Z h0 p0 O n d w → RoadKit.slotOf Z O n d ≠ RoadKit.slotOf Z "java/util/AbstractList" "modCount" "I" → RoadKit.slotOf Z O n d ≠ RoadKit.slotOf Z "java/util/ArrayList" "size" "I" → Fld Z h p0 O n d w) ∧ Fld Z h p0 "java/util/AbstractList" "modCount" "I" (.int (3 : Int32)) ∧ Exa Z h p0 "java/util/ArrayList" ∧ Fld Z h p0 "java/util/ArrayList" "elementData" "[Ljava/lang/Object;" (.ref p2) ∧ Fld Z h p0 "java/util/ArrayList" "size" "I" (.int (3 : Int32)) ∧ Arv Z h p2 c0 (.object "java/lang/Object") (10 : Int32) [(.ref p3), (.ref p4), (.ref p1), .null, .null, .null, .null, .null, .null, .null] .null)) := by
  refine Met.of (EWl V) (by first | decide +kernel | rfl) hO (L0 := #[.val (.ref p0), .val (.ref p1)]) rfl ?_
  intro p e s m below meth c T H
  show Go p e below _ (T.setTop (mkF m 0 #[.val (.ref p0), .val (.ref p1)] []))
  refine G.aloadN H D10_0 (pc' := 1) rfl rfl rfl ?_
  refine G.dup H D10_1 (pc' := 2) rfl rfl ?_
  refine G.getF H (wd67 V) (Via.of (wd68 V)) f0 D10_2 (pc' := 5) rfl ?_
  intro T1 H2
  refine G.iconst H2 D10_5 (pc' := 6) rfl (v := (1 : Int32)) rfl ?_
  refine G.iadd H2 D10_6 (pc' := 7) rfl ?_
  show Go p e below _ (T1.setTop (mkF m 7 #[.val (.ref p0), .val (.ref p1)] [(.int (3 : Int32)), (.ref p0)]))
  refine G.putF H2 (wd67 V) (Via.of (wd68 V)) f0 f1 (Or.inl (wd54 V)) (wd35 V) (ty := .int) (by decide) rfl rfl g2 (Sf.exa f1) D10_7 (pc' := 10) rfl ?_
  intro T3 h3_ H3 W4
  have F5 : Fld Z h3_ p0 "java/util/AbstractList" "modCount" "I" (.int (3 : Int32)) := Fld.same W4 f0
  refine G.aloadN H3 D10_10 (pc' := 11) rfl rfl rfl ?_
  refine G.aloadN H3 D10_11 (pc' := 12) rfl rfl rfl ?_
  refine G.aloadN H3 D10_12 (pc' := 13) rfl rfl rfl ?_
  have F6 := (Fld.other W4 f3 (Or.inr (slot_ne (Or.inl (wd57 V)) (Or.inl (wd54 V)) (by decide) (t := (.array (.object "java/lang/Object"))) (t' := .int) (by decide) (by decide))))
  refine G.getF H3 (wd56 V) Via.refl F6 D10_13 (pc' := 16) rfl ?_
  intro T7 H8
  refine G.aloadN H8 D10_16 (pc' := 17) rfl rfl rfl ?_
  have F9 := (Fld.other W4 f4 (Or.inr (slot_ne (Or.inl (wd70 V)) (Or.inl (wd54 V)) (by decide) (t := .int) (t' := .int) (by decide) (by decide))))
  refine G.getF H8 (wd69 V) Via.refl F9 D10_17 (pc' := 20) rfl ?_
  intro T10 H11
  have F12 := (Exa.wr W4 f1)
  have F13 := (Arv.other f5 W4 q6)
  have F14 := (Exa.wr W4 f9)
  refine G.callP H11 (m12_add V p0 p1 p2 c0 p3 p4 h3_ H11.old F13 g7 o8 F14 F12 F9 g2) (wd71 V) (wd72 V) (wd74 V) (wd73 V) (wd36 V) (wd75 V) (by decide) F12 (argsL := [(.ref p1), (.ref p2), (.int (2 : Int32))]) (rest := []) (W := 0) rfl rfl (lenOf (pd_5) rfl) rfl rfl D10_20 (pc' := 23) rfl (by decide) (by decide) (by decide) (by decide) all0 ?_
  intro T15 h15_ v16 s17 H15 Q18
  obtain ⟨rfl, rfl, K19, U20, F21, F22, F23⟩ := Q18
  show Go p e below _ (T15.setTop (mkF m 23 #[.val (.ref p0), .val (.ref p1)] []))
  refine G.iconst H15 D10_23 (pc' := 24) rfl (v := (1 : Int32)) rfl ?_
  have F24 := (U20 "java/util/AbstractList" "modCount" "I" (.int (3 : Int32)) F5 (slot_ne (Or.inl (wd54 V)) (Or.inl (wd70 V)) (by decide) (t := .int) (t' := .int) (by decide) (by decide)))
  have F25 := (U20 "java/util/ArrayList" "elementData" "[Ljava/lang/Object;" (.ref p2) F6 (slot_ne (Or.inl (wd57 V)) (Or.inl (wd70 V)) (by decide) (t := (.array (.object "java/lang/Object"))) (t' := .int) (by decide) (by decide)))
  have K26 : Keep h0 h15_ [p0, p2] := (Keep.trans (Keep.wr (Keep.refl h0 [p0, p2]) W4 (Or.inl (List.mem_of_getElem? (i := 0) rfl))) K19 (allS (Or.inl (List.mem_of_getElem? (i := 1) rfl)) (allS (Or.inl (List.mem_of_getElem? (i := 0) rfl)) all0)))
  exact G.retN H15 (t := .boolean) rfl (by decide) D10_24 (so := []) all0 (by decide) (by decide) ⟨rfl, rfl, K26, (fun O n d w F hn0 hn1 => (U20 O n d w (Fld.other W4 F (Or.inr hn0)) hn1)), F24, F22, F25, F23, F21⟩
set_option maxRecDepth 65536 in
set_option maxHeartbeats 40000000 in
theorem m14_init (V : Env1 Z a0 n0 uu0 uu1 uu2 uu3 uu4 uu5) (p0 : Addr) (p1 : Addr) (p2 : Addr) (h0 : Heap) (hO : Old Z n0 h0) (f0 : Exa Z h0 p0 "com/example/formboard/formboard/cli/Arguments") (f1 : Fld Z h0 p0 "com/example/formboard/formboard/cli/Arguments" "args" "Ljava/util/List;" .null) (g2 : n0 ≤ p0) (f3 : Fld Z h0 p0 "com/example/formboard/formboard/cli/Arguments" "usage" "Ljava/lang/String;" .null) :
    Met Z a0 ELs True n0 l (⟨"com/example/formboard/formboard/cli/Arguments", "<init>", "(Ljava/util/List;Ljava/lang/String;)V"⟩ : MethodName) prog_1_method_1_code 3 (Option.none : Option FieldType) ({ frames := 1, cells := 0, slots := 0, locals := 12 } : Room) #[(.ref p0), (.ref p1), (.ref p2)] h0 [] (fun v h so => (v = none ∧ so = [] ∧ Keep h0 h [p0] ∧ (∀ (O n d : String) (w : Value), Fld Z h0 p0 O n d w → RoadKit.slotOf Z O n d ≠ RoadKit.slotOf Z "com/example/formboard/formboard/cli/Arguments" "args" "Ljava/util/List;" → RoadKit.slotOf Z O n d ≠ RoadKit.slotOf Z "com/example/formboard/formboard/cli/Arguments" "usage" "Ljava/lang/String;" → Fld Z h p0 O n d w) ∧ Exa Z h p0 "com/example/formboard/formboard/cli/Arguments" ∧ Fld Z h p0 "com/example/formboard/formboard/cli/Arguments" "args" "Ljava/util/List;" (.ref p1) ∧ Fld Z h p0 "com/example/formboard/formboard/cli/Arguments" "usage" "Ljava/lang/String;" (.ref p2))) := by
  refine Met.of (EWl V) (by first | decide +kernel | rfl) hO (L0 := #[.val (.ref p0), .val (.ref p1), .val (.ref p2)]) rfl ?_
  intro p e s m below meth c T H
  show Go p e below _ (T.setTop (mkF m 0 #[.val (.ref p0), .val (.ref p1), .val (.ref p2)] []))
  refine G.aloadN H D27_0 (pc' := 1) rfl rfl rfl ?_
  refine G.initO H (wd99 V) (wd16 V) (wd17 V) rfl D27_1 (pc' := 4) rfl (by decide) (W := 0) rfl (by decide) ?_
  intro T1 H2
  refine G.aloadN H2 D27_4 (pc' := 5) rfl rfl rfl ?_
  refine G.aloadN H2 D27_5 (pc' := 6) rfl rfl rfl ?_
  refine G.putF H2 (wd100 V) Via.refl f1 f0 (Or.inr ⟨(wd101 V), rfl, rfl⟩) (wd94 V) (ty := (.object "java/util/List")) (by decide) rfl rfl g2 (Sf.exa f0) D27_6 (pc' := 9) rfl ?_
  intro T3 h3_ H3 W4
  have F5 : Fld Z h3_ p0 "com/example/formboard/formboard/cli/Arguments" "args" "Ljava/util/List;" (.ref p1) := Fld.same W4 f1
  refine G.aloadN H3 D27_9 (pc' := 10) rfl rfl rfl ?_
  refine G.aloadN H3 D27_10 (pc' := 11) rfl rfl rfl ?_
  have F6 := (Exa.wr W4 f0)
  have F7 := (Fld.other W4 f3 (Or.inr (slot_ne (Or.inr (wd103 V)) (Or.inr (wd101 V)) (by decide) (t := (.object "java/lang/String")) (t' := (.object "java/util/List")) (by decide) (by decide))))
  refine G.putF H3 (wd102 V) Via.refl F7 F6 (Or.inr ⟨(wd103 V), rfl, rfl⟩) (wd94 V) (ty := (.object "java/lang/String")) (by decide) rfl rfl g2 (Sf.exa F6) D27_11 (pc' := 14) rfl ?_
  intro T8 h8_ H8 W9
  have F10 : Fld Z h8_ p0 "com/example/formboard/formboard/cli/Arguments" "usage" "Ljava/lang/String;" (.ref p2) := Fld.same W9 F7
  have F11 := (Exa.wr W9 F6)
  have F12 := (Fld.other W9 F5 (Or.inr (slot_ne (Or.inr (wd101 V)) (Or.inr (wd103 V)) (by decide) (t := (.object "java/util/List")) (t' := (.object "java/lang/String")) (by decide) (by decide))))
  have K13 : Keep h0 h8_ [p0] := (Keep.wr (Keep.wr (Keep.refl h0 [p0]) W4 (Or.inl (List.mem_of_getElem? (i := 0) rfl))) W9 (Or.inl (List.mem_of_getElem? (i := 0) rfl)))
  exact G.retV H8 rfl D27_14 (so := []) all0 (by decide) (by decide) ⟨rfl, rfl, K13, (fun O n d w F hn0 hn1 => (Fld.other W9 (Fld.other W4 F (Or.inr hn0)) (Or.inr hn1))), F11, F12, F10⟩
set_option maxRecDepth 65536 in
set_option maxHeartbeats 40000000 in
theorem m15_size (V : Env1 Z a0 n0 uu0 uu1 uu2 uu3 uu4 uu5) (p0 : Addr) (h0 : Heap) (hO : Old Z n0 h0) (f0 : Fld Z h0 p0 "java/util/ArrayList" "size" "I" (.int (3 : Int32))) :
    Met Z a0 ELs True n0 l (⟨"java/util/ArrayList", "size", "()I"⟩ : MethodName) jdk_38_method_8_code 1 (Option.some FieldType.int) ({ frames := 0, cells := 0, slots := 0, locals := 0 } : Room) #[(.ref p0)] h0 [] (fun v h so => (v = some (.int (3 : Int32)) ∧ so = [] ∧ h0 = h)) := by
  refine Met.of (EWl V) (by first | decide +kernel | rfl) hO (L0 := #[.val (.ref p0)]) rfl ?_
  intro p e s m below meth c T H
  show Go p e below _ (T.setTop (mkF m 0 #[.val (.ref p0)] []))
  refine G.aloadN H D15_0 (pc' := 1) rfl rfl rfl ?_
  refine G.getF H (wd69 V) Via.refl f0 D15_1 (pc' := 4) rfl ?_
  intro T1 H2
  exact G.retI H2 rfl D15_4 (so := []) all0 (by decide) (by decide) ⟨rfl, rfl, rfl⟩
set_option maxRecDepth 65536 in
set_option maxHeartbeats 40000000 in
theorem m16_checkIndex (V : Env1 Z a0 n0 uu0 uu1 uu2 uu3 uu4 uu5)  (h0 : Heap) (hO : Old Z n0 h0)  :
    Met Z a0 ELs True n0 l (⟨"jdk/internal/util/Preconditions", "checkIndex", "(IILjava/util/function/BiFunction;)I"⟩ : MethodName) jdk_41_method_11_code 3 (Option.some FieldType.int) ({ frames := 0, cells := 0, slots := 0, locals := 0 } : Room) #[(.int (0 : Int32)), (.int (3 : Int32)), .null] h0 [] (fun v h so => (v = some (.int (0 : Int32)) ∧ so = [] ∧ h0 = h)) := by
  refine Met.of (EWl V) (by first | decide +kernel | rfl) hO (L0 := #[.val (.int (0 : Int32)), .val (.int (3 : Int32)), .val .null]) rfl ?_
  intro p e s m below meth c T H
  show Go p e below _ (T.setTop (mkF m 0 #[.val (.int (0 : Int32)), .val (.int (3 : Int32)), .val .null] []))
  refine G.iloadN H D18_0 (pc' := 1) rfl rfl ?_
  refine G.ifNo H D18_1 (pc' := 4) rfl (by decide) ?_
  refine G.iloadN H D18_4 (pc' := 5) rfl rfl ?_
  refine G.iloadN H D18_5 (pc' := 6) rfl rfl ?_
  refine G.icmpYes H D18_6 (by decide) (by decide) (pc' := 16) rfl ?_
  refine G.iloadN H D18_16 (pc' := 17) rfl rfl ?_
  exact G.retI H rfl D18_17 (so := []) all0 (by decide) (by decide) ⟨rfl, rfl, rfl⟩
set_option maxRecDepth 65536 in
set_option maxHeartbeats 40000000 in
theorem m17_checkIndex (V : Env1 Z a0 n0 uu0 uu1 uu2 uu3 uu4 uu5)  (h0 : Heap) (hO : Old Z n0 h0)  :
    Met Z a0 ELs True n0 l (⟨"java/util/Objects", "checkIndex", "(II)I"⟩ : MethodName) jdk_31_method_17_code 2 (Option.some FieldType.int) ({ frames := 1, cells := 0, slots := 0, locals := 14 } : Room) #[(.int (0 : Int32)), (.int (3 : Int32))] h0 [] (fun v h so => (v = some (.int (0 : Int32)) ∧ so = [] ∧ h0 = h)) := by
  refine Met.of (EWl V) (by first | decide +kernel | rfl) hO (L0 := #[.val (.int (0 : Int32)), .val (.int (3 : Int32))]) rfl ?_
  intro p e s m below meth c T H
  show Go p e below _ (T.setTop (mkF m 0 #[.val (.int (0 : Int32)), .val (.int (3 : Int32))] []))
  refine G.iloadN H D6_0 (pc' := 1) rfl rfl ?_
  refine G.iloadN H D6_1 (pc' := 2) rfl rfl ?_
  refine G.aconstNull H D6_2 (pc' := 3) rfl ?_
  refine G.callS H (m16_checkIndex V h0 H.old) (wd132 V) (wd133 V) (wd134 V) (wd135 V) (by decide) (argsL := [(.int (0 : Int32)), (.int (3 : Int32)), .null]) (rest := []) (W := 0) rfl rfl (lenOf (pd_9) rfl) rfl rfl D6_3 (pc' := 6) rfl (by decide) (by decide) (by decide) (by decide) all0 ?_
  intro T1 h1_ v2 s3 H1 Q4
  obtain ⟨rfl, rfl, rfl⟩ := Q4
  show Go p e below _ (T1.setTop (mkF m 6 #[.val (.int (0 : Int32)), .val (.int (3 : Int32))] [(.int (0 : Int32))]))
  exact G.retI H1 rfl D6_6 (so := []) all0 (by decide) (by decide) ⟨rfl, rfl, rfl⟩
set_option maxRecDepth 65536 in
set_option maxHeartbeats 40000000 in
theorem m18_elementData (V : Env1 Z a0 n0 uu0 uu1 uu2 uu3 uu4 uu5) (p0 : Addr) (p1 : Addr) (c0 : ClassId) (p2 : Addr) (p3 : Addr) (p4 : Addr) (h0 : Heap) (hO : Old Z n0 h0) (f0 : Fld Z h0 p0 "java/util/ArrayList" "elementData" "[Ljava/lang/Object;" (.ref p1)) (f1 : Arv Z h0 p1 c0 (.object "java/lang/Object") (10 : Int32) [(.ref p2), (.ref p3), (.ref p4), .null, .null, .null, .null, .null, .null, .null] .null) :
    Met Z a0 ELs True n0 l (⟨"java/util/ArrayList", "elementData", "(I)Ljava/lang/Object;"⟩ : MethodName) jdk_38_method_18_code 2 (Option.some (FieldType.object "java/lang/Object")) ({ frames := 0, cells := 0, slots := 0, locals := 0 } : Room) #[(.ref p0), (.int (0 : Int32))] h0 [] (fun v h so => (v = some (.ref p2) ∧ so = [] ∧ h0 = h)) := by
  refine Met.of (EWl V) (by first | decide +kernel | rfl) hO (L0 := #[.val (.ref p0), .val (.int (0 : Int32))]) rfl ?_
  intro p e s m below meth c T H
  show Go p e below _ (T.setTop (mkF m 0 #[.val (.ref p0), .val (.int (0 : Int32))] []))
  refine G.aloadN H D7_0 (pc' := 1) rfl rfl rfl ?_
  refine G.getF H (wd56 V) Via.refl f0 D7_1 (pc' := 4) rfl ?_
  intro T1 H2
  refine G.iloadN H2 D7_4 (pc' := 5) rfl rfl ?_
  refine G.aaloadG H2 f1 rfl (j := (0 : Int32)) (v := (.ref p2)) (by decide) rfl D7_5 (pc' := 6) rfl ?_
  exact G.retA H2 (t := (.object "java/lang/Object")) rfl rfl rfl D7_6 (so := []) all0 (by decide) (by decide) ⟨rfl, rfl, rfl⟩
set_option maxRecDepth 65536 in
set_option maxHeartbeats 40000000 in
theorem m19_get (V : Env1 Z a0 n0 uu0 uu1 uu2 uu3 uu4 uu5) (p0 : Addr) (p1 : Addr) (c0 : ClassId) (p2 : Addr) (p3 : Addr) (p4 : Addr) (h0 : Heap) (hO : Old Z n0 h0) (f0 : Fld Z h0 p0 "java/util/ArrayList" "size" "I" (.int (3 : Int32))) (f1 : Exa Z h0 p0 "java/util/ArrayList") (f2 : Fld Z h0 p0 "java/util/ArrayList" "elementData" "[Ljava/lang/Object;" (.ref p1)) (f3 : Arv Z h0 p1 c0 (.object "java/lang/Object") (10 : Int32) [(.ref p2), (.ref p3), (.ref p4), .null, .null, .null, .null, .null, .null, .null] .null) :
    Met Z a0 ELs True n0 l (⟨"java/util/ArrayList", "get", "(I)Ljava/lang/Object;"⟩ : MethodName) jdk_38_method_20_code 2 (Option.some (FieldType.object "java/lang/Object")) ({ frames := 2, cells := 0, slots := 0, locals := 27 } : Room) #[(.ref p0), (.int (0 : Int32))] h0 [] (fun v h so => (v = some (.ref p2) ∧ so = [] ∧ h0 = h)) := by
  refine Met.of (EWl V) (by first | decide +kernel | rfl) hO (L0 := #[.val (.ref p0), .val (.int (0 : Int32))]) rfl ?_
  intro p e s m below meth c T H
  show Go p e below _ (T.setTop (mkF m 0 #[.val (.ref p0), .val (.int (0 : Int32))] []))
  refine G.iloadN H D8_0 (pc' := 1) rfl rfl ?_
  refine G.aloadN H D8_1 (pc' := 2) rfl rfl rfl ?_
  refine G.getF H (wd69 V) Via.refl f0 D8_2 (pc' := 5) rfl ?_
  intro T1 H2
  refine G.callS H2 (m17_checkIndex V h0 H2.old) (wd128 V) (wd129 V) (wd130 V) (wd131 V) (by decide) (argsL := [(.int (0 : Int32)), (.int (3 : Int32))]) (rest := []) (W := 0) rfl rfl (lenOf (pd_2) rfl) rfl rfl D8_5 (pc' := 8) rfl (by decide) (by decide) (by decide) (by decide) all0 ?_
  intro T3 h3_ v4 s5 H3 Q6
  obtain ⟨rfl, rfl, rfl⟩ := Q6
  show Go p e below _ (T3.setTop (mkF m 8 #[.val (.ref p0), .val (.int (0 : Int32))] [(.int (0 : Int32))]))
  refine G.pop H3 D8_8 (pc' := 9) rfl rfl ?_
  refine G.aloadN H3 D8_9 (pc' := 10) rfl rfl rfl ?_
  refine G.iloadN H3 D8_10 (pc' := 11) rfl rfl ?_
  refine G.callV H3 (m18_elementData V p0 p1 c0 p2 p3 p4 h0 H3.old f2 f3) (wd136 V) (wd137 V) (nf_sel (wd139 V)) (wd139 V) (wd138 V) (wd36 V) (wd140 V) (by decide) f1 (argsL := [(.int (0 : Int32))]) (rest := []) (W := 0) rfl rfl (lenOf (pd_10) rfl) rfl rfl D8_11 (pc' := 14) rfl (by decide) (by decide) (by decide) (by decide) all0 ?_
  intro T7 h7_ v8 s9 H7 Q10
  obtain ⟨rfl, rfl, rfl⟩ := Q10
  show Go p e below _ (T7.setTop (mkF m 14 #[.val (.ref p0), .val (.int (0 : Int32))] [(.ref p2)]))
  exact G.retA H7 (t := (.object "java/lang/Object")) rfl rfl rfl D8_14 (so := []) all0 (by decide) (by decide) ⟨rfl, rfl, rfl⟩
set_option maxRecDepth 65536 in
set_option maxHeartbeats 40000000 in
theorem m20_value (V : Env1 Z a0 n0 uu0 uu1 uu2 uu3 uu4 uu5) (p0 : Addr) (p1 : Addr) (p2 : Addr) (p3 : Addr) (c0 : ClassId) (p4 : Addr) (p5 : Addr) (p6 : Addr) (h0 : Heap) (hO : Old Z n0 h0) (f0 : Fld Z h0 p0 "com/example/formboard/formboard/cli/Arguments" "next" "I" (.int (0 : Int32))) (f1 : Fld Z h0 p0 "com/example/formboard/formboard/cli/Arguments" "args" "Ljava/util/List;" (.ref p2)) (f2 : Exa Z h0 p2 "java/util/ArrayList") (f3 : Fld Z h0 p2 "java/util/ArrayList" "size" "I" (.int (3 : Int32))) (f4 : Exa Z h0 p0 "com/example/formboard/formboard/cli/Arguments") (g5 : n0 ≤ p0) (f6 : Fld Z h0 p2 "java/util/ArrayList" "elementData" "[Ljava/lang/Object;" (.ref p3)) (f7 : Arv Z h0 p3 c0 (.object "java/lang/Object") (10 : Int32) [(.ref p4), (.ref p5), (.ref p6), .null, .null, .null, .null, .null, .null, .null] .null) (q8 : p3 ≠ p0) (f9 : Exa Z h0 p4 "java/lang/String") :
    Met Z a0 ELs True n0 l (⟨"com/example/formboard/formboard/cli/Arguments", "value", "(Ljava/lang/String;)Ljava/lang/String;"⟩ : MethodName) prog_1_method_4_code 2 (Option.some (FieldType.object "java/lang/String")) ({ frames := 3, cells := 0, slots := 0, locals := 40 } : Room) #[(.ref p0), (.ref p1)] h0 [] (fun v h so => (v = some (.ref p4) ∧ so = [] ∧ Keep h0 h [p0] ∧ (∀ (O n d : String) (w : Value), Fld Z h0 p0 O n d w → RoadKit.slotOf Z O n d ≠ RoadKit.slotOf Z "com/example/formboard/formboard/cli/Arguments" "next" "I" → Fld Z h p0 O n d w) ∧ Fld Z h p0 "com/example/formboard/formboard/cli/Arguments" "next" "I" (.int (1 : Int32)) ∧ Fld Z h p0 "com/example/formboard/formboard/cli/Arguments" "args" "Ljava/util/List;" (.ref p2) ∧ Exa Z h p0 "com/example/formboard/formboard/cli/Arguments")) := by
  refine Met.of (EWl V) (by first | decide +kernel | rfl) hO (L0 := #[.val (.ref p0), .val (.ref p1)]) rfl ?_
  intro p e s m below meth c T H
  show Go p e below _ (T.setTop (mkF m 0 #[.val (.ref p0), .val (.ref p1)] []))
  refine G.aloadN H D29_0 (pc' := 1) rfl rfl rfl ?_
  refine G.getF H (wd110 V) Via.refl f0 D29_1 (pc' := 4) rfl ?_
  intro T1 H2
  refine G.aloadN H2 D29_4 (pc' := 5) rfl rfl rfl ?_
  refine G.getF H2 (wd100 V) Via.refl f1 D29_5 (pc' := 8) rfl ?_
  intro T3 H4
  refine G.callF H4 (xi := (⟨"java/util/List", "size", "()I"⟩ : MethodName)) (m15_size V p2 h0 H4.old f3) (wd112 V) (wd113 V) (fun s2 aa hZ => Jvm.Free.ULB.iface_rides (U := s2) hZ.alike (wd114 V)) (wd115 V) (wd116 V) (wd117 V) (wd118 V) (wd65 V) (wd36 V) (wd119 V) (by decide) f2 (argsL := []) (rest := [(.int (0 : Int32))]) (W := 1) rfl rfl (lenOf (pd_8) rfl) rfl rfl D29_8 (pc' := 13) rfl (by decide) (by decide) (by decide) (by decide) all0 ?_
  intro T5 h5_ v6 s7 H5 Q8
  obtain ⟨rfl, rfl, rfl⟩ := Q8
  show Go p e below _ (T5.setTop (mkF m 13 #[.val (.ref p0), .val (.ref p1)] [(.int (3 : Int32)), (.int (0 : Int32))]))
  refine G.icmpYes H5 D29_13 (by decide) (by decide) (pc' := 34) rfl ?_
  refine G.aloadN H5 D29_34 (pc' := 35) rfl rfl rfl ?_
  refine G.getF H5 (wd100 V) Via.refl f1 D29_35 (pc' := 38) rfl ?_
  intro T9 H10
  refine G.aloadN H10 D29_38 (pc' := 39) rfl rfl rfl ?_
  refine G.dup H10 D29_39 (pc' := 40) rfl rfl ?_
  refine G.getF H10 (wd110 V) Via.refl f0 D29_40 (pc' := 43) rfl ?_
  intro T11 H12
  refine G.dupX1 H12 D29_43 (pc' := 44) rfl rfl rfl ?_
  refine G.iconst H12 D29_44 (pc' := 45) rfl (v := (1 : Int32)) rfl ?_
  refine G.iadd H12 D29_45 (pc' := 46) rfl ?_
  show Go p e below _ (T11.setTop (mkF m 46 #[.val (.ref p0), .val (.ref p1)] [(.int (1 : Int32)), (.ref p0), (.int (0 : Int32)), (.ref p2)]))
  refine G.putF H12 (wd110 V) Via.refl f0 f4 (Or.inl (wd111 V)) (wd94 V) (ty := .int) (by decide) rfl rfl g5 (Sf.exa f4) D29_46 (pc' := 49) rfl ?_
  intro T13 h13_ H13 W14
  have F15 : Fld Z h13_ p0 "com/example/formboard/formboard/cli/Arguments" "next" "I" (.int (1 : Int32)) := Fld.same W14 f0
  have F16 := (Exa.wr W14 f2)
  have F17 := (Exa.wr W14 f4)
  have N18 : p2 ≠ p0 := Exa.ne F16 F17 (by decide)
  have F19 := (Fld.other W14 f3 (Or.inl N18))
  have F20 := (Fld.other W14 f6 (Or.inl N18))
  have F21 := (Arv.other f7 W14 q8)
  refine G.callF H13 (xi := (⟨"java/util/List", "get", "(I)Ljava/lang/Object;"⟩ : MethodName)) (m19_get V p2 p3 c0 p4 p5 p6 h13_ H13.old F19 F16 F20 F21) (wd120 V) (wd121 V) (fun s2 aa hZ => Jvm.Free.ULB.iface_rides (U := s2) hZ.alike (wd122 V)) (wd123 V) (wd124 V) (wd125 V) (wd126 V) (wd65 V) (wd36 V) (wd127 V) (by decide) F16 (argsL := [(.int (0 : Int32))]) (rest := []) (W := 0) rfl rfl (lenOf (pd_10) rfl) rfl rfl D29_49 (pc' := 54) rfl (by decide) (by decide) (by decide) (by decide) all0 ?_
  intro T22 h22_ v23 s24 H22 Q25
  obtain ⟨rfl, rfl, rfl⟩ := Q25
  show Go p e below _ (T22.setTop (mkF m 54 #[.val (.ref p0), .val (.ref p1)] [(.ref p4)]))
  have F28 := (Exa.wr W14 f9)
  refine G.castY H22 (wd141 V) (Ins.self F28) D29_54 (pc' := 57) rfl ?_
  intro T26 H27
  have F29 := (Fld.other W14 f1 (Or.inr (slot_ne (Or.inr (wd101 V)) (Or.inl (wd111 V)) (by decide) (t := (.object "java/util/List")) (t' := .int) (by decide) (by decide))))
  have K30 : Keep h0 h13_ [p0] := (Keep.wr (Keep.refl h0 [p0]) W14 (Or.inl (List.mem_of_getElem? (i := 0) rfl)))
  exact G.retA H27 (t := (.object "java/lang/String")) rfl rfl rfl D29_57 (so := []) all0 (by decide) (by decide) ⟨rfl, rfl, K30, (fun O n d w F hn0 => (Fld.other W14 F (Or.inr hn0))), F15, F29, F17⟩
set_option maxRecDepth 65536 in
set_option maxHeartbeats 40000000 in
theorem m21_equals (V : Env1 Z a0 n0 uu0 uu1 uu2 uu3 uu4 uu5) (p0 : Addr) (h0 : Heap) (hO : Old Z n0 h0)  :
    Met Z a0 ELs True n0 l (⟨"java/lang/String", "equals", "(Ljava/lang/Object;)Z"⟩ : MethodName) jdk_42_method_66_code 3 (Option.some FieldType.boolean) ({ frames := 0, cells := 0, slots := 0, locals := 0 } : Room) #[(.ref p0), (.ref p0)] h0 [] (fun v h so => (v = some (.int (1 : Int32)) ∧ so = [] ∧ h0 = h)) := by
  refine Met.of (EWl V) (by first | decide +kernel | rfl) hO (L0 := #[.val (.ref p0), .val (.ref p0), .unset]) rfl ?_
  intro p e s m below meth c T H
  show Go p e below _ (T.setTop (mkF m 0 #[.val (.ref p0), .val (.ref p0), .unset] []))
  refine G.aloadN H D21_0 (pc' := 1) rfl rfl rfl ?_
  refine G.aloadN H D21_1 (pc' := 2) rfl rfl rfl ?_
  refine G.acmpNo H D21_2 (pc' := 5) rfl rfl rfl (XT.aa_ne_f rfl) ?_
  refine G.iconst H D21_5 (pc' := 6) rfl (v := (1 : Int32)) rfl ?_
  exact G.retN H (t := .boolean) rfl (by decide) D21_6 (so := []) all0 (by decide) (by decide) ⟨rfl, rfl, rfl⟩
set_option maxRecDepth 65536 in
set_option maxHeartbeats 40000000 in
theorem m22_subListRangeCheck (V : Env1 Z a0 n0 uu0 uu1 uu2 uu3 uu4 uu5)  (h0 : Heap) (hO : Old Z n0 h0)  :
    Met Z a0 ELs False n0 l (⟨"java/util/AbstractList", "subListRangeCheck", "(III)V"⟩ : MethodName) jdk_39_method_15_code 3 (Option.none : Option FieldType) ({ frames := 0, cells := 0, slots := 0, locals := 0 } : Room) #[(.int (1 : Int32)), (.int (3 : Int32)), (.int (3 : Int32))] h0 [] (fun v h so => (v = none ∧ so = [] ∧ h0 = h)) := by
  refine Met.of (EWl V) (by first | decide +kernel | rfl) hO (L0 := #[.val (.int (1 : Int32)), .val (.int (3 : Int32)), .val (.int (3 : Int32))]) rfl ?_
  intro p e s m below meth c T H
  show Go p e below _ (T.setTop (mkF m 0 #[.val (.int (1 : Int32)), .val (.int (3 : Int32)), .val (.int (3 : Int32))] []))
  refine G.iloadN H D16_0 (pc' := 1) rfl rfl ?_
  refine G.ifYes H D16_1 (by decide) (by decide) (pc' := 31) rfl ?_
  refine G.iloadN H D16_31 (pc' := 32) rfl rfl ?_
  refine G.iloadN H D16_32 (pc' := 33) rfl rfl ?_
  refine G.icmpYes H D16_33 (by decide) (by decide) (pc' := 63) rfl ?_
  refine G.iloadN H D16_63 (pc' := 64) rfl rfl ?_
  refine G.iloadN H D16_64 (pc' := 65) rfl rfl ?_
  refine G.icmpYes H D16_65 (by decide) (by decide) (pc' := 109) rfl ?_
  exact G.retV H rfl D16_109 (so := []) all0 (by decide) (by decide) ⟨rfl, rfl, rfl⟩
set_option maxRecDepth 65536 in
set_option maxHeartbeats 40000000 in
theorem m23_init (V : Env1 Z a0 n0 uu0 uu1 uu2 uu3 uu4 uu5) (p0 : Addr) (h0 : Heap) (hO : Old Z n0 h0) (f0 : Exa Z h0 p0 "java/util/ArrayList$SubList") (f1 : Fld Z h0 p0 "java/util/AbstractList" "modCount" "I" (.int (0 : Int32))) (g2 : n0 ≤ p0) :
    Met Z a0 ELs True n0 l (⟨"java/util/AbstractList", "<init>", "()V"⟩ : MethodName) jdk_39_method_1_code 1 (Option.none : Option FieldType) ({ frames := 2, cells := 0, slots := 0, locals := 24 } : Room) #[(.ref p0)] h0 [] (fun v h so => (v = none ∧ so = [] ∧ Keep h0 h [p0] ∧ (∀ (O n d : String) (w : Value), Fld Z h0 p0 O n d w → RoadKit.slotOf Z O n d ≠ RoadKit.slotOf Z "java/util/AbstractList" "modCount" "I" → Fld Z h p0 O n d w) ∧ Exa Z h p0 "java/util/ArrayList$SubList" ∧ Fld Z h p0 "java/util/AbstractList" "modCount" "I" (.int (0 : Int32)))) := by
  refine Met.of (EWl V) (by first | decide +kernel | rfl) hO (L0 := #[.val (.ref p0)]) rfl ?_
  intro p e s m below meth c T H
  show Go p e below _ (T.setTop (mkF m 0 #[.val (.ref p0)] []))
  refine G.aloadN H D17_0 (pc' := 1) rfl rfl rfl ?_
  refine G.callI H (m2_init V p0 h0 H.old) rfl (wd46 V) (wd47 V) (wd50 V) (wd51 V) (by decide) (a := p0) (argsL := []) (rest := []) (W := 0) rfl rfl (lenOf (pd_1) rfl) rfl rfl D17_1 (pc' := 4) rfl (by decide) (by decide) (by decide) (by decide) all0 ?_
  intro T1 h1_ v2 s3 H1 Q4
  obtain ⟨rfl, rfl, rfl⟩ := Q4
  show Go p e below _ (T1.setTop (mkF m 4 #[.val (.ref p0)] []))
  refine G.aloadN H1 D17_4 (pc' := 5) rfl rfl rfl ?_
  refine G.iconst H1 D17_5 (pc' := 6) rfl (v := (0 : Int32)) rfl ?_
  refine G.putF H1 (wd53 V) Via.refl f1 f0 (Or.inl (wd174 V)) (wd165 V) (ty := .int) (by decide) rfl rfl g2 (Sf.exa f0) D17_6 (pc' := 9) rfl ?_
  intro T5 h5_ H5 W6
  have F7 : Fld Z h5_ p0 "java/util/AbstractList" "modCount" "I" (.int (0 : Int32)) := Fld.same W6 f1
  have F8 := (Exa.wr W6 f0)
  have K9 : Keep h0 h5_ [p0] := (Keep.wr (Keep.refl h0 [p0]) W6 (Or.inl (List.mem_of_getElem? (i := 0) rfl)))
  exact G.retV H5 rfl D17_9 (so := []) all0 (by decide) (by decide) ⟨rfl, rfl, K9, (fun O n d w F hn0 => (Fld.other W6 F (Or.inr hn0))), F8, F7⟩
set_option maxRecDepth 65536 in
set_option maxHeartbeats 40000000 in
theorem m24_init (V : Env1 Z a0 n0 uu0 uu1 uu2 uu3 uu4 uu5) (p0 : Addr) (p1 : Addr) (h0 : Heap) (hO : Old Z n0 h0) (f0 : Exa Z h0 p0 "java/util/ArrayList$SubList") (f1 : Fld Z h0 p0 "java/util/AbstractList" "modCount" "I" (.int (0 : Int32))) (g2 : n0 ≤ p0) (f3 : Fld Z h0 p0 "java/util/ArrayList$SubList" "root" "Ljava/util/ArrayList;" .null) (f4 : Fld Z h0 p0 "java/util/ArrayList$SubList" "parent" "Ljava/util/ArrayList$SubList;" .null) (f5 : Fld Z h0 p0 "java/util/ArrayList$SubList" "offset" "I" (.int (0 : Int32))) (f6 : Fld Z h0 p0 "java/util/ArrayList$SubList" "size" "I" (.int (0 : Int32))) (f7 : Fld Z h0 p1 "java/util/AbstractList" "modCount" "I" (.int (3 : Int32))) (q8 : p1 ≠ p0) :
    Met Z a0 ELs True n0 l (⟨"java/util/ArrayList$SubList", "<init>", "(Ljava/util/ArrayList;II)V"⟩ : MethodName) jdk_130_method_1_code 4 (Option.none : Option FieldType) ({ frames := 3, cells := 0, slots := 0, locals := 36 } : Room) #[(.ref p0), (.ref p1), (.int (1 : Int32)), (.int (3 : Int32))] h0 [] (fun v h so => (v = none ∧ so = [] ∧ Keep h0 h [p0] ∧ (∀ (O n d : String) (w : Value), Fld Z h0 p0 O n d w → RoadKit.slotOf Z O n d ≠ RoadKit.slotOf Z "java/util/AbstractList" "modCount" "I" → RoadKit.slotOf Z O n d ≠ RoadKit.slotOf Z "java/util/ArrayList$SubList" "root" "Ljava/util/ArrayList;" → RoadKit.slotOf Z O n d ≠ RoadKit.slotOf Z "java/util/ArrayList$SubList" "parent" "Ljava/util/ArrayList$SubList;" → RoadKit.slotOf Z O n d ≠ RoadKit.slotOf Z "java/util/ArrayList$SubList" "offset" "I" → RoadKit.slotOf Z O n d ≠ RoadKit.slotOf Z "java/util/ArrayList$SubList" "size" "I" → Fld Z h p0 O n d w) ∧ Exa Z h p0 "java/util/ArrayList$SubList" ∧ Fld Z h p0 "java/util/AbstractList" "modCount" "I" (.int (3 : Int32)) ∧ Fld Z h p0 "java/util/ArrayList$SubList" "root" "Ljava/util/ArrayList;" (.ref p1) ∧ Fld Z h p0 "java/util/ArrayList$SubList" "parent" "Ljava/util/ArrayList$SubList;" .null ∧ Fld Z h p0 "java/util/ArrayList$SubList" "offset" "I" (.int (1 : Int32)) ∧ Fld Z h p0 "java/util/ArrayList$SubList" "size" "I" (.int (2 : Int32)))) := by
  refine Met.of (EWl V) (by first | decide +kernel | rfl) hO (L0 := #[.val (.ref p0), .val (.ref p1), .val (.int (1 : Int32)), .val (.int (3 : Int32))]) rfl ?_
  intro p e s m below meth c T H
  show Go p e below _ (T.setTop (mkF m 0 #[.val (.ref p0), .val (.ref p1), .val (.int (1 : Int32)), .val (.int (3 : Int32))] []))
  refine G.aloadN H D0_0 (pc' := 1) rfl rfl rfl ?_
  refine G.callI H (m23_init V p0 h0 H.old f0 f1 g2) rfl (wd171 V) (wd41 V) (wd44 V) (wd45 V) (by decide) (a := p0) (argsL := []) (rest := []) (W := 0) rfl rfl (lenOf (pd_1) rfl) rfl rfl D0_1 (pc' := 4) rfl (by decide) (by decide) (by decide) (by decide) all0 ?_
  intro T1 h1_ v2 s3 H1 Q4
  obtain ⟨rfl, rfl, K5, U6, F7, F8⟩ := Q4
  show Go p e below _ (T1.setTop (mkF m 4 #[.val (.ref p0), .val (.ref p1), .val (.int (1 : Int32)), .val (.int (3 : Int32))] []))
  refine G.aloadN H1 D0_4 (pc' := 5) rfl rfl rfl ?_
  refine G.aloadN H1 D0_5 (pc' := 6) rfl rfl rfl ?_
  have F9 := (U6 "java/util/ArrayList$SubList" "root" "Ljava/util/ArrayList;" .null f3 (slot_ne (Or.inr (wd176 V)) (Or.inl (wd174 V)) (by decide) (t := (.object "java/util/ArrayList")) (t' := .int) (by decide) (by decide)))
  refine G.putF H1 (wd175 V) Via.refl F9 F7 (Or.inr ⟨(wd176 V), rfl, rfl⟩) (wd165 V) (ty := (.object "java/util/ArrayList")) (by decide) rfl rfl g2 (Sf.exa F7) D0_6 (pc' := 9) rfl ?_
  intro T10 h10_ H10 W11
  have F12 : Fld Z h10_ p0 "java/util/ArrayList$SubList" "root" "Ljava/util/ArrayList;" (.ref p1) := Fld.same W11 F9
  refine G.aloadN H10 D0_9 (pc' := 10) rfl rfl rfl ?_
  refine G.aconstNull H10 D0_10 (pc' := 11) rfl ?_
  have F13 := (Exa.wr W11 F7)
  have F14 := (Fld.other W11 (U6 "java/util/ArrayList$SubList" "parent" "Ljava/util/ArrayList$SubList;" .null f4 (slot_ne (Or.inr (wd178 V)) (Or.inl (wd174 V)) (by decide) (t := (.object "java/util/ArrayList$SubList")) (t' := .int) (by decide) (by decide))) (Or.inr (slot_ne (Or.inr (wd178 V)) (Or.inr (wd176 V)) (by decide) (t := (.object "java/util/ArrayList$SubList")) (t' := (.object "java/util/ArrayList")) (by decide) (by decide))))
  refine G.putF H10 (wd177 V) Via.refl F14 F13 (Or.inr ⟨(wd178 V), rfl, rfl⟩) (wd165 V) (ty := (.object "java/util/ArrayList$SubList")) (by decide) rfl rfl g2 (Sf.exa F13) D0_11 (pc' := 14) rfl ?_
  intro T15 h15_ H15 W16
  have F17 : Fld Z h15_ p0 "java/util/ArrayList$SubList" "parent" "Ljava/util/ArrayList$SubList;" .null := Fld.same W16 F14
  refine G.aloadN H15 D0_14 (pc' := 15) rfl rfl rfl ?_
  refine G.iloadN H15 D0_15 (pc' := 16) rfl rfl ?_
  have F18 := (Exa.wr W16 F13)
  have F19 := (Fld.other W16 (Fld.other W11 (U6 "java/util/ArrayList$SubList" "offset" "I" (.int (0 : Int32)) f5 (slot_ne (Or.inr (wd180 V)) (Or.inl (wd174 V)) (by decide) (t := .int) (t' := .int) (by decide) (by decide))) (Or.inr (slot_ne (Or.inr (wd180 V)) (Or.inr (wd176 V)) (by decide) (t := .int) (t' := (.object "java/util/ArrayList")) (by decide) (by decide)))) (Or.inr (slot_ne (Or.inr (wd180 V)) (Or.inr (wd178 V)) (by decide) (t := .int) (t' := (.object "java/util/ArrayList$SubList")) (by decide) (by decide))))
  refine G.putF H15 (wd179 V) Via.refl F19 F18 (Or.inr ⟨(wd180 V), rfl, rfl⟩) (wd165 V) (ty := .int) (by decide) rfl rfl g2 (Sf.exa F18) D0_16 (pc' := 19) rfl ?_
  intro T20 h20_ H20 W21
  have F22 : Fld Z h20_ p0 "java/util/ArrayList$SubList" "offset" "I" (.int (1 : Int32)) := Fld.same W21 F19
  refine G.aloadN H20 D0_19 (pc' := 20) rfl rfl rfl ?_
  refine G.iloadN H20 D0_20 (pc' := 21) rfl rfl ?_
  refine G.iloadN H20 D0_21 (pc' := 22) rfl rfl ?_
  refine G.isub H20 D0_22 (pc' := 23) rfl ?_
  show Go p e below _ (T20.setTop (mkF m 23 #[.val (.ref p0), .val (.ref p1), .val (.int (1 : Int32)), .val (.int (3 : Int32))] [(.int (2 : Int32)), (.ref p0)]))
  have F23 := (Exa.wr W21 F18)
  have F24 := (Fld.other W21 (Fld.other W16 (Fld.other W11 (U6 "java/util/ArrayList$SubList" "size" "I" (.int (0 : Int32)) f6 (slot_ne (Or.inl (wd182 V)) (Or.inl (wd174 V)) (by decide) (t := .int) (t' := .int) (by decide) (by decide))) (Or.inr (slot_ne (Or.inl (wd182 V)) (Or.inr (wd176 V)) (by decide) (t := .int) (t' := (.object "java/util/ArrayList")) (by decide) (by decide)))) (Or.inr (slot_ne (Or.inl (wd182 V)) (Or.inr (wd178 V)) (by decide) (t := .int) (t' := (.object "java/util/ArrayList$SubList")) (by decide) (by decide)))) (Or.inr (slot_ne (Or.inl (wd182 V)) (Or.inr (wd180 V)) (by decide) (t := .int) (t' := .int) (by decide) (by decide))))
  refine G.putF H20 (wd181 V) Via.refl F24 F23 (Or.inl (wd182 V)) (wd165 V) (ty := .int) (by decide) rfl rfl g2 (Sf.exa F23) D0_23 (pc' := 26) rfl ?_
  intro T25 h25_ H25 W26
  have F27 : Fld Z h25_ p0 "java/util/ArrayList$SubList" "size" "I" (.int (2 : Int32)) := Fld.same W26 F24
  refine G.aloadN H25 D0_26 (pc' := 27) rfl rfl rfl ?_
  refine G.aloadN H25 D0_27 (pc' := 28) rfl rfl rfl ?_
  have K28 : Keep h0 h25_ [p0] := (Keep.wr (Keep.wr (Keep.wr (Keep.wr (Keep.trans (Keep.refl h0 [p0]) K5 (allS (Or.inl (List.mem_of_getElem? (i := 0) rfl)) all0)) W11 (Or.inl (List.mem_of_getElem? (i := 0) rfl))) W16 (Or.inl (List.mem_of_getElem? (i := 0) rfl))) W21 (Or.inl (List.mem_of_getElem? (i := 0) rfl))) W26 (Or.inl (List.mem_of_getElem? (i := 0) rfl)))
  have F29 := (Fld.keep f7 K28 (ninS q8 nin0))
  refine G.getF H25 (wd183 V) (Via.of (wd68 V)) F29 D0_28 (pc' := 31) rfl ?_
  intro T30 H31
  have F32 := (Exa.wr W26 F23)
  have F33 := (Fld.other W26 (Fld.other W21 (Fld.other W16 (Fld.other W11 F8 (Or.inr (slot_ne (Or.inl (wd174 V)) (Or.inr (wd176 V)) (by decide) (t := .int) (t' := (.object "java/util/ArrayList")) (by decide) (by decide)))) (Or.inr (slot_ne (Or.inl (wd174 V)) (Or.inr (wd178 V)) (by decide) (t := .int) (t' := (.object "java/util/ArrayList$SubList")) (by decide) (by decide)))) (Or.inr (slot_ne (Or.inl (wd174 V)) (Or.inr (wd180 V)) (by decide) (t := .int) (t' := .int) (by decide) (by decide)))) (Or.inr (slot_ne (Or.inl (wd174 V)) (Or.inl (wd182 V)) (by decide) (t := .int) (t' := .int) (by decide) (by decide))))
  refine G.putF H31 (wd184 V) (Via.of (wd185 V)) F33 F32 (Or.inl (wd174 V)) (wd165 V) (ty := .int) (by decide) rfl rfl g2 (Sf.exa F32) D0_31 (pc' := 34) rfl ?_
  intro T34 h34_ H34 W35
  have F36 : Fld Z h34_ p0 "java/util/AbstractList" "modCount" "I" (.int (3 : Int32)) := Fld.same W35 F33
  have F37 := (Exa.wr W35 F32)
  have F38 := (Fld.other W35 (Fld.other W26 (Fld.other W21 (Fld.other W16 F12 (Or.inr (slot_ne (Or.inr (wd176 V)) (Or.inr (wd178 V)) (by decide) (t := (.object "java/util/ArrayList")) (t' := (.object "java/util/ArrayList$SubList")) (by decide) (by decide)))) (Or.inr (slot_ne (Or.inr (wd176 V)) (Or.inr (wd180 V)) (by decide) (t := (.object "java/util/ArrayList")) (t' := .int) (by decide) (by decide)))) (Or.inr (slot_ne (Or.inr (wd176 V)) (Or.inl (wd182 V)) (by decide) (t := (.object "java/util/ArrayList")) (t' := .int) (by decide) (by decide)))) (Or.inr (slot_ne (Or.inr (wd176 V)) (Or.inl (wd174 V)) (by decide) (t := (.object "java/util/ArrayList")) (t' := .int) (by decide) (by decide))))
  have F39 := (Fld.other W35 (Fld.other W26 (Fld.other W21 F17 (Or.inr (slot_ne (Or.inr (wd178 V)) (Or.inr (wd180 V)) (by decide) (t := (.object "java/util/ArrayList$SubList")) (t' := .int) (by decide) (by decide)))) (Or.inr (slot_ne (Or.inr (wd178 V)) (Or.inl (wd182 V)) (by decide) (t := (.object "java/util/ArrayList$SubList")) (t' := .int) (by decide) (by decide)))) (Or.inr (slot_ne (Or.inr (wd178 V)) (Or.inl (wd174 V)) (by decide) (t := (.object "java/util/ArrayList$SubList")) (t' := .int) (by decide) (by decide))))
  have F40 := (Fld.other W35 (Fld.other W26 F22 (Or.inr (slot_ne (Or.inr (wd180 V)) (Or.inl (wd182 V)) (by decide) (t := .int) (t' := .int) (by decide) (by decide)))) (Or.inr (slot_ne (Or.inr (wd180 V)) (Or.inl (wd174 V)) (by decide) (t := .int) (t' := .int) (by decide) (by decide))))
  have F41 := (Fld.other W35 F27 (Or.inr (slot_ne (Or.inl (wd182 V)) (Or.inl (wd174 V)) (by decide) (t := .int) (t' := .int) (by decide) (by decide))))
  have K42 : Keep h0 h34_ [p0] := (Keep.wr (Keep.wr (Keep.wr (Keep.wr (Keep.wr (Keep.trans (Keep.refl h0 [p0]) K5 (allS (Or.inl (List.mem_of_getElem? (i := 0) rfl)) all0)) W11 (Or.inl (List.mem_of_getElem? (i := 0) rfl))) W16 (Or.inl (List.mem_of_getElem? (i := 0) rfl))) W21 (Or.inl (List.mem_of_getElem? (i := 0) rfl))) W26 (Or.inl (List.mem_of_getElem? (i := 0) rfl))) W35 (Or.inl (List.mem_of_getElem? (i := 0) rfl)))
  exact G.retV H34 rfl D0_34 (so := []) all0 (by decide) (by decide) ⟨rfl, rfl, K42, (fun O n d w F hn0 hn1 hn2 hn3 hn4 => (Fld.other W35 (Fld.other W26 (Fld.other W21 (Fld.other W16 (Fld.other W11 (U6 O n d w F hn0) (Or.inr hn1)) (Or.inr hn2)) (Or.inr hn3)) (Or.inr hn4)) (Or.inr hn0))), F37, F36, F38, F39, F40, F41⟩
set_option maxRecDepth 65536 in
set_option maxHeartbeats 40000000 in
theorem m25_subList (V : Env1 Z a0 n0 uu0 uu1 uu2 uu3 uu4 uu5) (p0 : Addr) (h0 : Heap) (hO : Old Z n0 h0) (f0 : Fld Z h0 p0 "java/util/ArrayList" "size" "I" (.int (3 : Int32))) (f1 : Fld Z h0 p0 "java/util/AbstractList" "modCount" "I" (.int (3 : Int32))) :
    Met Z a0 ELs True n0 l (⟨"java/util/ArrayList", "subList", "(II)Ljava/util/List;"⟩ : MethodName) jdk_38_method_56_code 3 (Option.some (FieldType.object "java/util/List")) ({ frames := 4, cells := 1, slots := 5, locals := 52 } : Room) #[(.ref p0), (.int (1 : Int32)), (.int (3 : Int32))] h0 [] (fun v h so => (∃ a8 : Addr, v = some (.ref a8) ∧ so = [] ∧ Keep h0 h [] ∧ h0.size ≤ a8 ∧ Exa Z h a8 "java/util/ArrayList$SubList" ∧ Fld Z h a8 "java/util/AbstractList" "modCount" "I" (.int (3 : Int32)) ∧ Fld Z h a8 "java/util/ArrayList$SubList" "root" "Ljava/util/ArrayList;" (.ref p0) ∧ Fld Z h a8 "java/util/ArrayList$SubList" "parent" "Ljava/util/ArrayList$SubList;" .null ∧ Fld Z h a8 "java/util/ArrayList$SubList" "offset" "I" (.int (1 : Int32)) ∧ Fld Z h a8 "java/util/ArrayList$SubList" "size" "I" (.int (2 : Int32)))) := by
  refine Met.of (EWl V) (by first | decide +kernel | rfl) hO (L0 := #[.val (.ref p0), .val (.int (1 : Int32)), .val (.int (3 : Int32))]) rfl ?_
  intro p e s m below meth c T H
  show Go p e below _ (T.setTop (mkF m 0 #[.val (.ref p0), .val (.int (1 : Int32)), .val (.int (3 : Int32))] []))
  refine G.iloadN H D12_0 (pc' := 1) rfl rfl ?_
  refine G.iloadN H D12_1 (pc' := 2) rfl rfl ?_
  refine G.aloadN H D12_2 (pc' := 3) rfl rfl rfl ?_
  refine G.getF H (wd69 V) Via.refl f0 D12_3 (pc' := 6) rfl ?_
  intro T1 H2
  refine G.callSU H2 (y := (⟨"java/util/ArrayList", "subListRangeCheck", "(III)V"⟩ : MethodName)) (owner := "java/util/AbstractList") (m22_subListRangeCheck V h0 H2.old) (wd160 V) (wd161 V) (wd162 V) (wd44 V) (wd163 V) (by decide) (argsL := [(.int (1 : Int32)), (.int (3 : Int32)), (.int (3 : Int32))]) (rest := []) (W := 0) rfl rfl (lenOf (pd_12) rfl) rfl rfl D12_6 (pc' := 9) rfl (by decide) (by decide) (by decide) (by decide) all0 ?_
  intro T3 h3_ v4 s5 H3 Q6
  obtain ⟨rfl, rfl, rfl⟩ := Q6
  show Go p e below _ (T3.setTop (mkF m 9 #[.val (.ref p0), .val (.int (1 : Int32)), .val (.int (3 : Int32))] []))
  refine G.new H3 (wd164 V) (wd165 V) (wd166 V) D12_9 (pc' := 12) rfl (by decide) (by decide) ?_
  intro T7 h7_ a8 ga8 H7 E9 A10 D11
  have na8 := H3.nle ga8
  refine G.dup H7 D12_12 (pc' := 13) rfl rfl ?_
  refine G.aloadN H7 D12_13 (pc' := 14) rfl rfl rfl ?_
  refine G.iloadN H7 D12_14 (pc' := 15) rfl rfl ?_
  refine G.iloadN H7 D12_15 (pc' := 16) rfl rfl ?_
  have F12 : Fld Z h7_ a8 "java/util/AbstractList" "modCount" "I" (.int (0 : Int32)) := D11 (Or.inl (wd174 V)) (ty := .int) (by decide)
  have F13 : Fld Z h7_ a8 "java/util/ArrayList$SubList" "root" "Ljava/util/ArrayList;" .null := D11 (Or.inr (wd176 V)) (ty := (.object "java/util/ArrayList")) (by decide)
  have F14 : Fld Z h7_ a8 "java/util/ArrayList$SubList" "parent" "Ljava/util/ArrayList$SubList;" .null := D11 (Or.inr (wd178 V)) (ty := (.object "java/util/ArrayList$SubList")) (by decide)
  have F15 : Fld Z h7_ a8 "java/util/ArrayList$SubList" "offset" "I" (.int (0 : Int32)) := D11 (Or.inr (wd180 V)) (ty := .int) (by decide)
  have F16 : Fld Z h7_ a8 "java/util/ArrayList$SubList" "size" "I" (.int (0 : Int32)) := D11 (Or.inl (wd182 V)) (ty := .int) (by decide)
  have F17 := (Fld.ext E9 f1)
  have N18 : p0 ≠ a8 := (Nat.ne_of_lt (Nat.lt_of_lt_of_le f0.lt (Nat.le_of_eq ga8.symm)))
  refine G.callI H7 (m24_init V a8 p0 h7_ H7.old A10 F12 na8 F13 F14 F15 F16 F17 N18) rfl (wd167 V) (wd168 V) (wd166 V) (wd170 V) (by decide) (a := a8) (argsL := [(.ref p0), (.int (1 : Int32)), (.int (3 : Int32))]) (rest := [(.ref a8)]) (W := 1) rfl rfl (lenOf (pd_13) rfl) rfl rfl D12_16 (pc' := 19) rfl (by decide) (by decide) (by decide) (by decide) all0 ?_
  intro T19 h19_ v20 s21 H19 Q22
  obtain ⟨rfl, rfl, K23, U24, F25, F26, F27, F28, F29, F30⟩ := Q22
  show Go p e below _ (T19.setTop (mkF m 19 #[.val (.ref p0), .val (.int (1 : Int32)), .val (.int (3 : Int32))] [(.ref a8)]))
  have K31 : Keep h0 h19_ [] := (Keep.trans (Keep.ext (Keep.refl h0 []) E9) K23 (allS (Or.inr (Nat.le_of_eq ga8.symm)) all0))
  exact G.retA H19 (t := (.object "java/util/List")) rfl rfl rfl D12_19 (so := []) all0 (by decide) (by decide) ⟨a8, rfl, rfl, K31, (Nat.le_of_eq ga8.symm), F25, F26, F27, F28, F29, F30⟩
set_option maxRecDepth 65536 in
set_option maxHeartbeats 40000000 in
theorem m26_operands (V : Env1 Z a0 n0 uu0 uu1 uu2 uu3 uu4 uu5) (p0 : Addr) (p1 : Addr) (h0 : Heap) (hO : Old Z n0 h0) (f0 : Fld Z h0 p0 "com/example/formboard/formboard/cli/Arguments" "args" "Ljava/util/List;" (.ref p1)) (f1 : Fld Z h0 p0 "com/example/formboard/formboard/cli/Arguments" "next" "I" (.int (1 : Int32))) (f2 : Exa Z h0 p1 "java/util/ArrayList") (f3 : Fld Z h0 p1 "java/util/ArrayList" "size" "I" (.int (3 : Int32))) (f4 : Fld Z h0 p1 "java/util/AbstractList" "modCount" "I" (.int (3 : Int32))) :
    Met Z a0 ELs True n0 l (⟨"com/example/formboard/formboard/cli/Arguments", "operands", "()Ljava/util/List;"⟩ : MethodName) prog_1_method_5_code 1 (Option.some (FieldType.object "java/util/List")) ({ frames := 5, cells := 1, slots := 5, locals := 66 } : Room) #[(.ref p0)] h0 [] (fun v h so => (∃ a15 : Addr, v = some (.ref a15) ∧ so = [] ∧ Keep h0 h [] ∧ h0.size ≤ a15 ∧ Exa Z h a15 "java/util/ArrayList$SubList" ∧ Fld Z h a15 "java/util/AbstractList" "modCount" "I" (.int (3 : Int32)) ∧ Fld Z h a15 "java/util/ArrayList$SubList" "root" "Ljava/util/ArrayList;" (.ref p1) ∧ Fld Z h a15 "java/util/ArrayList$SubList" "parent" "Ljava/util/ArrayList$SubList;" .null ∧ Fld Z h a15 "java/util/ArrayList$SubList" "offset" "I" (.int (1 : Int32)) ∧ Fld Z h a15 "java/util/ArrayList$SubList" "size" "I" (.int (2 : Int32)))) := by
  refine Met.of (EWl V) (by first | decide +kernel | rfl) hO (L0 := #[.val (.ref p0)]) rfl ?_
  intro p e s m below meth c T H
  show Go p e below _ (T.setTop (mkF m 0 #[.val (.ref p0)] []))
  refine G.aloadN H D30_0 (pc' := 1) rfl rfl rfl ?_
  refine G.getF H (wd100 V) Via.refl f0 D30_1 (pc' := 4) rfl ?_
  intro T1 H2
  refine G.aloadN H2 D30_4 (pc' := 5) rfl rfl rfl ?_
  refine G.getF H2 (wd110 V) Via.refl f1 D30_5 (pc' := 8) rfl ?_
  intro T3 H4
  refine G.aloadN H4 D30_8 (pc' := 9) rfl rfl rfl ?_
  refine G.getF H4 (wd100 V) Via.refl f0 D30_9 (pc' := 12) rfl ?_
  intro T5 H6
  refine G.callF H6 (xi := (⟨"java/util/List", "size", "()I"⟩ : MethodName)) (m15_size V p1 h0 H6.old f3) (wd112 V) (wd113 V) (fun s2 aa hZ => Jvm.Free.ULB.iface_rides (U := s2) hZ.alike (wd114 V)) (wd115 V) (wd116 V) (wd117 V) (wd118 V) (wd65 V) (wd36 V) (wd119 V) (by decide) f2 (argsL := []) (rest := [(.int (1 : Int32)), (.ref p1)]) (W := 2) rfl rfl (lenOf (pd_8) rfl) rfl rfl D30_12 (pc' := 17) rfl (by decide) (by decide) (by decide) (by decide) all0 ?_
  intro T7 h7_ v8 s9 H7 Q10
  obtain ⟨rfl, rfl, rfl⟩ := Q10
  show Go p e below _ (T7.setTop (mkF m 17 #[.val (.ref p0)] [(.int (3 : Int32)), (.int (1 : Int32)), (.ref p1)]))
  refine G.callF H7 (xi := (⟨"java/util/List", "subList", "(II)Ljava/util/List;"⟩ : MethodName)) (m25_subList V p1 h0 H7.old f3 f4) (wd152 V) (wd153 V) (fun s2 aa hZ => Jvm.Free.ULB.iface_rides (U := s2) hZ.alike (wd154 V)) (wd155 V) (wd156 V) (wd157 V) (wd158 V) (wd65 V) (wd36 V) (wd159 V) (by decide) f2 (argsL := [(.int (1 : Int32)), (.int (3 : Int32))]) (rest := []) (W := 0) rfl rfl (lenOf (pd_14) rfl) rfl rfl D30_17 (pc' := 22) rfl (by decide) (by decide) (by decide) (by decide) all0 ?_
  intro T11 h11_ v12 s13 H11 Q14
  obtain ⟨a15, rfl, rfl, K16, g17, F18, F19, F20, F21, F22, F23⟩ := Q14
  have na15 : n0 ≤ a15 := Nat.le_trans H7.le g17
  show Go p e below _ (T11.setTop (mkF m 22 #[.val (.ref p0)] [(.ref a15)]))
  have K24 : Keep h0 h11_ [] := (Keep.trans (Keep.refl h0 []) K16 all0)
  exact G.retA H11 (t := (.object "java/util/List")) rfl rfl rfl D30_22 (so := []) all0 (by decide) (by decide) ⟨a15, rfl, rfl, K24, g17, F18, F19, F20, F21, F22, F23⟩
set_option maxRecDepth 65536 in
set_option maxHeartbeats 40000000 in
theorem m27_checkForComodification (V : Env1 Z a0 n0 uu0 uu1 uu2 uu3 uu4 uu5) (p0 : Addr) (p1 : Addr) (h0 : Heap) (hO : Old Z n0 h0) (f0 : Fld Z h0 p0 "java/util/ArrayList$SubList" "root" "Ljava/util/ArrayList;" (.ref p1)) (f1 : Fld Z h0 p1 "java/util/AbstractList" "modCount" "I" (.int (3 : Int32))) (f2 : Fld Z h0 p0 "java/util/AbstractList" "modCount" "I" (.int (3 : Int32))) :
    Met Z a0 ELs True n0 l (⟨"java/util/ArrayList$SubList", "checkForComodification", "()V"⟩ : MethodName) jdk_130_method_28_code 1 (Option.none : Option FieldType) ({ frames := 0, cells := 0, slots := 0, locals := 0 } : Room) #[(.ref p0)] h0 [] (fun v h so => (v = none ∧ so = [] ∧ h0 = h)) := by
  refine Met.of (EWl V) (by first | decide +kernel | rfl) hO (L0 := #[.val (.ref p0)]) rfl ?_
  intro p e s m below meth c T H
  show Go p e below _ (T.setTop (mkF m 0 #[.val (.ref p0)] []))
  refine G.aloadN H D1_0 (pc' := 1) rfl rfl rfl ?_
  refine G.getF H (wd175 V) Via.refl f0 D1_1 (pc' := 4) rfl ?_
  intro T1 H2
  refine G.getF H2 (wd183 V) (Via.of (wd68 V)) f1 D1_4 (pc' := 7) rfl ?_
  intro T3 H4
  refine G.aloadN H4 D1_7 (pc' := 8) rfl rfl rfl ?_
  refine G.getF H4 (wd184 V) (Via.of (wd185 V)) f2 D1_8 (pc' := 11) rfl ?_
  intro T5 H6
  refine G.icmpYes H6 D1_11 (by decide) (by decide) (pc' := 22) rfl ?_
  exact G.retV H6 rfl D1_22 (so := []) all0 (by decide) (by decide) ⟨rfl, rfl, rfl⟩
set_option maxRecDepth 65536 in
set_option maxHeartbeats 40000000 in
theorem m28_size (V : Env1 Z a0 n0 uu0 uu1 uu2 uu3 uu4 uu5) (p0 : Addr) (p1 : Addr) (h0 : Heap) (hO : Old Z n0 h0) (f0 : Exa Z h0 p0 "java/util/ArrayList$SubList") (f1 : Fld Z h0 p0 "java/util/ArrayList$SubList" "root" "Ljava/util/ArrayList;" (.ref p1)) (f2 : Fld Z h0 p1 "java/util/AbstractList" "modCount" "I" (.int (3 : Int32))) (f3 : Fld Z h0 p0 "java/util/AbstractList" "modCount" "I" (.int (3 : Int32))) (f4 : Fld Z h0 p0 "java/util/ArrayList$SubList" "size" "I" (.int (2 : Int32))) :
    Met Z a0 ELs True n0 l (⟨"java/util/ArrayList$SubList", "size", "()I"⟩ : MethodName) jdk_130_method_5_code 1 (Option.some FieldType.int) ({ frames := 1, cells := 0, slots := 0, locals := 12 } : Room) #[(.ref p0)] h0 [] (fun v h so => (v = some (.int (2 : Int32)) ∧ so = [] ∧ h0 = h)) := by
  refine Met.of (EWl V) (by first | decide +kernel | rfl) hO (L0 := #[.val (.ref p0)]) rfl ?_
  intro p e s m below meth c T H
  show Go p e below _ (T.setTop (mkF m 0 #[.val (.ref p0)] []))
  refine G.aloadN H D3_0 (pc' := 1) rfl rfl rfl ?_
  refine G.callP H (m27_checkForComodification V p0 p1 h0 H.old f1 f2 f3) (wd193 V) (wd194 V) (wd196 V) (wd195 V) (wd166 V) (wd197 V) (by decide) f0 (argsL := []) (rest := []) (W := 0) rfl rfl (lenOf (pd_1) rfl) rfl rfl D3_1 (pc' := 4) rfl (by decide) (by decide) (by decide) (by decide) all0 ?_
  intro T1 h1_ v2 s3 H1 Q4
  obtain ⟨rfl, rfl, rfl⟩ := Q4
  show Go p e below _ (T1.setTop (mkF m 4 #[.val (.ref p0)] []))
  refine G.aloadN H1 D3_4 (pc' := 5) rfl rfl rfl ?_
  refine G.getF H1 (wd181 V) Via.refl f4 D3_5 (pc' := 8) rfl ?_
  intro T5 H6
  exact G.retI H6 rfl D3_8 (so := []) all0 (by decide) (by decide) ⟨rfl, rfl, rfl⟩
set_option maxRecDepth 65536 in
set_option maxHeartbeats 40000000 in
theorem m29_checkIndex (V : Env1 Z a0 n0 uu0 uu1 uu2 uu3 uu4 uu5)  (h0 : Heap) (hO : Old Z n0 h0)  :
    Met Z a0 ELs True n0 l (⟨"jdk/internal/util/Preconditions", "checkIndex", "(IILjava/util/function/BiFunction;)I"⟩ : MethodName) jdk_41_method_11_code 3 (Option.some FieldType.int) ({ frames := 0, cells := 0, slots := 0, locals := 0 } : Room) #[(.int (0 : Int32)), (.int (2 : Int32)), .null] h0 [] (fun v h so => (v = some (.int (0 : Int32)) ∧ so = [] ∧ h0 = h)) := by
  refine Met.of (EWl V) (by first | decide +kernel | rfl) hO (L0 := #[.val (.int (0 : Int32)), .val (.int (2 : Int32)), .val .null]) rfl ?_
  intro p e s m below meth c T H
  show Go p e below _ (T.setTop (mkF m 0 #[.val (.int (0 : Int32)), .val (.int (2 : Int32)), .val .null] []))
  refine G.iloadN H D18_0 (pc' := 1) rfl rfl ?_
  refine G.ifNo H D18_1 (pc' := 4) rfl (by decide) ?_
  refine G.iloadN H D18_4 (pc' := 5) rfl rfl ?_
  refine G.iloadN H D18_5 (pc' := 6) rfl rfl ?_
  refine G.icmpYes H D18_6 (by decide) (by decide) (pc' := 16) rfl ?_
  refine G.iloadN H D18_16 (pc' := 17) rfl rfl ?_
  exact G.retI H rfl D18_17 (so := []) all0 (by decide) (by decide) ⟨rfl, rfl, rfl⟩
set_option maxRecDepth 65536 in
set_option maxHeartbeats 40000000 in
theorem m30_checkIndex (V : Env1 Z a0 n0 uu0 uu1 uu2 uu3 uu4 uu5)  (h0 : Heap) (hO : Old Z n0 h0)  :
    Met Z a0 ELs True n0 l (⟨"java/util/Objects", "checkIndex", "(II)I"⟩ : MethodName) jdk_31_method_17_code 2 (Option.some FieldType.int) ({ frames := 1, cells := 0, slots := 0, locals := 14 } : Room) #[(.int (0 : Int32)), (.int (2 : Int32))] h0 [] (fun v h so => (v = some (.int (0 : Int32)) ∧ so = [] ∧ h0 = h)) := by
  refine Met.of (EWl V) (by first | decide +kernel | rfl) hO (L0 := #[.val (.int (0 : Int32)), .val (.int (2 : Int32))]) rfl ?_
  intro p e s m below meth c T H
  show Go p e below _ (T.setTop (mkF m 0 #[.val (.int (0 : Int32)), .val (.int (2 : Int32))] []))
  refine G.iloadN H D6_0 (pc' := 1) rfl rfl ?_
  refine G.iloadN H D6_1 (pc' := 2) rfl rfl ?_
  refine G.aconstNull H D6_2 (pc' := 3) rfl ?_
  refine G.callS H (m29_checkIndex V h0 H.old) (wd132 V) (wd133 V) (wd134 V) (wd135 V) (by decide) (argsL := [(.int (0 : Int32)), (.int (2 : Int32)), .null]) (rest := []) (W := 0) rfl rfl (lenOf (pd_9) rfl) rfl rfl D6_3 (pc' := 6) rfl (by decide) (by decide) (by decide) (by decide) all0 ?_
  intro T1 h1_ v2 s3 H1 Q4
  obtain ⟨rfl, rfl, rfl⟩ := Q4
  show Go p e below _ (T1.setTop (mkF m 6 #[.val (.int (0 : Int32)), .val (.int (2 : Int32))] [(.int (0 : Int32))]))
  exact G.retI H1 rfl D6_6 (so := []) all0 (by decide) (by decide) ⟨rfl, rfl, rfl⟩
set_option maxRecDepth 65536 in
set_option maxHeartbeats 40000000 in
theorem m31_elementData (V : Env1 Z a0 n0 uu0 uu1 uu2 uu3 uu4 uu5) (p0 : Addr) (p1 : Addr) (c0 : ClassId) (p2 : Addr) (p3 : Addr) (p4 : Addr) (h0 : Heap) (hO : Old Z n0 h0) (f0 : Fld Z h0 p0 "java/util/ArrayList" "elementData" "[Ljava/lang/Object;" (.ref p1)) (f1 : Arv Z h0 p1 c0 (.object "java/lang/Object") (10 : Int32) [(.ref p2), (.ref p3), (.ref p4), .null, .null, .null, .null, .null, .null, .null] .null) :
    Met Z a0 ELs True n0 l (⟨"java/util/ArrayList", "elementData", "(I)Ljava/lang/Object;"⟩ : MethodName) jdk_38_method_18_code 2 (Option.some (FieldType.object "java/lang/Object")) ({ frames := 0, cells := 0, slots := 0, locals := 0 } : Room) #[(.ref p0), (.int (1 : Int32))] h0 [] (fun v h so => (v = some (.ref p3) ∧ so = [] ∧ h0 = h)) := by
  refine Met.of (EWl V) (by first | decide +kernel | rfl) hO (L0 := #[.val (.ref p0), .val (.int (1 : Int32))]) rfl ?_
  intro p e s m below meth c T H
  show Go p e below _ (T.setTop (mkF m 0 #[.val (.ref p0), .val (.int (1 : Int32))] []))
  refine G.aloadN H D7_0 (pc' := 1) rfl rfl rfl ?_
  refine G.getF H (wd56 V) Via.refl f0 D7_1 (pc' := 4) rfl ?_
  intro T1 H2
  refine G.iloadN H2 D7_4 (pc' := 5) rfl rfl ?_
  refine G.aaloadG H2 f1 rfl (j := (1 : Int32)) (v := (.ref p3)) (by decide) rfl D7_5 (pc' := 6) rfl ?_
  exact G.retA H2 (t := (.object "java/lang/Object")) rfl rfl rfl D7_6 (so := []) all0 (by decide) (by decide) ⟨rfl, rfl, rfl⟩
set_option maxRecDepth 65536 in
set_option maxHeartbeats 40000000 in
theorem m32_get (V : Env1 Z a0 n0 uu0 uu1 uu2 uu3 uu4 uu5) (p0 : Addr) (p1 : Addr) (p2 : Addr) (c0 : ClassId) (p3 : Addr) (p4 : Addr) (p5 : Addr) (h0 : Heap) (hO : Old Z n0 h0) (f0 : Fld Z h0 p0 "java/util/ArrayList$SubList" "size" "I" (.int (2 : Int32))) (f1 : Exa Z h0 p0 "java/util/ArrayList$SubList") (f2 : Fld Z h0 p0 "java/util/ArrayList$SubList" "root" "Ljava/util/ArrayList;" (.ref p1)) (f3 : Fld Z h0 p1 "java/util/AbstractList" "modCount" "I" (.int (3 : Int32))) (f4 : Fld Z h0 p0 "java/util/AbstractList" "modCount" "I" (.int (3 : Int32))) (f5 : Fld Z h0 p0 "java/util/ArrayList$SubList" "offset" "I" (.int (1 : Int32))) (f6 : Exa Z h0 p1 "java/util/ArrayList") (f7 : Fld Z h0 p1 "java/util/ArrayList" "elementData" "[Ljava/lang/Object;" (.ref p2)) (f8 : Arv Z h0 p2 c0 (.object "java/lang/Object") (10 : Int32) [(.ref p3), (.ref p4), (.ref p5), .null, .null, .null, .null, .null, .null, .null] .null) :
    Met Z a0 ELs True n0 l (⟨"java/util/ArrayList$SubList", "get", "(I)Ljava/lang/Object;"⟩ : MethodName) jdk_130_method_4_code 2 (Option.some (FieldType.object "java/lang/Object")) ({ frames := 2, cells := 0, slots := 0, locals := 27 } : Room) #[(.ref p0), (.int (0 : Int32))] h0 [] (fun v h so => (v = some (.ref p4) ∧ so = [] ∧ h0 = h)) := by
  refine Met.of (EWl V) (by first | decide +kernel | rfl) hO (L0 := #[.val (.ref p0), .val (.int (0 : Int32))]) rfl ?_
  intro p e s m below meth c T H
  show Go p e below _ (T.setTop (mkF m 0 #[.val (.ref p0), .val (.int (0 : Int32))] []))
  refine G.iloadN H D2_0 (pc' := 1) rfl rfl ?_
  refine G.aloadN H D2_1 (pc' := 2) rfl rfl rfl ?_
  refine G.getF H (wd181 V) Via.refl f0 D2_2 (pc' := 5) rfl ?_
  intro T1 H2
  refine G.callS H2 (m30_checkIndex V h0 H2.old) (wd204 V) (wd129 V) (wd130 V) (wd131 V) (by decide) (argsL := [(.int (0 : Int32)), (.int (2 : Int32))]) (rest := []) (W := 0) rfl rfl (lenOf (pd_2) rfl) rfl rfl D2_5 (pc' := 8) rfl (by decide) (by decide) (by decide) (by decide) all0 ?_
  intro T3 h3_ v4 s5 H3 Q6
  obtain ⟨rfl, rfl, rfl⟩ := Q6
  show Go p e below _ (T3.setTop (mkF m 8 #[.val (.ref p0), .val (.int (0 : Int32))] [(.int (0 : Int32))]))
  refine G.pop H3 D2_8 (pc' := 9) rfl rfl ?_
  refine G.aloadN H3 D2_9 (pc' := 10) rfl rfl rfl ?_
  refine G.callP H3 (m27_checkForComodification V p0 p1 h0 H3.old f2 f3 f4) (wd193 V) (wd194 V) (wd196 V) (wd195 V) (wd166 V) (wd197 V) (by decide) f1 (argsL := []) (rest := []) (W := 0) rfl rfl (lenOf (pd_1) rfl) rfl rfl D2_10 (pc' := 13) rfl (by decide) (by decide) (by decide) (by decide) all0 ?_
  intro T7 h7_ v8 s9 H7 Q10
  obtain ⟨rfl, rfl, rfl⟩ := Q10
  show Go p e below _ (T7.setTop (mkF m 13 #[.val (.ref p0), .val (.int (0 : Int32))] []))
  refine G.aloadN H7 D2_13 (pc' := 14) rfl rfl rfl ?_
  refine G.getF H7 (wd175 V) Via.refl f2 D2_14 (pc' := 17) rfl ?_
  intro T11 H12
  refine G.aloadN H12 D2_17 (pc' := 18) rfl rfl rfl ?_
  refine G.getF H12 (wd179 V) Via.refl f5 D2_18 (pc' := 21) rfl ?_
  intro T13 H14
  refine G.iloadN H14 D2_21 (pc' := 22) rfl rfl ?_
  refine G.iadd H14 D2_22 (pc' := 23) rfl ?_
  show Go p e below _ (T13.setTop (mkF m 23 #[.val (.ref p0), .val (.int (0 : Int32))] [(.int (1 : Int32)), (.ref p1)]))
  refine G.callV H14 (m31_elementData V p1 p2 c0 p3 p4 p5 h0 H14.old f7 f8) (wd205 V) (wd137 V) (nf_sel (wd139 V)) (wd139 V) (wd138 V) (wd36 V) (wd140 V) (by decide) f6 (argsL := [(.int (1 : Int32))]) (rest := []) (W := 0) rfl rfl (lenOf (pd_10) rfl) rfl rfl D2_23 (pc' := 26) rfl (by decide) (by decide) (by decide) (by decide) all0 ?_
  intro T15 h15_ v16 s17 H15 Q18
  obtain ⟨rfl, rfl, rfl⟩ := Q18
  show Go p e below _ (T15.setTop (mkF m 26 #[.val (.ref p0), .val (.int (0 : Int32))] [(.ref p4)]))
  exact G.retA H15 (t := (.object "java/lang/Object")) rfl rfl rfl D2_26 (so := []) all0 (by decide) (by decide) ⟨rfl, rfl, rfl⟩
set_option maxRecDepth 65536 in
set_option maxHeartbeats 40000000 in
theorem m33_checkIndex (V : Env1 Z a0 n0 uu0 uu1 uu2 uu3 uu4 uu5)  (h0 : Heap) (hO : Old Z n0 h0)  :
    Met Z a0 ELs True n0 l (⟨"jdk/internal/util/Preconditions", "checkIndex", "(IILjava/util/function/BiFunction;)I"⟩ : MethodName) jdk_41_method_11_code 3 (Option.some FieldType.int) ({ frames := 0, cells := 0, slots := 0, locals := 0 } : Room) #[(.int (1 : Int32)), (.int (2 : Int32)), .null] h0 [] (fun v h so => (v = some (.int (1 : Int32)) ∧ so = [] ∧ h0 = h)) := by
  refine Met.of (EWl V) (by first | decide +kernel | rfl) hO (L0 := #[.val (.int (1 : Int32)), .val (.int (2 : Int32)), .val .null]) rfl ?_
  intro p e s m below meth c T H
  show Go p e below _ (T.setTop (mkF m 0 #[.val (.int (1 : Int32)), .val (.int (2 : Int32)), .val .null] []))
  refine G.iloadN H D18_0 (pc' := 1) rfl rfl ?_
  refine G.ifNo H D18_1 (pc' := 4) rfl (by decide) ?_
  refine G.iloadN H D18_4 (pc' := 5) rfl rfl ?_
  refine G.iloadN H D18_5 (pc' := 6) rfl rfl ?_
  refine G.icmpYes H D18_6 (by decide) (by decide) (pc' := 16) rfl ?_
  refine G.iloadN H D18_16 (pc' := 17) rfl rfl ?_
  exact G.retI H rfl D18_17 (so := []) all0 (by decide) (by decide) ⟨rfl, rfl, rfl⟩
set_option maxRecDepth 65536 in
set_option maxHeartbeats 40000000 in
theorem m34_checkIndex (V : Env1 Z a0 n0 uu0 uu1 uu2 uu3 uu4 uu5)  (h0 : Heap) (hO : Old Z n0 h0)  :
    Met Z a0 ELs True n0 l (⟨"java/util/Objects", "checkIndex", "(II)I"⟩ : MethodName) jdk_31_method_17_code 2 (Option.some FieldType.int) ({ frames := 1, cells := 0, slots := 0, locals := 14 } : Room) #[(.int (1 : Int32)), (.int (2 : Int32))] h0 [] (fun v h so => (v = some (.int (1 : Int32)) ∧ so = [] ∧ h0 = h)) := by
  refine Met.of (EWl V) (by first | decide +kernel | rfl) hO (L0 := #[.val (.int (1 : Int32)), .val (.int (2 : Int32))]) rfl ?_
  intro p e s m below meth c T H
  show Go p e below _ (T.setTop (mkF m 0 #[.val (.int (1 : Int32)), .val (.int (2 : Int32))] []))
  refine G.iloadN H D6_0 (pc' := 1) rfl rfl ?_
  refine G.iloadN H D6_1 (pc' := 2) rfl rfl ?_
  refine G.aconstNull H D6_2 (pc' := 3) rfl ?_
  refine G.callS H (m33_checkIndex V h0 H.old) (wd132 V) (wd133 V) (wd134 V) (wd135 V) (by decide) (argsL := [(.int (1 : Int32)), (.int (2 : Int32)), .null]) (rest := []) (W := 0) rfl rfl (lenOf (pd_9) rfl) rfl rfl D6_3 (pc' := 6) rfl (by decide) (by decide) (by decide) (by decide) all0 ?_
  intro T1 h1_ v2 s3 H1 Q4
  obtain ⟨rfl, rfl, rfl⟩ := Q4
  show Go p e below _ (T1.setTop (mkF m 6 #[.val (.int (1 : Int32)), .val (.int (2 : Int32))] [(.int (1 : Int32))]))
  exact G.retI H1 rfl D6_6 (so := []) all0 (by decide) (by decide) ⟨rfl, rfl, rfl⟩
set_option maxRecDepth 65536 in
set_option maxHeartbeats 40000000 in
theorem m35_elementData (V : Env1 Z a0 n0 uu0 uu1 uu2 uu3 uu4 uu5) (p0 : Addr) (p1 : Addr) (c0 : ClassId) (p2 : Addr) (p3 : Addr) (p4 : Addr) (h0 : Heap) (hO : Old Z n0 h0) (f0 : Fld Z h0 p0 "java/util/ArrayList" "elementData" "[Ljava/lang/Object;" (.ref p1)) (f1 : Arv Z h0 p1 c0 (.object "java/lang/Object") (10 : Int32) [(.ref p2), (.ref p3), (.ref p4), .null, .null, .null, .null, .null, .null, .null] .null) :
    Met Z a0 ELs True n0 l (⟨"java/util/ArrayList", "elementData", "(I)Ljava/lang/Object;"⟩ : MethodName) jdk_38_method_18_code 2 (Option.some (FieldType.object "java/lang/Object")) ({ frames := 0, cells := 0, slots := 0, locals := 0 } : Room) #[(.ref p0), (.int (2 : Int32))] h0 [] (fun v h so => (v = some (.ref p4) ∧ so = [] ∧ h0 = h)) := by
  refine Met.of (EWl V) (by first | decide +kernel | rfl) hO (L0 := #[.val (.ref p0), .val (.int (2 : Int32))]) rfl ?_
  intro p e s m below meth c T H
  show Go p e below _ (T.setTop (mkF m 0 #[.val (.ref p0), .val (.int (2 : Int32))] []))
  refine G.aloadN H D7_0 (pc' := 1) rfl rfl rfl ?_
  refine G.getF H (wd56 V) Via.refl f0 D7_1 (pc' := 4) rfl ?_
  intro T1 H2
  refine G.iloadN H2 D7_4 (pc' := 5) rfl rfl ?_
  refine G.aaloadG H2 f1 rfl (j := (2 : Int32)) (v := (.ref p4)) (by decide) rfl D7_5 (pc' := 6) rfl ?_
  exact G.retA H2 (t := (.object "java/lang/Object")) rfl rfl rfl D7_6 (so := []) all0 (by decide) (by decide) ⟨rfl, rfl, rfl⟩
set_option maxRecDepth 65536 in
set_option maxHeartbeats 40000000 in
theorem m36_get (V : Env1 Z a0 n0 uu0 uu1 uu2 uu3 uu4 uu5) (p0 : Addr) (p1 : Addr) (p2 : Addr) (c0 : ClassId) (p3 : Addr) (p4 : Addr) (p5 : Addr) (h0 : Heap) (hO : Old Z n0 h0) (f0 : Fld Z h0 p0 "java/util/ArrayList$SubList" "size" "I" (.int (2 : Int32))) (f1 : Exa Z h0 p0 "java/util/ArrayList$SubList") (f2 : Fld Z h0 p0 "java/util/ArrayList$SubList" "root" "Ljava/util/ArrayList;" (.ref p1)) (f3 : Fld Z h0 p1 "java/util/AbstractList" "modCount" "I" (.int (3 : Int32))) (f4 : Fld Z h0 p0 "java/util/AbstractList" "modCount" "I" (.int (3 : Int32))) (f5 : Fld Z h0 p0 "java/util/ArrayList$SubList" "offset" "I" (.int (1 : Int32))) (f6 : Exa Z h0 p1 "java/util/ArrayList") (f7 : Fld Z h0 p1 "java/util/ArrayList" "elementData" "[Ljava/lang/Object;" (.ref p2)) (f8 : Arv Z h0 p2 c0 (.object "java/lang/Object") (10 : Int32) [(.ref p3), (.ref p4), (.ref p5), .null, .null, .null, .null, .null, .null, .null] .null) :
    Met Z a0 ELs True n0 l (⟨"java/util/ArrayList$SubList", "get", "(I)Ljava/lang/Object;"⟩ : MethodName) jdk_130_method_4_code 2 (Option.some (FieldType.object "java/lang/Object")) ({ frames := 2, cells := 0, slots := 0, locals := 27 } : Room) #[(.ref p0), (.int (1 : Int32))] h0 [] (fun v h so => (v = some (.ref p5) ∧ so = [] ∧ h0 = h)) := by
  refine Met.of (EWl V) (by first | decide +kernel | rfl) hO (L0 := #[.val (.ref p0), .val (.int (1 : Int32))]) rfl ?_
  intro p e s m below meth c T H
  show Go p e below _ (T.setTop (mkF m 0 #[.val (.ref p0), .val (.int (1 : Int32))] []))
  refine G.iloadN H D2_0 (pc' := 1) rfl rfl ?_
  refine G.aloadN H D2_1 (pc' := 2) rfl rfl rfl ?_
  refine G.getF H (wd181 V) Via.refl f0 D2_2 (pc' := 5) rfl ?_
  intro T1 H2
  refine G.callS H2 (m34_checkIndex V h0 H2.old) (wd204 V) (wd129 V) (wd130 V) (wd131 V) (by decide) (argsL := [(.int (1 : Int32)), (.int (2 : Int32))]) (rest := []) (W := 0) rfl rfl (lenOf (pd_2) rfl) rfl rfl D2_5 (pc' := 8) rfl (by decide) (by decide) (by decide) (by decide) all0 ?_
  intro T3 h3_ v4 s5 H3 Q6
  obtain ⟨rfl, rfl, rfl⟩ := Q6
  show Go p e below _ (T3.setTop (mkF m 8 #[.val (.ref p0), .val (.int (1 : Int32))] [(.int (1 : Int32))]))
  refine G.pop H3 D2_8 (pc' := 9) rfl rfl ?_
  refine G.aloadN H3 D2_9 (pc' := 10) rfl rfl rfl ?_
  refine G.callP H3 (m27_checkForComodification V p0 p1 h0 H3.old f2 f3 f4) (wd193 V) (wd194 V) (wd196 V) (wd195 V) (wd166 V) (wd197 V) (by decide) f1 (argsL := []) (rest := []) (W := 0) rfl rfl (lenOf (pd_1) rfl) rfl rfl D2_10 (pc' := 13) rfl (by decide) (by decide) (by decide) (by decide) all0 ?_
  intro T7 h7_ v8 s9 H7 Q10
  obtain ⟨rfl, rfl, rfl⟩ := Q10
  show Go p e below _ (T7.setTop (mkF m 13 #[.val (.ref p0), .val (.int (1 : Int32))] []))
  refine G.aloadN H7 D2_13 (pc' := 14) rfl rfl rfl ?_
  refine G.getF H7 (wd175 V) Via.refl f2 D2_14 (pc' := 17) rfl ?_
  intro T11 H12
  refine G.aloadN H12 D2_17 (pc' := 18) rfl rfl rfl ?_
  refine G.getF H12 (wd179 V) Via.refl f5 D2_18 (pc' := 21) rfl ?_
  intro T13 H14
  refine G.iloadN H14 D2_21 (pc' := 22) rfl rfl ?_
  refine G.iadd H14 D2_22 (pc' := 23) rfl ?_
  show Go p e below _ (T13.setTop (mkF m 23 #[.val (.ref p0), .val (.int (1 : Int32))] [(.int (2 : Int32)), (.ref p1)]))
  refine G.callV H14 (m35_elementData V p1 p2 c0 p3 p4 p5 h0 H14.old f7 f8) (wd205 V) (wd137 V) (nf_sel (wd139 V)) (wd139 V) (wd138 V) (wd36 V) (wd140 V) (by decide) f6 (argsL := [(.int (2 : Int32))]) (rest := []) (W := 0) rfl rfl (lenOf (pd_10) rfl) rfl rfl D2_23 (pc' := 26) rfl (by decide) (by decide) (by decide) (by decide) all0 ?_
  intro T15 h15_ v16 s17 H15 Q18
  obtain ⟨rfl, rfl, rfl⟩ := Q18
  show Go p e below _ (T15.setTop (mkF m 26 #[.val (.ref p0), .val (.int (1 : Int32))] [(.ref p5)]))
  exact G.retA H15 (t := (.object "java/lang/Object")) rfl rfl rfl D2_26 (so := []) all0 (by decide) (by decide) ⟨rfl, rfl, rfl⟩
set_option maxRecDepth 65536 in
set_option maxHeartbeats 40000000 in
theorem m37_dashes (V : Env1 Z a0 n0 uu0 uu1 uu2 uu3 uu4 uu5) (x0 : Int32) (h0 : Heap) (hO : Old Z n0 h0)  :
    Met Z a0 ELs True n0 l (⟨"com/example/formboard/formboard/cli/ArgumentsValuePinLaw", "dashes", "(I)Z"⟩ : MethodName) method_3_code 1 (Option.some FieldType.boolean) ({ frames := 0, cells := 0, slots := 0, locals := 0 } : Room) #[(.int x0)] h0 [] (fun v h so => ((x0 &&& (255 : Int32)) = (45 : Int32) ∧ ((XT.ushr x0 (8 : Int32)) &&& (255 : Int32)) = (45 : Int32) ∧ v = some (.int (1 : Int32)) ∧ so = [] ∧ h0 = h) ∨ ((x0 &&& (255 : Int32)) = (45 : Int32) ∧ ¬ ((XT.ushr x0 (8 : Int32)) &&& (255 : Int32)) = (45 : Int32) ∧ v = some (.int (0 : Int32)) ∧ so = [] ∧ h0 = h) ∨ (¬ (x0 &&& (255 : Int32)) = (45 : Int32) ∧ v = some (.int (0 : Int32)) ∧ so = [] ∧ h0 = h)) := by
  refine Met.of (EWl V) (by first | decide +kernel | rfl) hO (L0 := #[.val (.int x0)]) rfl ?_
  intro p e s m below meth c T H
  show Go p e below _ (T.setTop (mkF m 0 #[.val (.int x0)] []))
  refine G.iloadN H D26_0 (pc' := 1) rfl rfl ?_
  refine G.sipush H D26_1 (pc' := 4) rfl (v := (255 : Int32)) rfl ?_
  refine G.iand H D26_4 (pc' := 5) rfl ?_
  refine G.bipush H D26_5 (pc' := 7) rfl (v := (45 : Int32)) rfl ?_
  by_cases c1 : (x0 &&& (255 : Int32)) = (45 : Int32)
  ·
    refine G.icmpNo H D26_7 (pc' := 10) rfl (XT.ii_ne_f c1) ?_
    refine G.iloadN H D26_10 (pc' := 11) rfl rfl ?_
    refine G.bipush H D26_11 (pc' := 13) rfl (v := (8 : Int32)) rfl ?_
    refine G.iushr H D26_13 (pc' := 14) rfl ?_
    refine G.sipush H D26_14 (pc' := 17) rfl (v := (255 : Int32)) rfl ?_
    refine G.iand H D26_17 (pc' := 18) rfl ?_
    refine G.bipush H D26_18 (pc' := 20) rfl (v := (45 : Int32)) rfl ?_
    by_cases c2 : ((XT.ushr x0 (8 : Int32)) &&& (255 : Int32)) = (45 : Int32)
    ·
      refine G.icmpNo H D26_20 (pc' := 23) rfl (XT.ii_ne_f c2) ?_
      refine G.iconst H D26_23 (pc' := 24) rfl (v := (1 : Int32)) rfl ?_
      refine G.goto H D26_24 (by decide) (pc' := 28) rfl ?_
      exact G.retN H (t := .boolean) rfl (by decide) D26_28 (so := []) all0 (by decide) (by decide) (Or.inl ⟨c1, c2, rfl, rfl, rfl⟩)
    ·
      refine G.icmpYes H D26_20 (XT.ii_ne_t c2) (by decide) (pc' := 27) rfl ?_
      refine G.iconst H D26_27 (pc' := 28) rfl (v := (0 : Int32)) rfl ?_
      exact G.retN H (t := .boolean) rfl (by decide) D26_28 (so := []) all0 (by decide) (by decide) (Or.inr (Or.inl ⟨c1, c2, rfl, rfl, rfl⟩))
  ·
    refine G.icmpYes H D26_7 (XT.ii_ne_t c1) (by decide) (pc' := 27) rfl ?_
    refine G.iconst H D26_27 (pc' := 28) rfl (v := (0 : Int32)) rfl ?_
    exact G.retN H (t := .boolean) rfl (by decide) D26_28 (so := []) all0 (by decide) (by decide) (Or.inr (Or.inr ⟨c1, rfl, rfl, rfl⟩))
set_option maxRecDepth 65536 in
set_option maxHeartbeats 40000000 in
theorem m38_checkIndex (V : Env1 Z a0 n0 uu0 uu1 uu2 uu3 uu4 uu5)  (h0 : Heap) (hO : Old Z n0 h0)  :
    Met Z a0 ELs True n0 l (⟨"jdk/internal/util/Preconditions", "checkIndex", "(IILjava/util/function/BiFunction;)I"⟩ : MethodName) jdk_41_method_11_code 3 (Option.some FieldType.int) ({ frames := 0, cells := 0, slots := 0, locals := 0 } : Room) #[(.int (1 : Int32)), (.int (3 : Int32)), .null] h0 [] (fun v h so => (v = some (.int (1 : Int32)) ∧ so = [] ∧ h0 = h)) := by
  refine Met.of (EWl V) (by first | decide +kernel | rfl) hO (L0 := #[.val (.int (1 : Int32)), .val (.int (3 : Int32)), .val .null]) rfl ?_
  intro p e s m below meth c T H
  show Go p e below _ (T.setTop (mkF m 0 #[.val (.int (1 : Int32)), .val (.int (3 : Int32)), .val .null] []))
  refine G.iloadN H D18_0 (pc' := 1) rfl rfl ?_
  refine G.ifNo H D18_1 (pc' := 4) rfl (by decide) ?_
  refine G.iloadN H D18_4 (pc' := 5) rfl rfl ?_
  refine G.iloadN H D18_5 (pc' := 6) rfl rfl ?_
  refine G.icmpYes H D18_6 (by decide) (by decide) (pc' := 16) rfl ?_
  refine G.iloadN H D18_16 (pc' := 17) rfl rfl ?_
  exact G.retI H rfl D18_17 (so := []) all0 (by decide) (by decide) ⟨rfl, rfl, rfl⟩
set_option maxRecDepth 65536 in
set_option maxHeartbeats 40000000 in
theorem m39_checkIndex (V : Env1 Z a0 n0 uu0 uu1 uu2 uu3 uu4 uu5)  (h0 : Heap) (hO : Old Z n0 h0)  :
    Met Z a0 ELs True n0 l (⟨"java/util/Objects", "checkIndex", "(II)I"⟩ : MethodName) jdk_31_method_17_code 2 (Option.some FieldType.int) ({ frames := 1, cells := 0, slots := 0, locals := 14 } : Room) #[(.int (1 : Int32)), (.int (3 : Int32))] h0 [] (fun v h so => (v = some (.int (1 : Int32)) ∧ so = [] ∧ h0 = h)) := by
  refine Met.of (EWl V) (by first | decide +kernel | rfl) hO (L0 := #[.val (.int (1 : Int32)), .val (.int (3 : Int32))]) rfl ?_
  intro p e s m below meth c T H
  show Go p e below _ (T.setTop (mkF m 0 #[.val (.int (1 : Int32)), .val (.int (3 : Int32))] []))
  refine G.iloadN H D6_0 (pc' := 1) rfl rfl ?_
  refine G.iloadN H D6_1 (pc' := 2) rfl rfl ?_
  refine G.aconstNull H D6_2 (pc' := 3) rfl ?_
  refine G.callS H (m38_checkIndex V h0 H.old) (wd132 V) (wd133 V) (wd134 V) (wd135 V) (by decide) (argsL := [(.int (1 : Int32)), (.int (3 : Int32)), .null]) (rest := []) (W := 0) rfl rfl (lenOf (pd_9) rfl) rfl rfl D6_3 (pc' := 6) rfl (by decide) (by decide) (by decide) (by decide) all0 ?_
  intro T1 h1_ v2 s3 H1 Q4
  obtain ⟨rfl, rfl, rfl⟩ := Q4
  show Go p e below _ (T1.setTop (mkF m 6 #[.val (.int (1 : Int32)), .val (.int (3 : Int32))] [(.int (1 : Int32))]))
  exact G.retI H1 rfl D6_6 (so := []) all0 (by decide) (by decide) ⟨rfl, rfl, rfl⟩
set_option maxRecDepth 65536 in
set_option maxHeartbeats 40000000 in
theorem m40_get (V : Env1 Z a0 n0 uu0 uu1 uu2 uu3 uu4 uu5) (p0 : Addr) (p1 : Addr) (c0 : ClassId) (p2 : Addr) (p3 : Addr) (p4 : Addr) (h0 : Heap) (hO : Old Z n0 h0) (f0 : Fld Z h0 p0 "java/util/ArrayList" "size" "I" (.int (3 : Int32))) (f1 : Exa Z h0 p0 "java/util/ArrayList") (f2 : Fld Z h0 p0 "java/util/ArrayList" "elementData" "[Ljava/lang/Object;" (.ref p1)) (f3 : Arv Z h0 p1 c0 (.object "java/lang/Object") (10 : Int32) [(.ref p2), (.ref p3), (.ref p4), .null, .null, .null, .null, .null, .null, .null] .null) :
    Met Z a0 ELs True n0 l (⟨"java/util/ArrayList", "get", "(I)Ljava/lang/Object;"⟩ : MethodName) jdk_38_method_20_code 2 (Option.some (FieldType.object "java/lang/Object")) ({ frames := 2, cells := 0, slots := 0, locals := 27 } : Room) #[(.ref p0), (.int (1 : Int32))] h0 [] (fun v h so => (v = some (.ref p3) ∧ so = [] ∧ h0 = h)) := by
  refine Met.of (EWl V) (by first | decide +kernel | rfl) hO (L0 := #[.val (.ref p0), .val (.int (1 : Int32))]) rfl ?_
  intro p e s m below meth c T H
  show Go p e below _ (T.setTop (mkF m 0 #[.val (.ref p0), .val (.int (1 : Int32))] []))
  refine G.iloadN H D8_0 (pc' := 1) rfl rfl ?_
  refine G.aloadN H D8_1 (pc' := 2) rfl rfl rfl ?_
  refine G.getF H (wd69 V) Via.refl f0 D8_2 (pc' := 5) rfl ?_
  intro T1 H2
  refine G.callS H2 (m39_checkIndex V h0 H2.old) (wd128 V) (wd129 V) (wd130 V) (wd131 V) (by decide) (argsL := [(.int (1 : Int32)), (.int (3 : Int32))]) (rest := []) (W := 0) rfl rfl (lenOf (pd_2) rfl) rfl rfl D8_5 (pc' := 8) rfl (by decide) (by decide) (by decide) (by decide) all0 ?_
  intro T3 h3_ v4 s5 H3 Q6
  obtain ⟨rfl, rfl, rfl⟩ := Q6
  show Go p e below _ (T3.setTop (mkF m 8 #[.val (.ref p0), .val (.int (1 : Int32))] [(.int (1 : Int32))]))
  refine G.pop H3 D8_8 (pc' := 9) rfl rfl ?_
  refine G.aloadN H3 D8_9 (pc' := 10) rfl rfl rfl ?_
  refine G.iloadN H3 D8_10 (pc' := 11) rfl rfl ?_
  refine G.callV H3 (m31_elementData V p0 p1 c0 p2 p3 p4 h0 H3.old f2 f3) (wd136 V) (wd137 V) (nf_sel (wd139 V)) (wd139 V) (wd138 V) (wd36 V) (wd140 V) (by decide) f1 (argsL := [(.int (1 : Int32))]) (rest := []) (W := 0) rfl rfl (lenOf (pd_10) rfl) rfl rfl D8_11 (pc' := 14) rfl (by decide) (by decide) (by decide) (by decide) all0 ?_
  intro T7 h7_ v8 s9 H7 Q10
  obtain ⟨rfl, rfl, rfl⟩ := Q10
  show Go p e below _ (T7.setTop (mkF m 14 #[.val (.ref p0), .val (.int (1 : Int32))] [(.ref p3)]))
  exact G.retA H7 (t := (.object "java/lang/Object")) rfl rfl rfl D8_14 (so := []) all0 (by decide) (by decide) ⟨rfl, rfl, rfl⟩
set_option maxRecDepth 65536 in
set_option maxHeartbeats 40000000 in
theorem m41_coder (V : Env1 Z a0 n0 uu0 uu1 uu2 uu3 uu4 uu5) (p0 : Addr) (h0 : Heap) (hO : Old Z n0 h0) (f0 : Fld Z h0 p0 "java/lang/String" "coder" "B" (.int (0 : Int32))) :
    Met Z a0 ELs True n0 l (⟨"java/lang/String", "coder", "()B"⟩ : MethodName) jdk_42_method_152_code 1 (Option.some FieldType.byte) ({ frames := 0, cells := 0, slots := 0, locals := 0 } : Room) #[(.ref p0)] h0 [] (fun v h so => (v = some (.int (0 : Int32)) ∧ so = [] ∧ h0 = h)) := by
  refine Met.of (EWl V) (by first | decide +kernel | rfl) hO (L0 := #[.val (.ref p0)]) rfl ?_
  intro p e s m below meth c T H
  show Go p e below _ (T.setTop (mkF m 0 #[.val (.ref p0)] []))
  refine G.getS H (wd18 V) Via.refl (Sta.ext H.old.2 (hv6 V)) D19_0 (pc' := 3) rfl ?_
  intro T1 H2
  refine G.ifNo H2 D19_3 (pc' := 6) rfl (XT.i0_eq_f (hv7 V)) ?_
  refine G.aloadN H2 D19_6 (pc' := 7) rfl rfl rfl ?_
  refine G.getF H2 (wd30 V) Via.refl f0 D19_7 (pc' := 10) rfl ?_
  intro T3 H4
  refine G.goto H4 D19_10 (by decide) (pc' := 14) rfl ?_
  exact G.retN H4 (t := .byte) rfl (by decide) D19_14 (so := []) all0 (by decide) (by decide) ⟨rfl, rfl, rfl⟩
set_option maxRecDepth 65536 in
set_option maxHeartbeats 40000000 in
theorem m42_length (V : Env1 Z a0 n0 uu0 uu1 uu2 uu3 uu4 uu5) (p0 : Addr) (p1 : Addr) (c0 : ClassId) (x0 : Int32) (x1 : Int32) (h0 : Heap) (hO : Old Z n0 h0) (f0 : Fld Z h0 p0 "java/lang/String" "value" "[B" (.ref p1)) (f1 : Arv Z h0 p1 c0 .byte (2 : Int32) [(.int x0), (.int x1)] (.int 0)) (f2 : Exa Z h0 p0 "java/lang/String") (f3 : Fld Z h0 p0 "java/lang/String" "coder" "B" (.int (0 : Int32))) :
    Met Z a0 ELs True n0 l (⟨"java/lang/String", "length", "()I"⟩ : MethodName) jdk_42_method_54_code 1 (Option.some FieldType.int) ({ frames := 1, cells := 0, slots := 0, locals := 13 } : Room) #[(.ref p0)] h0 [] (fun v h so => (v = some (.int (2 : Int32)) ∧ so = [] ∧ h0 = h)) := by
  refine Met.of (EWl V) (by first | decide +kernel | rfl) hO (L0 := #[.val (.ref p0)]) rfl ?_
  intro p e s m below meth c T H
  show Go p e below _ (T.setTop (mkF m 0 #[.val (.ref p0)] []))
  refine G.aloadN H D20_0 (pc' := 1) rfl rfl rfl ?_
  refine G.getF H (wd32 V) Via.refl f0 D20_1 (pc' := 4) rfl ?_
  intro T1 H2
  refine G.arrlen H2 f1 D20_4 (pc' := 5) rfl ?_
  refine G.aloadN H2 D20_5 (pc' := 6) rfl rfl rfl ?_
  refine G.callV H2 (m41_coder V p0 h0 H2.old f3) (wd232 V) (wd233 V) (nf_sel (wd235 V)) (wd235 V) (wd234 V) (wd7 V) (wd236 V) (by decide) f2 (argsL := []) (rest := [(.int (2 : Int32))]) (W := 1) rfl rfl (lenOf (pd_17) rfl) rfl rfl D20_6 (pc' := 9) rfl (by decide) (by decide) (by decide) (by decide) all0 ?_
  intro T3 h3_ v4 s5 H3 Q6
  obtain ⟨rfl, rfl, rfl⟩ := Q6
  show Go p e below _ (T3.setTop (mkF m 9 #[.val (.ref p0)] [(.int (0 : Int32)), (.int (2 : Int32))]))
  refine G.ishr H3 D20_9 (pc' := 10) rfl ?_
  show Go p e below _ (T3.setTop (mkF m 10 #[.val (.ref p0)] [(.int (2 : Int32))]))
  exact G.retI H3 rfl D20_10 (so := []) all0 (by decide) (by decide) ⟨rfl, rfl, rfl⟩
set_option maxRecDepth 65536 in
set_option maxHeartbeats 40000000 in
theorem m43_length (V : Env1 Z a0 n0 uu0 uu1 uu2 uu3 uu4 uu5) (p0 : Addr) (p1 : Addr) (c0 : ClassId) (h0 : Heap) (hO : Old Z n0 h0) (f0 : Fld Z h0 p0 "java/lang/String" "value" "[B" (.ref p1)) (f1 : Arv Z h0 p1 c0 .byte (2 : Int32) [(.int (45 : Int32)), (.int (45 : Int32))] (.int 0)) (f2 : Exa Z h0 p0 "java/lang/String") (f3 : Fld Z h0 p0 "java/lang/String" "coder" "B" (.int (0 : Int32))) :
    Met Z a0 ELs True n0 l (⟨"java/lang/String", "length", "()I"⟩ : MethodName) jdk_42_method_54_code 1 (Option.some FieldType.int) ({ frames := 1, cells := 0, slots := 0, locals := 13 } : Room) #[(.ref p0)] h0 [] (fun v h so => (v = some (.int (2 : Int32)) ∧ so = [] ∧ h0 = h)) := by
  refine Met.of (EWl V) (by first | decide +kernel | rfl) hO (L0 := #[.val (.ref p0)]) rfl ?_
  intro p e s m below meth c T H
  show Go p e below _ (T.setTop (mkF m 0 #[.val (.ref p0)] []))
  refine G.aloadN H D20_0 (pc' := 1) rfl rfl rfl ?_
  refine G.getF H (wd32 V) Via.refl f0 D20_1 (pc' := 4) rfl ?_
  intro T1 H2
  refine G.arrlen H2 f1 D20_4 (pc' := 5) rfl ?_
  refine G.aloadN H2 D20_5 (pc' := 6) rfl rfl rfl ?_
  refine G.callV H2 (m41_coder V p0 h0 H2.old f3) (wd232 V) (wd233 V) (nf_sel (wd235 V)) (wd235 V) (wd234 V) (wd7 V) (wd236 V) (by decide) f2 (argsL := []) (rest := [(.int (2 : Int32))]) (W := 1) rfl rfl (lenOf (pd_17) rfl) rfl rfl D20_6 (pc' := 9) rfl (by decide) (by decide) (by decide) (by decide) all0 ?_
  intro T3 h3_ v4 s5 H3 Q6
  obtain ⟨rfl, rfl, rfl⟩ := Q6
  show Go p e below _ (T3.setTop (mkF m 9 #[.val (.ref p0)] [(.int (0 : Int32)), (.int (2 : Int32))]))
  refine G.ishr H3 D20_9 (pc' := 10) rfl ?_
  show Go p e below _ (T3.setTop (mkF m 10 #[.val (.ref p0)] [(.int (2 : Int32))]))
  exact G.retI H3 rfl D20_10 (so := []) all0 (by decide) (by decide) ⟨rfl, rfl, rfl⟩
set_option maxRecDepth 65536 in
set_option maxHeartbeats 40000000 in
theorem m44_mismatch (V : Env1 Z a0 n0 uu0 uu1 uu2 uu3 uu4 uu5) (p0 : Addr) (p1 : Addr) (c0 : ClassId) (x0 : Int32) (x1 : Int32) (c1 : ClassId) (h0 : Heap) (hO : Old Z n0 h0) (f0 : Arv Z h0 p0 c0 .byte (2 : Int32) [(.int x0), (.int x1)] (.int 0)) (f1 : Arv Z h0 p1 c1 .byte (2 : Int32) [(.int (45 : Int32)), (.int (45 : Int32))] (.int 0)) (cc2 : x0 = (45 : Int32)) (cc3 : x1 = (45 : Int32)) :
    Met Z a0 ELs True n0 l (⟨"jdk/internal/util/ArraysSupport", "mismatch", "([BI[BII)I"⟩ : MethodName) jdk_48_method_14_code 8 (Option.some FieldType.int) ({ frames := 0, cells := 0, slots := 0, locals := 0 } : Room) #[(.ref p0), (.int (0 : Int32)), (.ref p1), (.int (0 : Int32)), (.int (2 : Int32))] h0 [] (fun v h so => (v = some (.int (-1 : Int32)) ∧ so = [] ∧ h0 = h)) := by
  refine Met.of (EWl V) (by first | decide +kernel | rfl) hO (L0 := #[.val (.ref p0), .val (.int (0 : Int32)), .val (.ref p1), .val (.int (0 : Int32)), .val (.int (2 : Int32)), .unset, .unset, .unset]) rfl ?_
  intro p e s m below meth c T H
  show Go p e below _ (T.setTop (mkF m 0 #[.val (.ref p0), .val (.int (0 : Int32)), .val (.ref p1), .val (.int (0 : Int32)), .val (.int (2 : Int32)), .unset, .unset, .unset] []))
  refine G.iconst H D24_0 (pc' := 1) rfl (v := (0 : Int32)) rfl ?_
  refine G.istore H (L' := #[.val (.ref p0), .val (.int (0 : Int32)), .val (.ref p1), .val (.int (0 : Int32)), .val (.int (2 : Int32)), .val (.int (0 : Int32)), .unset, .unset]) D24_1 (pc' := 3) rfl rfl ?_
  refine G.iload H D24_3 (pc' := 5) rfl rfl ?_
  refine G.bipush H D24_5 (pc' := 7) rfl (v := (7 : Int32)) rfl ?_
  refine G.icmpYes H D24_7 (by decide) (by decide) (pc' := 70) rfl ?_
  refine G.iload H D24_70 (pc' := 72) rfl rfl ?_
  refine G.iload H D24_72 (pc' := 74) rfl rfl ?_
  refine G.icmpNo H D24_74 (pc' := 77) rfl (by decide) ?_
  refine G.aloadN H D24_77 (pc' := 78) rfl rfl rfl ?_
  refine G.iloadN H D24_78 (pc' := 79) rfl rfl ?_
  refine G.iload H D24_79 (pc' := 81) rfl rfl ?_
  refine G.iadd H D24_81 (pc' := 82) rfl ?_
  show Go p e below _ (T.setTop (mkF m 82 #[.val (.ref p0), .val (.int (0 : Int32)), .val (.ref p1), .val (.int (0 : Int32)), .val (.int (2 : Int32)), .val (.int (0 : Int32)), .unset, .unset] [(.int (0 : Int32)), (.ref p0)]))
  refine G.baloadG H f0 (j := (0 : Int32)) (v := (.int x0)) (by decide) rfl D24_82 (pc' := 83) rfl ?_
  refine G.aloadN H D24_83 (pc' := 84) rfl rfl rfl ?_
  refine G.iloadN H D24_84 (pc' := 85) rfl rfl ?_
  refine G.iload H D24_85 (pc' := 87) rfl rfl ?_
  refine G.iadd H D24_87 (pc' := 88) rfl ?_
  show Go p e below _ (T.setTop (mkF m 88 #[.val (.ref p0), .val (.int (0 : Int32)), .val (.ref p1), .val (.int (0 : Int32)), .val (.int (2 : Int32)), .val (.int (0 : Int32)), .unset, .unset] [(.int (0 : Int32)), (.ref p1), (.int x0)]))
  refine G.baloadG H f1 (j := (0 : Int32)) (v := (.int (45 : Int32))) (by decide) rfl D24_88 (pc' := 89) rfl ?_
  refine G.icmpYes H D24_89 (XT.ii_eq_t cc2) (by decide) (pc' := 95) rfl ?_
  refine G.iinc H (v := (1 : Int32)) (L' := #[.val (.ref p0), .val (.int (0 : Int32)), .val (.ref p1), .val (.int (0 : Int32)), .val (.int (2 : Int32)), .val (.int (1 : Int32)), .unset, .unset]) D24_95 (pc' := 98) rfl rfl rfl rfl ?_
  refine G.goto H D24_98 (by decide) (pc' := 70) rfl ?_
  show Go p e below _ (T.setTop (mkF m 70 #[.val (.ref p0), .val (.int (0 : Int32)), .val (.ref p1), .val (.int (0 : Int32)), .val (.int (2 : Int32)), .val (.int (1 : Int32)), .unset, .unset] []))
  refine G.iload H D24_70 (pc' := 72) rfl rfl ?_
  refine G.iload H D24_72 (pc' := 74) rfl rfl ?_
  refine G.icmpNo H D24_74 (pc' := 77) rfl (by decide) ?_
  refine G.aloadN H D24_77 (pc' := 78) rfl rfl rfl ?_
  refine G.iloadN H D24_78 (pc' := 79) rfl rfl ?_
  refine G.iload H D24_79 (pc' := 81) rfl rfl ?_
  refine G.iadd H D24_81 (pc' := 82) rfl ?_
  show Go p e below _ (T.setTop (mkF m 82 #[.val (.ref p0), .val (.int (0 : Int32)), .val (.ref p1), .val (.int (0 : Int32)), .val (.int (2 : Int32)), .val (.int (1 : Int32)), .unset, .unset] [(.int (1 : Int32)), (.ref p0)]))
  refine G.baloadG H f0 (j := (1 : Int32)) (v := (.int x1)) (by decide) rfl D24_82 (pc' := 83) rfl ?_
  refine G.aloadN H D24_83 (pc' := 84) rfl rfl rfl ?_
  refine G.iloadN H D24_84 (pc' := 85) rfl rfl ?_
  refine G.iload H D24_85 (pc' := 87) rfl rfl ?_
  refine G.iadd H D24_87 (pc' := 88) rfl ?_
  show Go p e below _ (T.setTop (mkF m 88 #[.val (.ref p0), .val (.int (0 : Int32)), .val (.ref p1), .val (.int (0 : Int32)), .val (.int (2 : Int32)), .val (.int (1 : Int32)), .unset, .unset] [(.int (1 : Int32)), (.ref p1), (.int x1)]))
  refine G.baloadG H f1 (j := (1 : Int32)) (v := (.int (45 : Int32))) (by decide) rfl D24_88 (pc' := 89) rfl ?_
  refine G.icmpYes H D24_89 (XT.ii_eq_t cc3) (by decide) (pc' := 95) rfl ?_
  refine G.iinc H (v := (2 : Int32)) (L' := #[.val (.ref p0), .val (.int (0 : Int32)), .val (.ref p1), .val (.int (0 : Int32)), .val (.int (2 : Int32)), .val (.int (2 : Int32)), .unset, .unset]) D24_95 (pc' := 98) rfl rfl rfl rfl ?_
  refine G.goto H D24_98 (by decide) (pc' := 70) rfl ?_
  show Go p e below _ (T.setTop (mkF m 70 #[.val (.ref p0), .val (.int (0 : Int32)), .val (.ref p1), .val (.int (0 : Int32)), .val (.int (2 : Int32)), .val (.int (2 : Int32)), .unset, .unset] []))
  refine G.iload H D24_70 (pc' := 72) rfl rfl ?_
  refine G.iload H D24_72 (pc' := 74) rfl rfl ?_
  refine G.icmpYes H D24_74 (by decide) (by decide) (pc' := 101) rfl ?_
  refine G.iconst H D24_101 (pc' := 102) rfl (v := (-1 : Int32)) rfl ?_
  exact G.retI H rfl D24_102 (so := []) all0 (by decide) (by decide) ⟨rfl, rfl, rfl⟩
set_option maxRecDepth 65536 in
set_option maxHeartbeats 40000000 in
theorem m45_startsWith (V : Env1 Z a0 n0 uu0 uu1 uu2 uu3 uu4 uu5) (p0 : Addr) (p1 : Addr) (p2 : Addr) (c0 : ClassId) (x0 : Int32) (x1 : Int32) (p3 : Addr) (c1 : ClassId) (h0 : Heap) (hO : Old Z n0 h0) (f0 : Exa Z h0 p0 "java/lang/String") (f1 : Fld Z h0 p0 "java/lang/String" "value" "[B" (.ref p2)) (f2 : Arv Z h0 p2 c0 .byte (2 : Int32) [(.int x0), (.int x1)] (.int 0)) (f3 : Fld Z h0 p0 "java/lang/String" "coder" "B" (.int (0 : Int32))) (f4 : Exa Z h0 p1 "java/lang/String") (f5 : Fld Z h0 p1 "java/lang/String" "value" "[B" (.ref p3)) (f6 : Arv Z h0 p3 c1 .byte (2 : Int32) [(.int (45 : Int32)), (.int (45 : Int32))] (.int 0)) (f7 : Fld Z h0 p1 "java/lang/String" "coder" "B" (.int (0 : Int32))) (cc8 : x0 = (45 : Int32)) (cc9 : x1 = (45 : Int32)) :
    Met Z a0 ELs True n0 l (⟨"java/lang/String", "startsWith", "(Ljava/lang/String;I)Z"⟩ : MethodName) jdk_42_method_75_code 8 (Option.some FieldType.boolean) ({ frames := 2, cells := 0, slots := 0, locals := 27 } : Room) #[(.ref p0), (.ref p1), (.int (0 : Int32))] h0 [] (fun v h so => (v = some (.int (1 : Int32)) ∧ so = [] ∧ h0 = h)) := by
  refine Met.of (EWl V) (by first | decide +kernel | rfl) hO (L0 := #[.val (.ref p0), .val (.ref p1), .val (.int (0 : Int32)), .unset, .unset, .unset, .unset, .unset]) rfl ?_
  intro p e s m below meth c T H
  show Go p e below _ (T.setTop (mkF m 0 #[.val (.ref p0), .val (.ref p1), .val (.int (0 : Int32)), .unset, .unset, .unset, .unset, .unset] []))
  refine G.iloadN H D22_0 (pc' := 1) rfl rfl ?_
  refine G.ifNo H D22_1 (pc' := 4) rfl (by decide) ?_
  refine G.iloadN H D22_4 (pc' := 5) rfl rfl ?_
  refine G.aloadN H D22_5 (pc' := 6) rfl rfl rfl ?_
  refine G.callV H (m42_length V p0 p2 c0 x0 x1 h0 H.old f1 f2 f0 f3) (wd227 V) (wd228 V) (nf_sel (wd230 V)) (wd230 V) (wd229 V) (wd7 V) (wd231 V) (by decide) f0 (argsL := []) (rest := [(.int (0 : Int32))]) (W := 1) rfl rfl (lenOf (pd_8) rfl) rfl rfl D22_6 (pc' := 9) rfl (by decide) (by decide) (by decide) (by decide) all0 ?_
  intro T1 h1_ v2 s3 H1 Q4
  obtain ⟨rfl, rfl, rfl⟩ := Q4
  show Go p e below _ (T1.setTop (mkF m 9 #[.val (.ref p0), .val (.ref p1), .val (.int (0 : Int32)), .unset, .unset, .unset, .unset, .unset] [(.int (2 : Int32)), (.int (0 : Int32))]))
  refine G.aloadN H1 D22_9 (pc' := 10) rfl rfl rfl ?_
  refine G.callV H1 (m43_length V p1 p3 c1 h0 H1.old f5 f6 f4 f7) (wd227 V) (wd228 V) (nf_sel (wd230 V)) (wd230 V) (wd229 V) (wd7 V) (wd231 V) (by decide) f4 (argsL := []) (rest := [(.int (2 : Int32)), (.int (0 : Int32))]) (W := 2) rfl rfl (lenOf (pd_8) rfl) rfl rfl D22_10 (pc' := 13) rfl (by decide) (by decide) (by decide) (by decide) all0 ?_
  intro T5 h5_ v6 s7 H5 Q8
  obtain ⟨rfl, rfl, rfl⟩ := Q8
  show Go p e below _ (T5.setTop (mkF m 13 #[.val (.ref p0), .val (.ref p1), .val (.int (0 : Int32)), .unset, .unset, .unset, .unset, .unset] [(.int (2 : Int32)), (.int (2 : Int32)), (.int (0 : Int32))]))
  refine G.isub H5 D22_13 (pc' := 14) rfl ?_
  show Go p e below _ (T5.setTop (mkF m 14 #[.val (.ref p0), .val (.ref p1), .val (.int (0 : Int32)), .unset, .unset, .unset, .unset, .unset] [(.int (0 : Int32)), (.int (0 : Int32))]))
  refine G.icmpYes H5 D22_14 (by decide) (by decide) (pc' := 19) rfl ?_
  refine G.aloadN H5 D22_19 (pc' := 20) rfl rfl rfl ?_
  refine G.getF H5 (wd32 V) Via.refl f1 D22_20 (pc' := 23) rfl ?_
  intro T9 H10
  refine G.astoreN H10 (L' := #[.val (.ref p0), .val (.ref p1), .val (.int (0 : Int32)), .val (.ref p2), .unset, .unset, .unset, .unset]) D22_23 (pc' := 24) rfl rfl rfl ?_
  refine G.aloadN H10 D22_24 (pc' := 25) rfl rfl rfl ?_
  refine G.getF H10 (wd32 V) Via.refl f5 D22_25 (pc' := 28) rfl ?_
  intro T11 H12
  refine G.astore H12 (L' := #[.val (.ref p0), .val (.ref p1), .val (.int (0 : Int32)), .val (.ref p2), .val (.ref p3), .unset, .unset, .unset]) D22_28 (pc' := 30) rfl rfl rfl ?_
  refine G.iconst H12 D22_30 (pc' := 31) rfl (v := (0 : Int32)) rfl ?_
  refine G.istore H12 (L' := #[.val (.ref p0), .val (.ref p1), .val (.int (0 : Int32)), .val (.ref p2), .val (.ref p3), .val (.int (0 : Int32)), .unset, .unset]) D22_31 (pc' := 33) rfl rfl ?_
  refine G.aload H12 D22_33 (pc' := 35) rfl rfl rfl ?_
  refine G.arrlen H12 f6 D22_35 (pc' := 36) rfl ?_
  refine G.istore H12 (L' := #[.val (.ref p0), .val (.ref p1), .val (.int (0 : Int32)), .val (.ref p2), .val (.ref p3), .val (.int (0 : Int32)), .val (.int (2 : Int32)), .unset]) D22_36 (pc' := 38) rfl rfl ?_
  refine G.aloadN H12 D22_38 (pc' := 39) rfl rfl rfl ?_
  refine G.callV H12 (m41_coder V p0 h0 H12.old f3) (wd232 V) (wd233 V) (nf_sel (wd235 V)) (wd235 V) (wd234 V) (wd7 V) (wd236 V) (by decide) f0 (argsL := []) (rest := []) (W := 0) rfl rfl (lenOf (pd_17) rfl) rfl rfl D22_39 (pc' := 42) rfl (by decide) (by decide) (by decide) (by decide) all0 ?_
  intro T13 h13_ v14 s15 H13 Q16
  obtain ⟨rfl, rfl, rfl⟩ := Q16
  show Go p e below _ (T13.setTop (mkF m 42 #[.val (.ref p0), .val (.ref p1), .val (.int (0 : Int32)), .val (.ref p2), .val (.ref p3), .val (.int (0 : Int32)), .val (.int (2 : Int32)), .unset] [(.int (0 : Int32))]))
  refine G.istore H13 (L' := #[.val (.ref p0), .val (.ref p1), .val (.int (0 : Int32)), .val (.ref p2), .val (.ref p3), .val (.int (0 : Int32)), .val (.int (2 : Int32)), .val (.int (0 : Int32))]) D22_42 (pc' := 44) rfl rfl ?_
  refine G.iload H13 D22_44 (pc' := 46) rfl rfl ?_
  refine G.aloadN H13 D22_46 (pc' := 47) rfl rfl rfl ?_
  refine G.callV H13 (m41_coder V p1 h0 H13.old f7) (wd232 V) (wd233 V) (nf_sel (wd235 V)) (wd235 V) (wd234 V) (wd7 V) (wd236 V) (by decide) f4 (argsL := []) (rest := [(.int (0 : Int32))]) (W := 1) rfl rfl (lenOf (pd_17) rfl) rfl rfl D22_47 (pc' := 50) rfl (by decide) (by decide) (by decide) (by decide) all0 ?_
  intro T17 h17_ v18 s19 H17 Q20
  obtain ⟨rfl, rfl, rfl⟩ := Q20
  show Go p e below _ (T17.setTop (mkF m 50 #[.val (.ref p0), .val (.ref p1), .val (.int (0 : Int32)), .val (.ref p2), .val (.ref p3), .val (.int (0 : Int32)), .val (.int (2 : Int32)), .val (.int (0 : Int32))] [(.int (0 : Int32)), (.int (0 : Int32))]))
  refine G.icmpNo H17 D22_50 (pc' := 53) rfl (by decide) ?_
  refine G.iload H17 D22_53 (pc' := 55) rfl rfl ?_
  refine G.iconst H17 D22_55 (pc' := 56) rfl (v := (1 : Int32)) rfl ?_
  refine G.icmpYes H17 D22_56 (by decide) (by decide) (pc' := 63) rfl ?_
  refine G.aloadN H17 D22_63 (pc' := 64) rfl rfl rfl ?_
  refine G.iloadN H17 D22_64 (pc' := 65) rfl rfl ?_
  refine G.aload H17 D22_65 (pc' := 67) rfl rfl rfl ?_
  refine G.iconst H17 D22_67 (pc' := 68) rfl (v := (0 : Int32)) rfl ?_
  refine G.iload H17 D22_68 (pc' := 70) rfl rfl ?_
  refine G.callS H17 (m44_mismatch V p2 p3 c0 x0 x1 c1 h0 H17.old f2 f6 cc8 cc9) (wd237 V) (wd238 V) (wd239 V) (wd240 V) (by decide) (argsL := [(.ref p2), (.int (0 : Int32)), (.ref p3), (.int (0 : Int32)), (.int (2 : Int32))]) (rest := []) (W := 0) rfl rfl (lenOf (pd_18) rfl) rfl rfl D22_70 (pc' := 73) rfl (by decide) (by decide) (by decide) (by decide) all0 ?_
  intro T21 h21_ v22 s23 H21 Q24
  obtain ⟨rfl, rfl, rfl⟩ := Q24
  show Go p e below _ (T21.setTop (mkF m 73 #[.val (.ref p0), .val (.ref p1), .val (.int (0 : Int32)), .val (.ref p2), .val (.ref p3), .val (.int (0 : Int32)), .val (.int (2 : Int32)), .val (.int (0 : Int32))] [(.int (-1 : Int32))]))
  refine G.ifNo H21 D22_73 (pc' := 76) rfl (by decide) ?_
  refine G.iconst H21 D22_76 (pc' := 77) rfl (v := (1 : Int32)) rfl ?_
  refine G.goto H21 D22_77 (by decide) (pc' := 81) rfl ?_
  exact G.retN H21 (t := .boolean) rfl (by decide) D22_81 (so := []) all0 (by decide) (by decide) ⟨rfl, rfl, rfl⟩
set_option maxRecDepth 65536 in
set_option maxHeartbeats 40000000 in
theorem m46_startsWith (V : Env1 Z a0 n0 uu0 uu1 uu2 uu3 uu4 uu5) (p0 : Addr) (p1 : Addr) (p2 : Addr) (c0 : ClassId) (x0 : Int32) (x1 : Int32) (p3 : Addr) (c1 : ClassId) (h0 : Heap) (hO : Old Z n0 h0) (f0 : Exa Z h0 p0 "java/lang/String") (f1 : Fld Z h0 p0 "java/lang/String" "value" "[B" (.ref p2)) (f2 : Arv Z h0 p2 c0 .byte (2 : Int32) [(.int x0), (.int x1)] (.int 0)) (f3 : Fld Z h0 p0 "java/lang/String" "coder" "B" (.int (0 : Int32))) (f4 : Exa Z h0 p1 "java/lang/String") (f5 : Fld Z h0 p1 "java/lang/String" "value" "[B" (.ref p3)) (f6 : Arv Z h0 p3 c1 .byte (2 : Int32) [(.int (45 : Int32)), (.int (45 : Int32))] (.int 0)) (f7 : Fld Z h0 p1 "java/lang/String" "coder" "B" (.int (0 : Int32))) (cc8 : x0 = (45 : Int32)) (cc9 : x1 = (45 : Int32)) :
    Met Z a0 ELs True n0 l (⟨"java/lang/String", "startsWith", "(Ljava/lang/String;)Z"⟩ : MethodName) jdk_42_method_76_code 2 (Option.some FieldType.boolean) ({ frames := 3, cells := 0, slots := 0, locals := 46 } : Room) #[(.ref p0), (.ref p1)] h0 [] (fun v h so => (v = some (.int (1 : Int32)) ∧ so = [] ∧ h0 = h)) := by
  refine Met.of (EWl V) (by first | decide +kernel | rfl) hO (L0 := #[.val (.ref p0), .val (.ref p1)]) rfl ?_
  intro p e s m below meth c T H
  show Go p e below _ (T.setTop (mkF m 0 #[.val (.ref p0), .val (.ref p1)] []))
  refine G.aloadN H D23_0 (pc' := 1) rfl rfl rfl ?_
  refine G.aloadN H D23_1 (pc' := 2) rfl rfl rfl ?_
  refine G.iconst H D23_2 (pc' := 3) rfl (v := (0 : Int32)) rfl ?_
  refine G.callV H (m45_startsWith V p0 p1 p2 c0 x0 x1 p3 c1 h0 H.old f0 f1 f2 f3 f4 f5 f6 f7 cc8 cc9) (wd222 V) (wd223 V) (nf_sel (wd225 V)) (wd225 V) (wd224 V) (wd7 V) (wd226 V) (by decide) f0 (argsL := [(.ref p1), (.int (0 : Int32))]) (rest := []) (W := 0) rfl rfl (lenOf (pd_19) rfl) rfl rfl D23_3 (pc' := 6) rfl (by decide) (by decide) (by decide) (by decide) all0 ?_
  intro T1 h1_ v2 s3 H1 Q4
  obtain ⟨rfl, rfl, rfl⟩ := Q4
  show Go p e below _ (T1.setTop (mkF m 6 #[.val (.ref p0), .val (.ref p1)] [(.int (1 : Int32))]))
  exact G.retN H1 (t := .boolean) rfl (by decide) D23_6 (so := []) all0 (by decide) (by decide) ⟨rfl, rfl, rfl⟩
set_option maxRecDepth 65536 in
set_option maxHeartbeats 40000000 in
theorem m47_nextIsOption (V : Env1 Z a0 n0 uu0 uu1 uu2 uu3 uu4 uu5) (p0 : Addr) (p1 : Addr) (p2 : Addr) (c0 : ClassId) (p3 : Addr) (p4 : Addr) (p5 : Addr) (p6 : Addr) (c1 : ClassId) (x0 : Int32) (x1 : Int32) (h0 : Heap) (hO : Old Z n0 h0) (f0 : Fld Z h0 p0 "com/example/formboard/formboard/cli/Arguments" "next" "I" (.int (1 : Int32))) (f1 : Fld Z h0 p0 "com/example/formboard/formboard/cli/Arguments" "args" "Ljava/util/List;" (.ref p1)) (f2 : Exa Z h0 p1 "java/util/ArrayList") (f3 : Fld Z h0 p1 "java/util/ArrayList" "size" "I" (.int (3 : Int32))) (f4 : Fld Z h0 p1 "java/util/ArrayList" "elementData" "[Ljava/lang/Object;" (.ref p2)) (f5 : Arv Z h0 p2 c0 (.object "java/lang/Object") (10 : Int32) [(.ref p3), (.ref p4), (.ref p5), .null, .null, .null, .null, .null, .null, .null] .null) (f6 : Exa Z h0 p4 "java/lang/String") (f7 : Fld Z h0 p4 "java/lang/String" "value" "[B" (.ref p6)) (f8 : Arv Z h0 p6 c1 .byte (2 : Int32) [(.int x0), (.int x1)] (.int 0)) (f9 : Fld Z h0 p4 "java/lang/String" "coder" "B" (.int (0 : Int32))) (cc10 : x0 = (45 : Int32)) (cc11 : x1 = (45 : Int32)) :
    Met Z a0 ELs True n0 l (⟨"com/example/formboard/formboard/cli/Arguments", "nextIsOption", "()Z"⟩ : MethodName) prog_1_method_2_code 1 (Option.some FieldType.boolean) ({ frames := 4, cells := 2, slots := 12, locals := 59 } : Room) #[(.ref p0)] h0 [p4] (fun v h so => (v = some (.int (1 : Int32)) ∧ so = [] ∧ Keep h0 h [])) := by
  refine Met.of (EWl V) (by first | decide +kernel | rfl) hO (L0 := #[.val (.ref p0)]) rfl ?_
  intro p e s m below meth c T H
  show Go p e below _ (T.setTop (mkF m 0 #[.val (.ref p0)] []))
  refine G.aloadN H D28_0 (pc' := 1) rfl rfl rfl ?_
  refine G.getF H (wd110 V) Via.refl f0 D28_1 (pc' := 4) rfl ?_
  intro T1 H2
  refine G.aloadN H2 D28_4 (pc' := 5) rfl rfl rfl ?_
  refine G.getF H2 (wd100 V) Via.refl f1 D28_5 (pc' := 8) rfl ?_
  intro T3 H4
  refine G.callF H4 (xi := (⟨"java/util/List", "size", "()I"⟩ : MethodName)) (m15_size V p1 h0 H4.old f3) (wd112 V) (wd113 V) (fun s2 aa hZ => Jvm.Free.ULB.iface_rides (U := s2) hZ.alike (wd114 V)) (wd115 V) (wd116 V) (wd117 V) (wd118 V) (wd65 V) (wd36 V) (wd119 V) (by decide) f2 (argsL := []) (rest := [(.int (1 : Int32))]) (W := 1) rfl rfl (lenOf (pd_8) rfl) rfl rfl D28_8 (pc' := 13) rfl (by decide) (by decide) (by decide) (by decide) all0 ?_
  intro T5 h5_ v6 s7 H5 Q8
  obtain ⟨rfl, rfl, rfl⟩ := Q8
  show Go p e below _ (T5.setTop (mkF m 13 #[.val (.ref p0)] [(.int (3 : Int32)), (.int (1 : Int32))]))
  refine G.icmpNo H5 D28_13 (pc' := 16) rfl (by decide) ?_
  refine G.aloadN H5 D28_16 (pc' := 17) rfl rfl rfl ?_
  refine G.getF H5 (wd100 V) Via.refl f1 D28_17 (pc' := 20) rfl ?_
  intro T9 H10
  refine G.aloadN H10 D28_20 (pc' := 21) rfl rfl rfl ?_
  refine G.getF H10 (wd110 V) Via.refl f0 D28_21 (pc' := 24) rfl ?_
  intro T11 H12
  refine G.callF H12 (xi := (⟨"java/util/List", "get", "(I)Ljava/lang/Object;"⟩ : MethodName)) (m40_get V p1 p2 c0 p3 p4 p5 h0 H12.old f3 f2 f4 f5) (wd120 V) (wd121 V) (fun s2 aa hZ => Jvm.Free.ULB.iface_rides (U := s2) hZ.alike (wd122 V)) (wd123 V) (wd124 V) (wd125 V) (wd126 V) (wd65 V) (wd36 V) (wd127 V) (by decide) f2 (argsL := [(.int (1 : Int32))]) (rest := []) (W := 0) rfl rfl (lenOf (pd_10) rfl) rfl rfl D28_24 (pc' := 29) rfl (by decide) (by decide) (by decide) (by decide) all0 ?_
  intro T13 h13_ v14 s15 H13 Q16
  obtain ⟨rfl, rfl, rfl⟩ := Q16
  show Go p e below _ (T13.setTop (mkF m 29 #[.val (.ref p0)] [(.ref p4)]))
  refine G.castY H13 (wd141 V) (Ins.self f6) D28_29 (pc' := 32) rfl ?_
  intro T17 H18
  refine G.ldcS H18 trivial (wS V) (wd214 V) (by decide) (vs := [(.int (45 : Int32)), (.int (45 : Int32))]) (z := (2 : Int32)) (by decide) (by decide) rfl (n := 8) (by decide) (by decide) (by decide) (by decide) D28_32 (pc' := 34) rfl ?_
  intro T19 h19_ a20 b22 k23 H19 E21 X24 F25 F26 A27 Q28
  have S29 : Str Z h19_ a20 b22 k23 [(45 : Int32), (45 : Int32)] := ⟨X24, F25, F26, A27, by decide, by decide⟩
  have F30 := (Exa.ext E21 f6)
  have F31 := (Fld.ext E21 f7)
  have F32 := (Arv.ext f8 E21)
  have F33 := (Fld.ext E21 f9)
  refine G.callV H19 (m46_startsWith V p4 a20 p6 c1 x0 x1 b22 k23 h19_ H19.old F30 F31 F32 F33 X24 F26 A27 F25 cc10 cc11) (wd217 V) (wd218 V) (nf_sel (wd220 V)) (wd220 V) (wd219 V) (wd7 V) (wd221 V) (by decide) F30 (argsL := [(.ref a20)]) (rest := []) (W := 0) rfl rfl (lenOf (pd_20) rfl) rfl rfl D28_34 (pc' := 37) rfl (by decide) (by decide) (by decide) (by decide) all0 ?_
  intro T34 h34_ v35 s36 H34 Q37
  obtain ⟨rfl, rfl, rfl⟩ := Q37
  show Go p e below _ (T34.setTop (mkF m 37 #[.val (.ref p0)] [(.int (1 : Int32))]))
  refine G.ifNo H34 D28_37 (pc' := 40) rfl (by decide) ?_
  refine G.iconst H34 D28_40 (pc' := 41) rfl (v := (1 : Int32)) rfl ?_
  refine G.goto H34 D28_41 (by decide) (pc' := 45) rfl ?_
  have K38 : Keep h0 h19_ [] := (Keep.ext (Keep.refl h0 []) E21)
  exact G.retN H34 (t := .boolean) rfl (by decide) D28_45 (so := []) all0 (by decide) (by decide) ⟨rfl, rfl, K38⟩
set_option maxRecDepth 65536 in
set_option maxHeartbeats 40000000 in
theorem m48_mismatch (V : Env1 Z a0 n0 uu0 uu1 uu2 uu3 uu4 uu5) (p0 : Addr) (p1 : Addr) (c0 : ClassId) (x0 : Int32) (x1 : Int32) (c1 : ClassId) (h0 : Heap) (hO : Old Z n0 h0) (f0 : Arv Z h0 p0 c0 .byte (2 : Int32) [(.int x0), (.int x1)] (.int 0)) (f1 : Arv Z h0 p1 c1 .byte (2 : Int32) [(.int (45 : Int32)), (.int (45 : Int32))] (.int 0)) (cc2 : x0 = (45 : Int32)) (cc3 : ¬ x1 = (45 : Int32)) :
    Met Z a0 ELs True n0 l (⟨"jdk/internal/util/ArraysSupport", "mismatch", "([BI[BII)I"⟩ : MethodName) jdk_48_method_14_code 8 (Option.some FieldType.int) ({ frames := 0, cells := 0, slots := 0, locals := 0 } : Room) #[(.ref p0), (.int (0 : Int32)), (.ref p1), (.int (0 : Int32)), (.int (2 : Int32))] h0 [] (fun v h so => (v = some (.int (1 : Int32)) ∧ so = [] ∧ h0 = h)) := by
  refine Met.of (EWl V) (by first | decide +kernel | rfl) hO (L0 := #[.val (.ref p0), .val (.int (0 : Int32)), .val (.ref p1), .val (.int (0 : Int32)), .val (.int (2 : Int32)), .unset, .unset, .unset]) rfl ?_
  intro p e s m below meth c T H
  show Go p e below _ (T.setTop (mkF m 0 #[.val (.ref p0), .val (.int (0 : Int32)), .val (.ref p1), .val (.int (0 : Int32)), .val (.int (2 : Int32)), .unset, .unset, .unset] []))
  refine G.iconst H D24_0 (pc' := 1) rfl (v := (0 : Int32)) rfl ?_
  refine G.istore H (L' := #[.val (.ref p0), .val (.int (0 : Int32)), .val (.ref p1), .val (.int (0 : Int32)), .val (.int (2 : Int32)), .val (.int (0 : Int32)), .unset, .unset]) D24_1 (pc' := 3) rfl rfl ?_
  refine G.iload H D24_3 (pc' := 5) rfl rfl ?_
  refine G.bipush H D24_5 (pc' := 7) rfl (v := (7 : Int32)) rfl ?_
  refine G.icmpYes H D24_7 (by decide) (by decide) (pc' := 70) rfl ?_
  refine G.iload H D24_70 (pc' := 72) rfl rfl ?_
  refine G.iload H D24_72 (pc' := 74) rfl rfl ?_
  refine G.icmpNo H D24_74 (pc' := 77) rfl (by decide) ?_
  refine G.aloadN H D24_77 (pc' := 78) rfl rfl rfl ?_
  refine G.iloadN H D24_78 (pc' := 79) rfl rfl ?_
  refine G.iload H D24_79 (pc' := 81) rfl rfl ?_
  refine G.iadd H D24_81 (pc' := 82) rfl ?_
  show Go p e below _ (T.setTop (mkF m 82 #[.val (.ref p0), .val (.int (0 : Int32)), .val (.ref p1), .val (.int (0 : Int32)), .val (.int (2 : Int32)), .val (.int (0 : Int32)), .unset, .unset] [(.int (0 : Int32)), (.ref p0)]))
  refine G.baloadG H f0 (j := (0 : Int32)) (v := (.int x0)) (by decide) rfl D24_82 (pc' := 83) rfl ?_
  refine G.aloadN H D24_83 (pc' := 84) rfl rfl rfl ?_
  refine G.iloadN H D24_84 (pc' := 85) rfl rfl ?_
  refine G.iload H D24_85 (pc' := 87) rfl rfl ?_
  refine G.iadd H D24_87 (pc' := 88) rfl ?_
  show Go p e below _ (T.setTop (mkF m 88 #[.val (.ref p0), .val (.int (0 : Int32)), .val (.ref p1), .val (.int (0 : Int32)), .val (.int (2 : Int32)), .val (.int (0 : Int32)), .unset, .unset] [(.int (0 : Int32)), (.ref p1), (.int x0)]))
  refine G.baloadG H f1 (j := (0 : Int32)) (v := (.int (45 : Int32))) (by decide) rfl D24_88 (pc' := 89) rfl ?_
  refine G.icmpYes H D24_89 (XT.ii_eq_t cc2) (by decide) (pc' := 95) rfl ?_
  refine G.iinc H (v := (1 : Int32)) (L' := #[.val (.ref p0), .val (.int (0 : Int32)), .val (.ref p1), .val (.int (0 : Int32)), .val (.int (2 : Int32)), .val (.int (1 : Int32)), .unset, .unset]) D24_95 (pc' := 98) rfl rfl rfl rfl ?_
  refine G.goto H D24_98 (by decide) (pc' := 70) rfl ?_
  show Go p e below _ (T.setTop (mkF m 70 #[.val (.ref p0), .val (.int (0 : Int32)), .val (.ref p1), .val (.int (0 : Int32)), .val (.int (2 : Int32)), .val (.int (1 : Int32)), .unset, .unset] []))
  refine G.iload H D24_70 (pc' := 72) rfl rfl ?_
  refine G.iload H D24_72 (pc' := 74) rfl rfl ?_
  refine G.icmpNo H D24_74 (pc' := 77) rfl (by decide) ?_
  refine G.aloadN H D24_77 (pc' := 78) rfl rfl rfl ?_
  refine G.iloadN H D24_78 (pc' := 79) rfl rfl ?_
  refine G.iload H D24_79 (pc' := 81) rfl rfl ?_
  refine G.iadd H D24_81 (pc' := 82) rfl ?_
  show Go p e below _ (T.setTop (mkF m 82 #[.val (.ref p0), .val (.int (0 : Int32)), .val (.ref p1), .val (.int (0 : Int32)), .val (.int (2 : Int32)), .val (.int (1 : Int32)), .unset, .unset] [(.int (1 : Int32)), (.ref p0)]))
  refine G.baloadG H f0 (j := (1 : Int32)) (v := (.int x1)) (by decide) rfl D24_82 (pc' := 83) rfl ?_
  refine G.aloadN H D24_83 (pc' := 84) rfl rfl rfl ?_
  refine G.iloadN H D24_84 (pc' := 85) rfl rfl ?_
  refine G.iload H D24_85 (pc' := 87) rfl rfl ?_
  refine G.iadd H D24_87 (pc' := 88) rfl ?_
  show Go p e below _ (T.setTop (mkF m 88 #[.val (.ref p0), .val (.int (0 : Int32)), .val (.ref p1), .val (.int (0 : Int32)), .val (.int (2 : Int32)), .val (.int (1 : Int32)), .unset, .unset] [(.int (1 : Int32)), (.ref p1), (.int x1)]))
  refine G.baloadG H f1 (j := (1 : Int32)) (v := (.int (45 : Int32))) (by decide) rfl D24_88 (pc' := 89) rfl ?_
  refine G.icmpNo H D24_89 (pc' := 92) rfl (XT.ii_eq_f cc3) ?_
  refine G.iload H D24_92 (pc' := 94) rfl rfl ?_
  exact G.retI H rfl D24_94 (so := []) all0 (by decide) (by decide) ⟨rfl, rfl, rfl⟩
set_option maxRecDepth 65536 in
set_option maxHeartbeats 40000000 in
theorem m49_startsWith (V : Env1 Z a0 n0 uu0 uu1 uu2 uu3 uu4 uu5) (p0 : Addr) (p1 : Addr) (p2 : Addr) (c0 : ClassId) (x0 : Int32) (x1 : Int32) (p3 : Addr) (c1 : ClassId) (h0 : Heap) (hO : Old Z n0 h0) (f0 : Exa Z h0 p0 "java/lang/String") (f1 : Fld Z h0 p0 "java/lang/String" "value" "[B" (.ref p2)) (f2 : Arv Z h0 p2 c0 .byte (2 : Int32) [(.int x0), (.int x1)] (.int 0)) (f3 : Fld Z h0 p0 "java/lang/String" "coder" "B" (.int (0 : Int32))) (f4 : Exa Z h0 p1 "java/lang/String") (f5 : Fld Z h0 p1 "java/lang/String" "value" "[B" (.ref p3)) (f6 : Arv Z h0 p3 c1 .byte (2 : Int32) [(.int (45 : Int32)), (.int (45 : Int32))] (.int 0)) (f7 : Fld Z h0 p1 "java/lang/String" "coder" "B" (.int (0 : Int32))) (cc8 : x0 = (45 : Int32)) (cc9 : ¬ x1 = (45 : Int32)) :
    Met Z a0 ELs True n0 l (⟨"java/lang/String", "startsWith", "(Ljava/lang/String;I)Z"⟩ : MethodName) jdk_42_method_75_code 8 (Option.some FieldType.boolean) ({ frames := 2, cells := 0, slots := 0, locals := 27 } : Room) #[(.ref p0), (.ref p1), (.int (0 : Int32))] h0 [] (fun v h so => (v = some (.int (0 : Int32)) ∧ so = [] ∧ h0 = h)) := by
  refine Met.of (EWl V) (by first | decide +kernel | rfl) hO (L0 := #[.val (.ref p0), .val (.ref p1), .val (.int (0 : Int32)), .unset, .unset, .unset, .unset, .unset]) rfl ?_
  intro p e s m below meth c T H
  show Go p e below _ (T.setTop (mkF m 0 #[.val (.ref p0), .val (.ref p1), .val (.int (0 : Int32)), .unset, .unset, .unset, .unset, .unset] []))
  refine G.iloadN H D22_0 (pc' := 1) rfl rfl ?_
  refine G.ifNo H D22_1 (pc' := 4) rfl (by decide) ?_
  refine G.iloadN H D22_4 (pc' := 5) rfl rfl ?_
  refine G.aloadN H D22_5 (pc' := 6) rfl rfl rfl ?_
  refine G.callV H (m42_length V p0 p2 c0 x0 x1 h0 H.old f1 f2 f0 f3) (wd227 V) (wd228 V) (nf_sel (wd230 V)) (wd230 V) (wd229 V) (wd7 V) (wd231 V) (by decide) f0 (argsL := []) (rest := [(.int (0 : Int32))]) (W := 1) rfl rfl (lenOf (pd_8) rfl) rfl rfl D22_6 (pc' := 9) rfl (by decide) (by decide) (by decide) (by decide) all0 ?_
  intro T1 h1_ v2 s3 H1 Q4
  obtain ⟨rfl, rfl, rfl⟩ := Q4
  show Go p e below _ (T1.setTop (mkF m 9 #[.val (.ref p0), .val (.ref p1), .val (.int (0 : Int32)), .unset, .unset, .unset, .unset, .unset] [(.int (2 : Int32)), (.int (0 : Int32))]))
  refine G.aloadN H1 D22_9 (pc' := 10) rfl rfl rfl ?_
  refine G.callV H1 (m43_length V p1 p3 c1 h0 H1.old f5 f6 f4 f7) (wd227 V) (wd228 V) (nf_sel (wd230 V)) (wd230 V) (wd229 V) (wd7 V) (wd231 V) (by decide) f4 (argsL := []) (rest := [(.int (2 : Int32)), (.int (0 : Int32))]) (W := 2) rfl rfl (lenOf (pd_8) rfl) rfl rfl D22_10 (pc' := 13) rfl (by decide) (by decide) (by decide) (by decide) all0 ?_
  intro T5 h5_ v6 s7 H5 Q8
  obtain ⟨rfl, rfl, rfl⟩ := Q8
  show Go p e below _ (T5.setTop (mkF m 13 #[.val (.ref p0), .val (.ref p1), .val (.int (0 : Int32)), .unset, .unset, .unset, .unset, .unset] [(.int (2 : Int32)), (.int (2 : Int32)), (.int (0 : Int32))]))
  refine G.isub H5 D22_13 (pc' := 14) rfl ?_
  show Go p e below _ (T5.setTop (mkF m 14 #[.val (.ref p0), .val (.ref p1), .val (.int (0 : Int32)), .unset, .unset, .unset, .unset, .unset] [(.int (0 : Int32)), (.int (0 : Int32))]))
  refine G.icmpYes H5 D22_14 (by decide) (by decide) (pc' := 19) rfl ?_
  refine G.aloadN H5 D22_19 (pc' := 20) rfl rfl rfl ?_
  refine G.getF H5 (wd32 V) Via.refl f1 D22_20 (pc' := 23) rfl ?_
  intro T9 H10
  refine G.astoreN H10 (L' := #[.val (.ref p0), .val (.ref p1), .val (.int (0 : Int32)), .val (.ref p2), .unset, .unset, .unset, .unset]) D22_23 (pc' := 24) rfl rfl rfl ?_
  refine G.aloadN H10 D22_24 (pc' := 25) rfl rfl rfl ?_
  refine G.getF H10 (wd32 V) Via.refl f5 D22_25 (pc' := 28) rfl ?_
  intro T11 H12
  refine G.astore H12 (L' := #[.val (.ref p0), .val (.ref p1), .val (.int (0 : Int32)), .val (.ref p2), .val (.ref p3), .unset, .unset, .unset]) D22_28 (pc' := 30) rfl rfl rfl ?_
  refine G.iconst H12 D22_30 (pc' := 31) rfl (v := (0 : Int32)) rfl ?_
  refine G.istore H12 (L' := #[.val (.ref p0), .val (.ref p1), .val (.int (0 : Int32)), .val (.ref p2), .val (.ref p3), .val (.int (0 : Int32)), .unset, .unset]) D22_31 (pc' := 33) rfl rfl ?_
  refine G.aload H12 D22_33 (pc' := 35) rfl rfl rfl ?_
  refine G.arrlen H12 f6 D22_35 (pc' := 36) rfl ?_
  refine G.istore H12 (L' := #[.val (.ref p0), .val (.ref p1), .val (.int (0 : Int32)), .val (.ref p2), .val (.ref p3), .val (.int (0 : Int32)), .val (.int (2 : Int32)), .unset]) D22_36 (pc' := 38) rfl rfl ?_
  refine G.aloadN H12 D22_38 (pc' := 39) rfl rfl rfl ?_
  refine G.callV H12 (m41_coder V p0 h0 H12.old f3) (wd232 V) (wd233 V) (nf_sel (wd235 V)) (wd235 V) (wd234 V) (wd7 V) (wd236 V) (by decide) f0 (argsL := []) (rest := []) (W := 0) rfl rfl (lenOf (pd_17) rfl) rfl rfl D22_39 (pc' := 42) rfl (by decide) (by decide) (by decide) (by decide) all0 ?_
  intro T13 h13_ v14 s15 H13 Q16
  obtain ⟨rfl, rfl, rfl⟩ := Q16
  show Go p e below _ (T13.setTop (mkF m 42 #[.val (.ref p0), .val (.ref p1), .val (.int (0 : Int32)), .val (.ref p2), .val (.ref p3), .val (.int (0 : Int32)), .val (.int (2 : Int32)), .unset] [(.int (0 : Int32))]))
  refine G.istore H13 (L' := #[.val (.ref p0), .val (.ref p1), .val (.int (0 : Int32)), .val (.ref p2), .val (.ref p3), .val (.int (0 : Int32)), .val (.int (2 : Int32)), .val (.int (0 : Int32))]) D22_42 (pc' := 44) rfl rfl ?_
  refine G.iload H13 D22_44 (pc' := 46) rfl rfl ?_
  refine G.aloadN H13 D22_46 (pc' := 47) rfl rfl rfl ?_
  refine G.callV H13 (m41_coder V p1 h0 H13.old f7) (wd232 V) (wd233 V) (nf_sel (wd235 V)) (wd235 V) (wd234 V) (wd7 V) (wd236 V) (by decide) f4 (argsL := []) (rest := [(.int (0 : Int32))]) (W := 1) rfl rfl (lenOf (pd_17) rfl) rfl rfl D22_47 (pc' := 50) rfl (by decide) (by decide) (by decide) (by decide) all0 ?_
  intro T17 h17_ v18 s19 H17 Q20
  obtain ⟨rfl, rfl, rfl⟩ := Q20
  show Go p e below _ (T17.setTop (mkF m 50 #[.val (.ref p0), .val (.ref p1), .val (.int (0 : Int32)), .val (.ref p2), .val (.ref p3), .val (.int (0 : Int32)), .val (.int (2 : Int32)), .val (.int (0 : Int32))] [(.int (0 : Int32)), (.int (0 : Int32))]))
  refine G.icmpNo H17 D22_50 (pc' := 53) rfl (by decide) ?_
  refine G.iload H17 D22_53 (pc' := 55) rfl rfl ?_
  refine G.iconst H17 D22_55 (pc' := 56) rfl (v := (1 : Int32)) rfl ?_
  refine G.icmpYes H17 D22_56 (by decide) (by decide) (pc' := 63) rfl ?_
  refine G.aloadN H17 D22_63 (pc' := 64) rfl rfl rfl ?_
  refine G.iloadN H17 D22_64 (pc' := 65) rfl rfl ?_
  refine G.aload H17 D22_65 (pc' := 67) rfl rfl rfl ?_
  refine G.iconst H17 D22_67 (pc' := 68) rfl (v := (0 : Int32)) rfl ?_
  refine G.iload H17 D22_68 (pc' := 70) rfl rfl ?_
  refine G.callS H17 (m48_mismatch V p2 p3 c0 x0 x1 c1 h0 H17.old f2 f6 cc8 cc9) (wd237 V) (wd238 V) (wd239 V) (wd240 V) (by decide) (argsL := [(.ref p2), (.int (0 : Int32)), (.ref p3), (.int (0 : Int32)), (.int (2 : Int32))]) (rest := []) (W := 0) rfl rfl (lenOf (pd_18) rfl) rfl rfl D22_70 (pc' := 73) rfl (by decide) (by decide) (by decide) (by decide) all0 ?_
  intro T21 h21_ v22 s23 H21 Q24
  obtain ⟨rfl, rfl, rfl⟩ := Q24
  show Go p e below _ (T21.setTop (mkF m 73 #[.val (.ref p0), .val (.ref p1), .val (.int (0 : Int32)), .val (.ref p2), .val (.ref p3), .val (.int (0 : Int32)), .val (.int (2 : Int32)), .val (.int (0 : Int32))] [(.int (1 : Int32))]))
  refine G.ifYes H21 D22_73 (by decide) (by decide) (pc' := 80) rfl ?_
  refine G.iconst H21 D22_80 (pc' := 81) rfl (v := (0 : Int32)) rfl ?_
  exact G.retN H21 (t := .boolean) rfl (by decide) D22_81 (so := []) all0 (by decide) (by decide) ⟨rfl, rfl, rfl⟩
set_option maxRecDepth 65536 in
set_option maxHeartbeats 40000000 in
theorem m50_startsWith (V : Env1 Z a0 n0 uu0 uu1 uu2 uu3 uu4 uu5) (p0 : Addr) (p1 : Addr) (p2 : Addr) (c0 : ClassId) (x0 : Int32) (x1 : Int32) (p3 : Addr) (c1 : ClassId) (h0 : Heap) (hO : Old Z n0 h0) (f0 : Exa Z h0 p0 "java/lang/String") (f1 : Fld Z h0 p0 "java/lang/String" "value" "[B" (.ref p2)) (f2 : Arv Z h0 p2 c0 .byte (2 : Int32) [(.int x0), (.int x1)] (.int 0)) (f3 : Fld Z h0 p0 "java/lang/String" "coder" "B" (.int (0 : Int32))) (f4 : Exa Z h0 p1 "java/lang/String") (f5 : Fld Z h0 p1 "java/lang/String" "value" "[B" (.ref p3)) (f6 : Arv Z h0 p3 c1 .byte (2 : Int32) [(.int (45 : Int32)), (.int (45 : Int32))] (.int 0)) (f7 : Fld Z h0 p1 "java/lang/String" "coder" "B" (.int (0 : Int32))) (cc8 : x0 = (45 : Int32)) (cc9 : ¬ x1 = (45 : Int32)) :
    Met Z a0 ELs True n0 l (⟨"java/lang/String", "startsWith", "(Ljava/lang/String;)Z"⟩ : MethodName) jdk_42_method_76_code 2 (Option.some FieldType.boolean) ({ frames := 3, cells := 0, slots := 0, locals := 46 } : Room) #[(.ref p0), (.ref p1)] h0 [] (fun v h so => (v = some (.int (0 : Int32)) ∧ so = [] ∧ h0 = h)) := by
  refine Met.of (EWl V) (by first | decide +kernel | rfl) hO (L0 := #[.val (.ref p0), .val (.ref p1)]) rfl ?_
  intro p e s m below meth c T H
  show Go p e below _ (T.setTop (mkF m 0 #[.val (.ref p0), .val (.ref p1)] []))
  refine G.aloadN H D23_0 (pc' := 1) rfl rfl rfl ?_
  refine G.aloadN H D23_1 (pc' := 2) rfl rfl rfl ?_
  refine G.iconst H D23_2 (pc' := 3) rfl (v := (0 : Int32)) rfl ?_
  refine G.callV H (m49_startsWith V p0 p1 p2 c0 x0 x1 p3 c1 h0 H.old f0 f1 f2 f3 f4 f5 f6 f7 cc8 cc9) (wd222 V) (wd223 V) (nf_sel (wd225 V)) (wd225 V) (wd224 V) (wd7 V) (wd226 V) (by decide) f0 (argsL := [(.ref p1), (.int (0 : Int32))]) (rest := []) (W := 0) rfl rfl (lenOf (pd_19) rfl) rfl rfl D23_3 (pc' := 6) rfl (by decide) (by decide) (by decide) (by decide) all0 ?_
  intro T1 h1_ v2 s3 H1 Q4
  obtain ⟨rfl, rfl, rfl⟩ := Q4
  show Go p e below _ (T1.setTop (mkF m 6 #[.val (.ref p0), .val (.ref p1)] [(.int (0 : Int32))]))
  exact G.retN H1 (t := .boolean) rfl (by decide) D23_6 (so := []) all0 (by decide) (by decide) ⟨rfl, rfl, rfl⟩
set_option maxRecDepth 65536 in
set_option maxHeartbeats 40000000 in
theorem m51_nextIsOption (V : Env1 Z a0 n0 uu0 uu1 uu2 uu3 uu4 uu5) (p0 : Addr) (p1 : Addr) (p2 : Addr) (c0 : ClassId) (p3 : Addr) (p4 : Addr) (p5 : Addr) (p6 : Addr) (c1 : ClassId) (x0 : Int32) (x1 : Int32) (h0 : Heap) (hO : Old Z n0 h0) (f0 : Fld Z h0 p0 "com/example/formboard/formboard/cli/Arguments" "next" "I" (.int (1 : Int32))) (f1 : Fld Z h0 p0 "com/example/formboard/formboard/cli/Arguments" "args" "Ljava/util/List;" (.ref p1)) (f2 : Exa Z h0 p1 "java/util/ArrayList") (f3 : Fld Z h0 p1 "java/util/ArrayList" "size" "I" (.int (3 : Int32))) (f4 : Fld Z h0 p1 "java/util/ArrayList" "elementData" "[Ljava/lang/Object;" (.ref p2)) (f5 : Arv Z h0 p2 c0 (.object "java/lang/Object") (10 : Int32) [(.ref p3), (.ref p4), (.ref p5), .null, .null, .null, .null, .null, .null, .null] .null) (f6 : Exa Z h0 p4 "java/lang/String") (f7 : Fld Z h0 p4 "java/lang/String" "value" "[B" (.ref p6)) (f8 : Arv Z h0 p6 c1 .byte (2 : Int32) [(.int x0), (.int x1)] (.int 0)) (f9 : Fld Z h0 p4 "java/lang/String" "coder" "B" (.int (0 : Int32))) (cc10 : x0 = (45 : Int32)) (cc11 : ¬ x1 = (45 : Int32)) :
    Met Z a0 ELs True n0 l (⟨"com/example/formboard/formboard/cli/Arguments", "nextIsOption", "()Z"⟩ : MethodName) prog_1_method_2_code 1 (Option.some FieldType.boolean) ({ frames := 4, cells := 2, slots := 12, locals := 59 } : Room) #[(.ref p0)] h0 [p4] (fun v h so => (v = some (.int (0 : Int32)) ∧ so = [] ∧ Keep h0 h [])) := by
  refine Met.of (EWl V) (by first | decide +kernel | rfl) hO (L0 := #[.val (.ref p0)]) rfl ?_
  intro p e s m below meth c T H
  show Go p e below _ (T.setTop (mkF m 0 #[.val (.ref p0)] []))
  refine G.aloadN H D28_0 (pc' := 1) rfl rfl rfl ?_
  refine G.getF H (wd110 V) Via.refl f0 D28_1 (pc' := 4) rfl ?_
  intro T1 H2
  refine G.aloadN H2 D28_4 (pc' := 5) rfl rfl rfl ?_
  refine G.getF H2 (wd100 V) Via.refl f1 D28_5 (pc' := 8) rfl ?_
  intro T3 H4
  refine G.callF H4 (xi := (⟨"java/util/List", "size", "()I"⟩ : MethodName)) (m15_size V p1 h0 H4.old f3) (wd112 V) (wd113 V) (fun s2 aa hZ => Jvm.Free.ULB.iface_rides (U := s2) hZ.alike (wd114 V)) (wd115 V) (wd116 V) (wd117 V) (wd118 V) (wd65 V) (wd36 V) (wd119 V) (by decide) f2 (argsL := []) (rest := [(.int (1 : Int32))]) (W := 1) rfl rfl (lenOf (pd_8) rfl) rfl rfl D28_8 (pc' := 13) rfl (by decide) (by decide) (by decide) (by decide) all0 ?_
  intro T5 h5_ v6 s7 H5 Q8
  obtain ⟨rfl, rfl, rfl⟩ := Q8
  show Go p e below _ (T5.setTop (mkF m 13 #[.val (.ref p0)] [(.int (3 : Int32)), (.int (1 : Int32))]))
  refine G.icmpNo H5 D28_13 (pc' := 16) rfl (by decide) ?_
  refine G.aloadN H5 D28_16 (pc' := 17) rfl rfl rfl ?_
  refine G.getF H5 (wd100 V) Via.refl f1 D28_17 (pc' := 20) rfl ?_
  intro T9 H10
  refine G.aloadN H10 D28_20 (pc' := 21) rfl rfl rfl ?_
  refine G.getF H10 (wd110 V) Via.refl f0 D28_21 (pc' := 24) rfl ?_
  intro T11 H12
  refine G.callF H12 (xi := (⟨"java/util/List", "get", "(I)Ljava/lang/Object;"⟩ : MethodName)) (m40_get V p1 p2 c0 p3 p4 p5 h0 H12.old f3 f2 f4 f5) (wd120 V) (wd121 V) (fun s2 aa hZ => Jvm.Free.ULB.iface_rides (U := s2) hZ.alike (wd122 V)) (wd123 V) (wd124 V) (wd125 V) (wd126 V) (wd65 V) (wd36 V) (wd127 V) (by decide) f2 (argsL := [(.int (1 : Int32))]) (rest := []) (W := 0) rfl rfl (lenOf (pd_10) rfl) rfl rfl D28_24 (pc' := 29) rfl (by decide) (by decide) (by decide) (by decide) all0 ?_
  intro T13 h13_ v14 s15 H13 Q16
  obtain ⟨rfl, rfl, rfl⟩ := Q16
  show Go p e below _ (T13.setTop (mkF m 29 #[.val (.ref p0)] [(.ref p4)]))
  refine G.castY H13 (wd141 V) (Ins.self f6) D28_29 (pc' := 32) rfl ?_
  intro T17 H18
  refine G.ldcS H18 trivial (wS V) (wd214 V) (by decide) (vs := [(.int (45 : Int32)), (.int (45 : Int32))]) (z := (2 : Int32)) (by decide) (by decide) rfl (n := 8) (by decide) (by decide) (by decide) (by decide) D28_32 (pc' := 34) rfl ?_
  intro T19 h19_ a20 b22 k23 H19 E21 X24 F25 F26 A27 Q28
  have S29 : Str Z h19_ a20 b22 k23 [(45 : Int32), (45 : Int32)] := ⟨X24, F25, F26, A27, by decide, by decide⟩
  have F30 := (Exa.ext E21 f6)
  have F31 := (Fld.ext E21 f7)
  have F32 := (Arv.ext f8 E21)
  have F33 := (Fld.ext E21 f9)
  refine G.callV H19 (m50_startsWith V p4 a20 p6 c1 x0 x1 b22 k23 h19_ H19.old F30 F31 F32 F33 X24 F26 A27 F25 cc10 cc11) (wd217 V) (wd218 V) (nf_sel (wd220 V)) (wd220 V) (wd219 V) (wd7 V) (wd221 V) (by decide) F30 (argsL := [(.ref a20)]) (rest := []) (W := 0) rfl rfl (lenOf (pd_20) rfl) rfl rfl D28_34 (pc' := 37) rfl (by decide) (by decide) (by decide) (by decide) all0 ?_
  intro T34 h34_ v35 s36 H34 Q37
  obtain ⟨rfl, rfl, rfl⟩ := Q37
  show Go p e below _ (T34.setTop (mkF m 37 #[.val (.ref p0)] [(.int (0 : Int32))]))
  refine G.ifYes H34 D28_37 (by decide) (by decide) (pc' := 44) rfl ?_
  refine G.iconst H34 D28_44 (pc' := 45) rfl (v := (0 : Int32)) rfl ?_
  have K38 : Keep h0 h19_ [] := (Keep.ext (Keep.refl h0 []) E21)
  exact G.retN H34 (t := .boolean) rfl (by decide) D28_45 (so := []) all0 (by decide) (by decide) ⟨rfl, rfl, K38⟩
set_option maxRecDepth 65536 in
set_option maxHeartbeats 40000000 in
theorem m52_mismatch (V : Env1 Z a0 n0 uu0 uu1 uu2 uu3 uu4 uu5) (p0 : Addr) (p1 : Addr) (c0 : ClassId) (x0 : Int32) (x1 : Int32) (c1 : ClassId) (h0 : Heap) (hO : Old Z n0 h0) (f0 : Arv Z h0 p0 c0 .byte (2 : Int32) [(.int x0), (.int x1)] (.int 0)) (f1 : Arv Z h0 p1 c1 .byte (2 : Int32) [(.int (45 : Int32)), (.int (45 : Int32))] (.int 0)) (cc2 : ¬ x0 = (45 : Int32)) :
    Met Z a0 ELs True n0 l (⟨"jdk/internal/util/ArraysSupport", "mismatch", "([BI[BII)I"⟩ : MethodName) jdk_48_method_14_code 8 (Option.some FieldType.int) ({ frames := 0, cells := 0, slots := 0, locals := 0 } : Room) #[(.ref p0), (.int (0 : Int32)), (.ref p1), (.int (0 : Int32)), (.int (2 : Int32))] h0 [] (fun v h so => (v = some (.int (0 : Int32)) ∧ so = [] ∧ h0 = h)) := by
  refine Met.of (EWl V) (by first | decide +kernel | rfl) hO (L0 := #[.val (.ref p0), .val (.int (0 : Int32)), .val (.ref p1), .val (.int (0 : Int32)), .val (.int (2 : Int32)), .unset, .unset, .unset]) rfl ?_
  intro p e s m below meth c T H
  show Go p e below _ (T.setTop (mkF m 0 #[.val (.ref p0), .val (.int (0 : Int32)), .val (.ref p1), .val (.int (0 : Int32)), .val (.int (2 : Int32)), .unset, .unset, .unset] []))
  refine G.iconst H D24_0 (pc' := 1) rfl (v := (0 : Int32)) rfl ?_
  refine G.istore H (L' := #[.val (.ref p0), .val (.int (0 : Int32)), .val (.ref p1), .val (.int (0 : Int32)), .val (.int (2 : Int32)), .val (.int (0 : Int32)), .unset, .unset]) D24_1 (pc' := 3) rfl rfl ?_
  refine G.iload H D24_3 (pc' := 5) rfl rfl ?_
  refine G.bipush H D24_5 (pc' := 7) rfl (v := (7 : Int32)) rfl ?_
  refine G.icmpYes H D24_7 (by decide) (by decide) (pc' := 70) rfl ?_
  refine G.iload H D24_70 (pc' := 72) rfl rfl ?_
  refine G.iload H D24_72 (pc' := 74) rfl rfl ?_
  refine G.icmpNo H D24_74 (pc' := 77) rfl (by decide) ?_
  refine G.aloadN H D24_77 (pc' := 78) rfl rfl rfl ?_
  refine G.iloadN H D24_78 (pc' := 79) rfl rfl ?_
  refine G.iload H D24_79 (pc' := 81) rfl rfl ?_
  refine G.iadd H D24_81 (pc' := 82) rfl ?_
  show Go p e below _ (T.setTop (mkF m 82 #[.val (.ref p0), .val (.int (0 : Int32)), .val (.ref p1), .val (.int (0 : Int32)), .val (.int (2 : Int32)), .val (.int (0 : Int32)), .unset, .unset] [(.int (0 : Int32)), (.ref p0)]))
  refine G.baloadG H f0 (j := (0 : Int32)) (v := (.int x0)) (by decide) rfl D24_82 (pc' := 83) rfl ?_
  refine G.aloadN H D24_83 (pc' := 84) rfl rfl rfl ?_
  refine G.iloadN H D24_84 (pc' := 85) rfl rfl ?_
  refine G.iload H D24_85 (pc' := 87) rfl rfl ?_
  refine G.iadd H D24_87 (pc' := 88) rfl ?_
  show Go p e below _ (T.setTop (mkF m 88 #[.val (.ref p0), .val (.int (0 : Int32)), .val (.ref p1), .val (.int (0 : Int32)), .val (.int (2 : Int32)), .val (.int (0 : Int32)), .unset, .unset] [(.int (0 : Int32)), (.ref p1), (.int x0)]))
  refine G.baloadG H f1 (j := (0 : Int32)) (v := (.int (45 : Int32))) (by decide) rfl D24_88 (pc' := 89) rfl ?_
  refine G.icmpNo H D24_89 (pc' := 92) rfl (XT.ii_eq_f cc2) ?_
  refine G.iload H D24_92 (pc' := 94) rfl rfl ?_
  exact G.retI H rfl D24_94 (so := []) all0 (by decide) (by decide) ⟨rfl, rfl, rfl⟩
set_option maxRecDepth 65536 in
set_option maxHeartbeats 40000000 in
theorem m53_startsWith (V : Env1 Z a0 n0 uu0 uu1 uu2 uu3 uu4 uu5) (p0 : Addr) (p1 : Addr) (p2 : Addr) (c0 : ClassId) (x0 : Int32) (x1 : Int32) (p3 : Addr) (c1 : ClassId) (h0 : Heap) (hO : Old Z n0 h0) (f0 : Exa Z h0 p0 "java/lang/String") (f1 : Fld Z h0 p0 "java/lang/String" "value" "[B" (.ref p2)) (f2 : Arv Z h0 p2 c0 .byte (2 : Int32) [(.int x0), (.int x1)] (.int 0)) (f3 : Fld Z h0 p0 "java/lang/String" "coder" "B" (.int (0 : Int32))) (f4 : Exa Z h0 p1 "java/lang/String") (f5 : Fld Z h0 p1 "java/lang/String" "value" "[B" (.ref p3)) (f6 : Arv Z h0 p3 c1 .byte (2 : Int32) [(.int (45 : Int32)), (.int (45 : Int32))] (.int 0)) (f7 : Fld Z h0 p1 "java/lang/String" "coder" "B" (.int (0 : Int32))) (cc8 : ¬ x0 = (45 : Int32)) :
    Met Z a0 ELs True n0 l (⟨"java/lang/String", "startsWith", "(Ljava/lang/String;I)Z"⟩ : MethodName) jdk_42_method_75_code 8 (Option.some FieldType.boolean) ({ frames := 2, cells := 0, slots := 0, locals := 27 } : Room) #[(.ref p0), (.ref p1), (.int (0 : Int32))] h0 [] (fun v h so => (v = some (.int (0 : Int32)) ∧ so = [] ∧ h0 = h)) := by
  refine Met.of (EWl V) (by first | decide +kernel | rfl) hO (L0 := #[.val (.ref p0), .val (.ref p1), .val (.int (0 : Int32)), .unset, .unset, .unset, .unset, .unset]) rfl ?_
  intro p e s m below meth c T H
  show Go p e below _ (T.setTop (mkF m 0 #[.val (.ref p0), .val (.ref p1), .val (.int (0 : Int32)), .unset, .unset, .unset, .unset, .unset] []))
  refine G.iloadN H D22_0 (pc' := 1) rfl rfl ?_
  refine G.ifNo H D22_1 (pc' := 4) rfl (by decide) ?_
  refine G.iloadN H D22_4 (pc' := 5) rfl rfl ?_
  refine G.aloadN H D22_5 (pc' := 6) rfl rfl rfl ?_
  refine G.callV H (m42_length V p0 p2 c0 x0 x1 h0 H.old f1 f2 f0 f3) (wd227 V) (wd228 V) (nf_sel (wd230 V)) (wd230 V) (wd229 V) (wd7 V) (wd231 V) (by decide) f0 (argsL := []) (rest := [(.int (0 : Int32))]) (W := 1) rfl rfl (lenOf (pd_8) rfl) rfl rfl D22_6 (pc' := 9) rfl (by decide) (by decide) (by decide) (by decide) all0 ?_
  intro T1 h1_ v2 s3 H1 Q4
  obtain ⟨rfl, rfl, rfl⟩ := Q4
  show Go p e below _ (T1.setTop (mkF m 9 #[.val (.ref p0), .val (.ref p1), .val (.int (0 : Int32)), .unset, .unset, .unset, .unset, .unset] [(.int (2 : Int32)), (.int (0 : Int32))]))
  refine G.aloadN H1 D22_9 (pc' := 10) rfl rfl rfl ?_
  refine G.callV H1 (m43_length V p1 p3 c1 h0 H1.old f5 f6 f4 f7) (wd227 V) (wd228 V) (nf_sel (wd230 V)) (wd230 V) (wd229 V) (wd7 V) (wd231 V) (by decide) f4 (argsL := []) (rest := [(.int (2 : Int32)), (.int (0 : Int32))]) (W := 2) rfl rfl (lenOf (pd_8) rfl) rfl rfl D22_10 (pc' := 13) rfl (by decide) (by decide) (by decide) (by decide) all0 ?_
  intro T5 h5_ v6 s7 H5 Q8
  obtain ⟨rfl, rfl, rfl⟩ := Q8
  show Go p e below _ (T5.setTop (mkF m 13 #[.val (.ref p0), .val (.ref p1), .val (.int (0 : Int32)), .unset, .unset, .unset, .unset, .unset] [(.int (2 : Int32)), (.int (2 : Int32)), (.int (0 : Int32))]))
  refine G.isub H5 D22_13 (pc' := 14) rfl ?_
  show Go p e below _ (T5.setTop (mkF m 14 #[.val (.ref p0), .val (.ref p1), .val (.int (0 : Int32)), .unset, .unset, .unset, .unset, .unset] [(.int (0 : Int32)), (.int (0 : Int32))]))
  refine G.icmpYes H5 D22_14 (by decide) (by decide) (pc' := 19) rfl ?_
  refine G.aloadN H5 D22_19 (pc' := 20) rfl rfl rfl ?_
  refine G.getF H5 (wd32 V) Via.refl f1 D22_20 (pc' := 23) rfl ?_
  intro T9 H10
  refine G.astoreN H10 (L' := #[.val (.ref p0), .val (.ref p1), .val (.int (0 : Int32)), .val (.ref p2), .unset, .unset, .unset, .unset]) D22_23 (pc' := 24) rfl rfl rfl ?_
  refine G.aloadN H10 D22_24 (pc' := 25) rfl rfl rfl ?_
  refine G.getF H10 (wd32 V) Via.refl f5 D22_25 (pc' := 28) rfl ?_
  intro T11 H12
  refine G.astore H12 (L' := #[.val (.ref p0), .val (.ref p1), .val (.int (0 : Int32)), .val (.ref p2), .val (.ref p3), .unset, .unset, .unset]) D22_28 (pc' := 30) rfl rfl rfl ?_
  refine G.iconst H12 D22_30 (pc' := 31) rfl (v := (0 : Int32)) rfl ?_
  refine G.istore H12 (L' := #[.val (.ref p0), .val (.ref p1), .val (.int (0 : Int32)), .val (.ref p2), .val (.ref p3), .val (.int (0 : Int32)), .unset, .unset]) D22_31 (pc' := 33) rfl rfl ?_
  refine G.aload H12 D22_33 (pc' := 35) rfl rfl rfl ?_
  refine G.arrlen H12 f6 D22_35 (pc' := 36) rfl ?_
  refine G.istore H12 (L' := #[.val (.ref p0), .val (.ref p1), .val (.int (0 : Int32)), .val (.ref p2), .val (.ref p3), .val (.int (0 : Int32)), .val (.int (2 : Int32)), .unset]) D22_36 (pc' := 38) rfl rfl ?_
  refine G.aloadN H12 D22_38 (pc' := 39) rfl rfl rfl ?_
  refine G.callV H12 (m41_coder V p0 h0 H12.old f3) (wd232 V) (wd233 V) (nf_sel (wd235 V)) (wd235 V) (wd234 V) (wd7 V) (wd236 V) (by decide) f0 (argsL := []) (rest := []) (W := 0) rfl rfl (lenOf (pd_17) rfl) rfl rfl D22_39 (pc' := 42) rfl (by decide) (by decide) (by decide) (by decide) all0 ?_
  intro T13 h13_ v14 s15 H13 Q16
  obtain ⟨rfl, rfl, rfl⟩ := Q16
  show Go p e below _ (T13.setTop (mkF m 42 #[.val (.ref p0), .val (.ref p1), .val (.int (0 : Int32)), .val (.ref p2), .val (.ref p3), .val (.int (0 : Int32)), .val (.int (2 : Int32)), .unset] [(.int (0 : Int32))]))
  refine G.istore H13 (L' := #[.val (.ref p0), .val (.ref p1), .val (.int (0 : Int32)), .val (.ref p2), .val (.ref p3), .val (.int (0 : Int32)), .val (.int (2 : Int32)), .val (.int (0 : Int32))]) D22_42 (pc' := 44) rfl rfl ?_
  refine G.iload H13 D22_44 (pc' := 46) rfl rfl ?_
  refine G.aloadN H13 D22_46 (pc' := 47) rfl rfl rfl ?_
  refine G.callV H13 (m41_coder V p1 h0 H13.old f7) (wd232 V) (wd233 V) (nf_sel (wd235 V)) (wd235 V) (wd234 V) (wd7 V) (wd236 V) (by decide) f4 (argsL := []) (rest := [(.int (0 : Int32))]) (W := 1) rfl rfl (lenOf (pd_17) rfl) rfl rfl D22_47 (pc' := 50) rfl (by decide) (by decide) (by decide) (by decide) all0 ?_
  intro T17 h17_ v18 s19 H17 Q20
  obtain ⟨rfl, rfl, rfl⟩ := Q20
  show Go p e below _ (T17.setTop (mkF m 50 #[.val (.ref p0), .val (.ref p1), .val (.int (0 : Int32)), .val (.ref p2), .val (.ref p3), .val (.int (0 : Int32)), .val (.int (2 : Int32)), .val (.int (0 : Int32))] [(.int (0 : Int32)), (.int (0 : Int32))]))
  refine G.icmpNo H17 D22_50 (pc' := 53) rfl (by decide) ?_
  refine G.iload H17 D22_53 (pc' := 55) rfl rfl ?_
  refine G.iconst H17 D22_55 (pc' := 56) rfl (v := (1 : Int32)) rfl ?_
  refine G.icmpYes H17 D22_56 (by decide) (by decide) (pc' := 63) rfl ?_
  refine G.aloadN H17 D22_63 (pc' := 64) rfl rfl rfl ?_
  refine G.iloadN H17 D22_64 (pc' := 65) rfl rfl ?_
  refine G.aload H17 D22_65 (pc' := 67) rfl rfl rfl ?_
  refine G.iconst H17 D22_67 (pc' := 68) rfl (v := (0 : Int32)) rfl ?_
  refine G.iload H17 D22_68 (pc' := 70) rfl rfl ?_
  refine G.callS H17 (m52_mismatch V p2 p3 c0 x0 x1 c1 h0 H17.old f2 f6 cc8) (wd237 V) (wd238 V) (wd239 V) (wd240 V) (by decide) (argsL := [(.ref p2), (.int (0 : Int32)), (.ref p3), (.int (0 : Int32)), (.int (2 : Int32))]) (rest := []) (W := 0) rfl rfl (lenOf (pd_18) rfl) rfl rfl D22_70 (pc' := 73) rfl (by decide) (by decide) (by decide) (by decide) all0 ?_
  intro T21 h21_ v22 s23 H21 Q24
  obtain ⟨rfl, rfl, rfl⟩ := Q24
  show Go p e below _ (T21.setTop (mkF m 73 #[.val (.ref p0), .val (.ref p1), .val (.int (0 : Int32)), .val (.ref p2), .val (.ref p3), .val (.int (0 : Int32)), .val (.int (2 : Int32)), .val (.int (0 : Int32))] [(.int (0 : Int32))]))
  refine G.ifYes H21 D22_73 (by decide) (by decide) (pc' := 80) rfl ?_
  refine G.iconst H21 D22_80 (pc' := 81) rfl (v := (0 : Int32)) rfl ?_
  exact G.retN H21 (t := .boolean) rfl (by decide) D22_81 (so := []) all0 (by decide) (by decide) ⟨rfl, rfl, rfl⟩
set_option maxRecDepth 65536 in
set_option maxHeartbeats 40000000 in
theorem m54_startsWith (V : Env1 Z a0 n0 uu0 uu1 uu2 uu3 uu4 uu5) (p0 : Addr) (p1 : Addr) (p2 : Addr) (c0 : ClassId) (x0 : Int32) (x1 : Int32) (p3 : Addr) (c1 : ClassId) (h0 : Heap) (hO : Old Z n0 h0) (f0 : Exa Z h0 p0 "java/lang/String") (f1 : Fld Z h0 p0 "java/lang/String" "value" "[B" (.ref p2)) (f2 : Arv Z h0 p2 c0 .byte (2 : Int32) [(.int x0), (.int x1)] (.int 0)) (f3 : Fld Z h0 p0 "java/lang/String" "coder" "B" (.int (0 : Int32))) (f4 : Exa Z h0 p1 "java/lang/String") (f5 : Fld Z h0 p1 "java/lang/String" "value" "[B" (.ref p3)) (f6 : Arv Z h0 p3 c1 .byte (2 : Int32) [(.int (45 : Int32)), (.int (45 : Int32))] (.int 0)) (f7 : Fld Z h0 p1 "java/lang/String" "coder" "B" (.int (0 : Int32))) (cc8 : ¬ x0 = (45 : Int32)) :
    Met Z a0 ELs True n0 l (⟨"java/lang/String", "startsWith", "(Ljava/lang/String;)Z"⟩ : MethodName) jdk_42_method_76_code 2 (Option.some FieldType.boolean) ({ frames := 3, cells := 0, slots := 0, locals := 46 } : Room) #[(.ref p0), (.ref p1)] h0 [] (fun v h so => (v = some (.int (0 : Int32)) ∧ so = [] ∧ h0 = h)) := by
  refine Met.of (EWl V) (by first | decide +kernel | rfl) hO (L0 := #[.val (.ref p0), .val (.ref p1)]) rfl ?_
  intro p e s m below meth c T H
  show Go p e below _ (T.setTop (mkF m 0 #[.val (.ref p0), .val (.ref p1)] []))
  refine G.aloadN H D23_0 (pc' := 1) rfl rfl rfl ?_
  refine G.aloadN H D23_1 (pc' := 2) rfl rfl rfl ?_
  refine G.iconst H D23_2 (pc' := 3) rfl (v := (0 : Int32)) rfl ?_
  refine G.callV H (m53_startsWith V p0 p1 p2 c0 x0 x1 p3 c1 h0 H.old f0 f1 f2 f3 f4 f5 f6 f7 cc8) (wd222 V) (wd223 V) (nf_sel (wd225 V)) (wd225 V) (wd224 V) (wd7 V) (wd226 V) (by decide) f0 (argsL := [(.ref p1), (.int (0 : Int32))]) (rest := []) (W := 0) rfl rfl (lenOf (pd_19) rfl) rfl rfl D23_3 (pc' := 6) rfl (by decide) (by decide) (by decide) (by decide) all0 ?_
  intro T1 h1_ v2 s3 H1 Q4
  obtain ⟨rfl, rfl, rfl⟩ := Q4
  show Go p e below _ (T1.setTop (mkF m 6 #[.val (.ref p0), .val (.ref p1)] [(.int (0 : Int32))]))
  exact G.retN H1 (t := .boolean) rfl (by decide) D23_6 (so := []) all0 (by decide) (by decide) ⟨rfl, rfl, rfl⟩
set_option maxRecDepth 65536 in
set_option maxHeartbeats 40000000 in
theorem m55_nextIsOption (V : Env1 Z a0 n0 uu0 uu1 uu2 uu3 uu4 uu5) (p0 : Addr) (p1 : Addr) (p2 : Addr) (c0 : ClassId) (p3 : Addr) (p4 : Addr) (p5 : Addr) (p6 : Addr) (c1 : ClassId) (x0 : Int32) (x1 : Int32) (h0 : Heap) (hO : Old Z n0 h0) (f0 : Fld Z h0 p0 "com/example/formboard/formboard/cli/Arguments" "next" "I" (.int (1 : Int32))) (f1 : Fld Z h0 p0 "com/example/formboard/formboard/cli/Arguments" "args" "Ljava/util/List;" (.ref p1)) (f2 : Exa Z h0 p1 "java/util/ArrayList") (f3 : Fld Z h0 p1 "java/util/ArrayList" "size" "I" (.int (3 : Int32))) (f4 : Fld Z h0 p1 "java/util/ArrayList" "elementData" "[Ljava/lang/Object;" (.ref p2)) (f5 : Arv Z h0 p2 c0 (.object "java/lang/Object") (10 : Int32) [(.ref p3), (.ref p4), (.ref p5), .null, .null, .null, .null, .null, .null, .null] .null) (f6 : Exa Z h0 p4 "java/lang/String") (f7 : Fld Z h0 p4 "java/lang/String" "value" "[B" (.ref p6)) (f8 : Arv Z h0 p6 c1 .byte (2 : Int32) [(.int x0), (.int x1)] (.int 0)) (f9 : Fld Z h0 p4 "java/lang/String" "coder" "B" (.int (0 : Int32))) (cc10 : ¬ x0 = (45 : Int32)) :
    Met Z a0 ELs True n0 l (⟨"com/example/formboard/formboard/cli/Arguments", "nextIsOption", "()Z"⟩ : MethodName) prog_1_method_2_code 1 (Option.some FieldType.boolean) ({ frames := 4, cells := 2, slots := 12, locals := 59 } : Room) #[(.ref p0)] h0 [p4] (fun v h so => (v = some (.int (0 : Int32)) ∧ so = [] ∧ Keep h0 h [])) := by
  refine Met.of (EWl V) (by first | decide +kernel | rfl) hO (L0 := #[.val (.ref p0)]) rfl ?_
  intro p e s m below meth c T H
  show Go p e below _ (T.setTop (mkF m 0 #[.val (.ref p0)] []))
  refine G.aloadN H D28_0 (pc' := 1) rfl rfl rfl ?_
  refine G.getF H (wd110 V) Via.refl f0 D28_1 (pc' := 4) rfl ?_
  intro T1 H2
  refine G.aloadN H2 D28_4 (pc' := 5) rfl rfl rfl ?_
  refine G.getF H2 (wd100 V) Via.refl f1 D28_5 (pc' := 8) rfl ?_
  intro T3 H4
  refine G.callF H4 (xi := (⟨"java/util/List", "size", "()I"⟩ : MethodName)) (m15_size V p1 h0 H4.old f3) (wd112 V) (wd113 V) (fun s2 aa hZ => Jvm.Free.ULB.iface_rides (U := s2) hZ.alike (wd114 V)) (wd115 V) (wd116 V) (wd117 V) (wd118 V) (wd65 V) (wd36 V) (wd119 V) (by decide) f2 (argsL := []) (rest := [(.int (1 : Int32))]) (W := 1) rfl rfl (lenOf (pd_8) rfl) rfl rfl D28_8 (pc' := 13) rfl (by decide) (by decide) (by decide) (by decide) all0 ?_
  intro T5 h5_ v6 s7 H5 Q8
  obtain ⟨rfl, rfl, rfl⟩ := Q8
  show Go p e below _ (T5.setTop (mkF m 13 #[.val (.ref p0)] [(.int (3 : Int32)), (.int (1 : Int32))]))
  refine G.icmpNo H5 D28_13 (pc' := 16) rfl (by decide) ?_
  refine G.aloadN H5 D28_16 (pc' := 17) rfl rfl rfl ?_
  refine G.getF H5 (wd100 V) Via.refl f1 D28_17 (pc' := 20) rfl ?_
  intro T9 H10
  refine G.aloadN H10 D28_20 (pc' := 21) rfl rfl rfl ?_
  refine G.getF H10 (wd110 V) Via.refl f0 D28_21 (pc' := 24) rfl ?_
  intro T11 H12
  refine G.callF H12 (xi := (⟨"java/util/List", "get", "(I)Ljava/lang/Object;"⟩ : MethodName)) (m40_get V p1 p2 c0 p3 p4 p5 h0 H12.old f3 f2 f4 f5) (wd120 V) (wd121 V) (fun s2 aa hZ => Jvm.Free.ULB.iface_rides (U := s2) hZ.alike (wd122 V)) (wd123 V) (wd124 V) (wd125 V) (wd126 V) (wd65 V) (wd36 V) (wd127 V) (by decide) f2 (argsL := [(.int (1 : Int32))]) (rest := []) (W := 0) rfl rfl (lenOf (pd_10) rfl) rfl rfl D28_24 (pc' := 29) rfl (by decide) (by decide) (by decide) (by decide) all0 ?_
  intro T13 h13_ v14 s15 H13 Q16
  obtain ⟨rfl, rfl, rfl⟩ := Q16
  show Go p e below _ (T13.setTop (mkF m 29 #[.val (.ref p0)] [(.ref p4)]))
  refine G.castY H13 (wd141 V) (Ins.self f6) D28_29 (pc' := 32) rfl ?_
  intro T17 H18
  refine G.ldcS H18 trivial (wS V) (wd214 V) (by decide) (vs := [(.int (45 : Int32)), (.int (45 : Int32))]) (z := (2 : Int32)) (by decide) (by decide) rfl (n := 8) (by decide) (by decide) (by decide) (by decide) D28_32 (pc' := 34) rfl ?_
  intro T19 h19_ a20 b22 k23 H19 E21 X24 F25 F26 A27 Q28
  have S29 : Str Z h19_ a20 b22 k23 [(45 : Int32), (45 : Int32)] := ⟨X24, F25, F26, A27, by decide, by decide⟩
  have F30 := (Exa.ext E21 f6)
  have F31 := (Fld.ext E21 f7)
  have F32 := (Arv.ext f8 E21)
  have F33 := (Fld.ext E21 f9)
  refine G.callV H19 (m54_startsWith V p4 a20 p6 c1 x0 x1 b22 k23 h19_ H19.old F30 F31 F32 F33 X24 F26 A27 F25 cc10) (wd217 V) (wd218 V) (nf_sel (wd220 V)) (wd220 V) (wd219 V) (wd7 V) (wd221 V) (by decide) F30 (argsL := [(.ref a20)]) (rest := []) (W := 0) rfl rfl (lenOf (pd_20) rfl) rfl rfl D28_34 (pc' := 37) rfl (by decide) (by decide) (by decide) (by decide) all0 ?_
  intro T34 h34_ v35 s36 H34 Q37
  obtain ⟨rfl, rfl, rfl⟩ := Q37
  show Go p e below _ (T34.setTop (mkF m 37 #[.val (.ref p0)] [(.int (0 : Int32))]))
  refine G.ifYes H34 D28_37 (by decide) (by decide) (pc' := 44) rfl ?_
  refine G.iconst H34 D28_44 (pc' := 45) rfl (v := (0 : Int32)) rfl ?_
  have K38 : Keep h0 h19_ [] := (Keep.ext (Keep.refl h0 []) E21)
  exact G.retN H34 (t := .boolean) rfl (by decide) D28_45 (so := []) all0 (by decide) (by decide) ⟨rfl, rfl, K38⟩
set_option maxRecDepth 65536 in
set_option maxHeartbeats 40000000 in
theorem m56_value (V : Env1 Z a0 n0 uu0 uu1 uu2 uu3 uu4 uu5) (p0 : Addr) (p1 : Addr) (p2 : Addr) (p3 : Addr) (c0 : ClassId) (p4 : Addr) (p5 : Addr) (p6 : Addr) (h0 : Heap) (hO : Old Z n0 h0) (f0 : Fld Z h0 p0 "com/example/formboard/formboard/cli/Arguments" "next" "I" (.int (1 : Int32))) (f1 : Fld Z h0 p0 "com/example/formboard/formboard/cli/Arguments" "args" "Ljava/util/List;" (.ref p2)) (f2 : Exa Z h0 p2 "java/util/ArrayList") (f3 : Fld Z h0 p2 "java/util/ArrayList" "size" "I" (.int (3 : Int32))) (f4 : Exa Z h0 p0 "com/example/formboard/formboard/cli/Arguments") (g5 : n0 ≤ p0) (f6 : Fld Z h0 p2 "java/util/ArrayList" "elementData" "[Ljava/lang/Object;" (.ref p3)) (f7 : Arv Z h0 p3 c0 (.object "java/lang/Object") (10 : Int32) [(.ref p4), (.ref p5), (.ref p6), .null, .null, .null, .null, .null, .null, .null] .null) (q8 : p3 ≠ p0) (f9 : Exa Z h0 p5 "java/lang/String") :
    Met Z a0 ELs True n0 l (⟨"com/example/formboard/formboard/cli/Arguments", "value", "(Ljava/lang/String;)Ljava/lang/String;"⟩ : MethodName) prog_1_method_4_code 2 (Option.some (FieldType.object "java/lang/String")) ({ frames := 3, cells := 0, slots := 0, locals := 40 } : Room) #[(.ref p0), (.ref p1)] h0 [] (fun v h so => (v = some (.ref p5) ∧ so = [] ∧ Keep h0 h [p0] ∧ (∀ (O n d : String) (w : Value), Fld Z h0 p0 O n d w → RoadKit.slotOf Z O n d ≠ RoadKit.slotOf Z "com/example/formboard/formboard/cli/Arguments" "next" "I" → Fld Z h p0 O n d w) ∧ Fld Z h p0 "com/example/formboard/formboard/cli/Arguments" "next" "I" (.int (2 : Int32)) ∧ Fld Z h p0 "com/example/formboard/formboard/cli/Arguments" "args" "Ljava/util/List;" (.ref p2) ∧ Exa Z h p0 "com/example/formboard/formboard/cli/Arguments")) := by
  refine Met.of (EWl V) (by first | decide +kernel | rfl) hO (L0 := #[.val (.ref p0), .val (.ref p1)]) rfl ?_
  intro p e s m below meth c T H
  show Go p e below _ (T.setTop (mkF m 0 #[.val (.ref p0), .val (.ref p1)] []))
  refine G.aloadN H D29_0 (pc' := 1) rfl rfl rfl ?_
  refine G.getF H (wd110 V) Via.refl f0 D29_1 (pc' := 4) rfl ?_
  intro T1 H2
  refine G.aloadN H2 D29_4 (pc' := 5) rfl rfl rfl ?_
  refine G.getF H2 (wd100 V) Via.refl f1 D29_5 (pc' := 8) rfl ?_
  intro T3 H4
  refine G.callF H4 (xi := (⟨"java/util/List", "size", "()I"⟩ : MethodName)) (m15_size V p2 h0 H4.old f3) (wd112 V) (wd113 V) (fun s2 aa hZ => Jvm.Free.ULB.iface_rides (U := s2) hZ.alike (wd114 V)) (wd115 V) (wd116 V) (wd117 V) (wd118 V) (wd65 V) (wd36 V) (wd119 V) (by decide) f2 (argsL := []) (rest := [(.int (1 : Int32))]) (W := 1) rfl rfl (lenOf (pd_8) rfl) rfl rfl D29_8 (pc' := 13) rfl (by decide) (by decide) (by decide) (by decide) all0 ?_
  intro T5 h5_ v6 s7 H5 Q8
  obtain ⟨rfl, rfl, rfl⟩ := Q8
  show Go p e below _ (T5.setTop (mkF m 13 #[.val (.ref p0), .val (.ref p1)] [(.int (3 : Int32)), (.int (1 : Int32))]))
  refine G.icmpYes H5 D29_13 (by decide) (by decide) (pc' := 34) rfl ?_
  refine G.aloadN H5 D29_34 (pc' := 35) rfl rfl rfl ?_
  refine G.getF H5 (wd100 V) Via.refl f1 D29_35 (pc' := 38) rfl ?_
  intro T9 H10
  refine G.aloadN H10 D29_38 (pc' := 39) rfl rfl rfl ?_
  refine G.dup H10 D29_39 (pc' := 40) rfl rfl ?_
  refine G.getF H10 (wd110 V) Via.refl f0 D29_40 (pc' := 43) rfl ?_
  intro T11 H12
  refine G.dupX1 H12 D29_43 (pc' := 44) rfl rfl rfl ?_
  refine G.iconst H12 D29_44 (pc' := 45) rfl (v := (1 : Int32)) rfl ?_
  refine G.iadd H12 D29_45 (pc' := 46) rfl ?_
  show Go p e below _ (T11.setTop (mkF m 46 #[.val (.ref p0), .val (.ref p1)] [(.int (2 : Int32)), (.ref p0), (.int (1 : Int32)), (.ref p2)]))
  refine G.putF H12 (wd110 V) Via.refl f0 f4 (Or.inl (wd111 V)) (wd94 V) (ty := .int) (by decide) rfl rfl g5 (Sf.exa f4) D29_46 (pc' := 49) rfl ?_
  intro T13 h13_ H13 W14
  have F15 : Fld Z h13_ p0 "com/example/formboard/formboard/cli/Arguments" "next" "I" (.int (2 : Int32)) := Fld.same W14 f0
  have F16 := (Exa.wr W14 f2)
  have F17 := (Exa.wr W14 f4)
  have N18 : p2 ≠ p0 := Exa.ne F16 F17 (by decide)
  have F19 := (Fld.other W14 f3 (Or.inl N18))
  have F20 := (Fld.other W14 f6 (Or.inl N18))
  have F21 := (Arv.other f7 W14 q8)
  refine G.callF H13 (xi := (⟨"java/util/List", "get", "(I)Ljava/lang/Object;"⟩ : MethodName)) (m40_get V p2 p3 c0 p4 p5 p6 h13_ H13.old F19 F16 F20 F21) (wd120 V) (wd121 V) (fun s2 aa hZ => Jvm.Free.ULB.iface_rides (U := s2) hZ.alike (wd122 V)) (wd123 V) (wd124 V) (wd125 V) (wd126 V) (wd65 V) (wd36 V) (wd127 V) (by decide) F16 (argsL := [(.int (1 : Int32))]) (rest := []) (W := 0) rfl rfl (lenOf (pd_10) rfl) rfl rfl D29_49 (pc' := 54) rfl (by decide) (by decide) (by decide) (by decide) all0 ?_
  intro T22 h22_ v23 s24 H22 Q25
  obtain ⟨rfl, rfl, rfl⟩ := Q25
  show Go p e below _ (T22.setTop (mkF m 54 #[.val (.ref p0), .val (.ref p1)] [(.ref p5)]))
  have F28 := (Exa.wr W14 f9)
  refine G.castY H22 (wd141 V) (Ins.self F28) D29_54 (pc' := 57) rfl ?_
  intro T26 H27
  have F29 := (Fld.other W14 f1 (Or.inr (slot_ne (Or.inr (wd101 V)) (Or.inl (wd111 V)) (by decide) (t := (.object "java/util/List")) (t' := .int) (by decide) (by decide))))
  have K30 : Keep h0 h13_ [p0] := (Keep.wr (Keep.refl h0 [p0]) W14 (Or.inl (List.mem_of_getElem? (i := 0) rfl)))
  exact G.retA H27 (t := (.object "java/lang/String")) rfl rfl rfl D29_57 (so := []) all0 (by decide) (by decide) ⟨rfl, rfl, K30, (fun O n d w F hn0 => (Fld.other W14 F (Or.inr hn0))), F15, F29, F17⟩
set_option maxRecDepth 65536 in
set_option maxHeartbeats 40000000 in
theorem m57_subListRangeCheck (V : Env1 Z a0 n0 uu0 uu1 uu2 uu3 uu4 uu5)  (h0 : Heap) (hO : Old Z n0 h0)  :
    Met Z a0 ELs False n0 l (⟨"java/util/AbstractList", "subListRangeCheck", "(III)V"⟩ : MethodName) jdk_39_method_15_code 3 (Option.none : Option FieldType) ({ frames := 0, cells := 0, slots := 0, locals := 0 } : Room) #[(.int (2 : Int32)), (.int (3 : Int32)), (.int (3 : Int32))] h0 [] (fun v h so => (v = none ∧ so = [] ∧ h0 = h)) := by
  refine Met.of (EWl V) (by first | decide +kernel | rfl) hO (L0 := #[.val (.int (2 : Int32)), .val (.int (3 : Int32)), .val (.int (3 : Int32))]) rfl ?_
  intro p e s m below meth c T H
  show Go p e below _ (T.setTop (mkF m 0 #[.val (.int (2 : Int32)), .val (.int (3 : Int32)), .val (.int (3 : Int32))] []))
  refine G.iloadN H D16_0 (pc' := 1) rfl rfl ?_
  refine G.ifYes H D16_1 (by decide) (by decide) (pc' := 31) rfl ?_
  refine G.iloadN H D16_31 (pc' := 32) rfl rfl ?_
  refine G.iloadN H D16_32 (pc' := 33) rfl rfl ?_
  refine G.icmpYes H D16_33 (by decide) (by decide) (pc' := 63) rfl ?_
  refine G.iloadN H D16_63 (pc' := 64) rfl rfl ?_
  refine G.iloadN H D16_64 (pc' := 65) rfl rfl ?_
  refine G.icmpYes H D16_65 (by decide) (by decide) (pc' := 109) rfl ?_
  exact G.retV H rfl D16_109 (so := []) all0 (by decide) (by decide) ⟨rfl, rfl, rfl⟩
set_option maxRecDepth 65536 in
set_option maxHeartbeats 40000000 in
theorem m58_init (V : Env1 Z a0 n0 uu0 uu1 uu2 uu3 uu4 uu5) (p0 : Addr) (p1 : Addr) (h0 : Heap) (hO : Old Z n0 h0) (f0 : Exa Z h0 p0 "java/util/ArrayList$SubList") (f1 : Fld Z h0 p0 "java/util/AbstractList" "modCount" "I" (.int (0 : Int32))) (g2 : n0 ≤ p0) (f3 : Fld Z h0 p0 "java/util/ArrayList$SubList" "root" "Ljava/util/ArrayList;" .null) (f4 : Fld Z h0 p0 "java/util/ArrayList$SubList" "parent" "Ljava/util/ArrayList$SubList;" .null) (f5 : Fld Z h0 p0 "java/util/ArrayList$SubList" "offset" "I" (.int (0 : Int32))) (f6 : Fld Z h0 p0 "java/util/ArrayList$SubList" "size" "I" (.int (0 : Int32))) (f7 : Fld Z h0 p1 "java/util/AbstractList" "modCount" "I" (.int (3 : Int32))) (q8 : p1 ≠ p0) :
    Met Z a0 ELs True n0 l (⟨"java/util/ArrayList$SubList", "<init>", "(Ljava/util/ArrayList;II)V"⟩ : MethodName) jdk_130_method_1_code 4 (Option.none : Option FieldType) ({ frames := 3, cells := 0, slots := 0, locals := 36 } : Room) #[(.ref p0), (.ref p1), (.int (2 : Int32)), (.int (3 : Int32))] h0 [] (fun v h so => (v = none ∧ so = [] ∧ Keep h0 h [p0] ∧ (∀ (O n d : String) (w : Value), Fld Z h0 p0 O n d w → RoadKit.slotOf Z O n d ≠ RoadKit.slotOf Z "java/util/AbstractList" "modCount" "I" → RoadKit.slotOf Z O n d ≠ RoadKit.slotOf Z "java/util/ArrayList$SubList" "root" "Ljava/util/ArrayList;" → RoadKit.slotOf Z O n d ≠ RoadKit.slotOf Z "java/util/ArrayList$SubList" "parent" "Ljava/util/ArrayList$SubList;" → RoadKit.slotOf Z O n d ≠ RoadKit.slotOf Z "java/util/ArrayList$SubList" "offset" "I" → RoadKit.slotOf Z O n d ≠ RoadKit.slotOf Z "java/util/ArrayList$SubList" "size" "I" → Fld Z h p0 O n d w) ∧ Exa Z h p0 "java/util/ArrayList$SubList" ∧ Fld Z h p0 "java/util/AbstractList" "modCount" "I" (.int (3 : Int32)) ∧ Fld Z h p0 "java/util/ArrayList$SubList" "root" "Ljava/util/ArrayList;" (.ref p1) ∧ Fld Z h p0 "java/util/ArrayList$SubList" "parent" "Ljava/util/ArrayList$SubList;" .null ∧ Fld Z h p0 "java/util/ArrayList$SubList" "offset" "I" (.int (2 : Int32)) ∧ Fld Z h p0 "java/util/ArrayList$SubList" "size" "I" (.int (1 : Int32)))) := by
  refine Met.of (EWl V) (by first | decide +kernel | rfl) hO (L0 := #[.val (.ref p0), .val (.ref p1), .val (.int (2 : Int32)), .val (.int (3 : Int32))]) rfl ?_
  intro p e s m below meth c T H
  show Go p e below _ (T.setTop (mkF m 0 #[.val (.ref p0), .val (.ref p1), .val (.int (2 : Int32)), .val (.int (3 : Int32))] []))
  refine G.aloadN H D0_0 (pc' := 1) rfl rfl rfl ?_
  refine G.callI H (m23_init V p0 h0 H.old f0 f1 g2) rfl (wd171 V) (wd41 V) (wd44 V) (wd45 V) (by decide) (a := p0) (argsL := []) (rest := []) (W := 0) rfl rfl (lenOf (pd_1) rfl) rfl rfl D0_1 (pc' := 4) rfl (by decide) (by decide) (by decide) (by decide) all0 ?_
  intro T1 h1_ v2 s3 H1 Q4
  obtain ⟨rfl, rfl, K5, U6, F7, F8⟩ := Q4
  show Go p e below _ (T1.setTop (mkF m 4 #[.val (.ref p0), .val (.ref p1), .val (.int (2 : Int32)), .val (.int (3 : Int32))] []))
  refine G.aloadN H1 D0_4 (pc' := 5) rfl rfl rfl ?_
  refine G.aloadN H1 D0_5 (pc' := 6) rfl rfl rfl ?_
  have F9 := (U6 "java/util/ArrayList$SubList" "root" "Ljava/util/ArrayList;" .null f3 (slot_ne (Or.inr (wd176 V)) (Or.inl (wd174 V)) (by decide) (t := (.object "java/util/ArrayList")) (t' := .int) (by decide) (by decide)))
  refine G.putF H1 (wd175 V) Via.refl F9 F7 (Or.inr ⟨(wd176 V), rfl, rfl⟩) (wd165 V) (ty := (.object "java/util/ArrayList")) (by decide) rfl rfl g2 (Sf.exa F7) D0_6 (pc' := 9) rfl ?_
  intro T10 h10_ H10 W11
  have F12 : Fld Z h10_ p0 "java/util/ArrayList$SubList" "root" "Ljava/util/ArrayList;" (.ref p1) := Fld.same W11 F9
  refine G.aloadN H10 D0_9 (pc' := 10) rfl rfl rfl ?_
  refine G.aconstNull H10 D0_10 (pc' := 11) rfl ?_
  have F13 := (Exa.wr W11 F7)
  have F14 := (Fld.other W11 (U6 "java/util/ArrayList$SubList" "parent" "Ljava/util/ArrayList$SubList;" .null f4 (slot_ne (Or.inr (wd178 V)) (Or.inl (wd174 V)) (by decide) (t := (.object "java/util/ArrayList$SubList")) (t' := .int) (by decide) (by decide))) (Or.inr (slot_ne (Or.inr (wd178 V)) (Or.inr (wd176 V)) (by decide) (t := (.object "java/util/ArrayList$SubList")) (t' := (.object "java/util/ArrayList")) (by decide) (by decide))))
  refine G.putF H10 (wd177 V) Via.refl F14 F13 (Or.inr ⟨(wd178 V), rfl, rfl⟩) (wd165 V) (ty := (.object "java/util/ArrayList$SubList")) (by decide) rfl rfl g2 (Sf.exa F13) D0_11 (pc' := 14) rfl ?_
  intro T15 h15_ H15 W16
  have F17 : Fld Z h15_ p0 "java/util/ArrayList$SubList" "parent" "Ljava/util/ArrayList$SubList;" .null := Fld.same W16 F14
  refine G.aloadN H15 D0_14 (pc' := 15) rfl rfl rfl ?_
  refine G.iloadN H15 D0_15 (pc' := 16) rfl rfl ?_
  have F18 := (Exa.wr W16 F13)
  have F19 := (Fld.other W16 (Fld.other W11 (U6 "java/util/ArrayList$SubList" "offset" "I" (.int (0 : Int32)) f5 (slot_ne (Or.inr (wd180 V)) (Or.inl (wd174 V)) (by decide) (t := .int) (t' := .int) (by decide) (by decide))) (Or.inr (slot_ne (Or.inr (wd180 V)) (Or.inr (wd176 V)) (by decide) (t := .int) (t' := (.object "java/util/ArrayList")) (by decide) (by decide)))) (Or.inr (slot_ne (Or.inr (wd180 V)) (Or.inr (wd178 V)) (by decide) (t := .int) (t' := (.object "java/util/ArrayList$SubList")) (by decide) (by decide))))
  refine G.putF H15 (wd179 V) Via.refl F19 F18 (Or.inr ⟨(wd180 V), rfl, rfl⟩) (wd165 V) (ty := .int) (by decide) rfl rfl g2 (Sf.exa F18) D0_16 (pc' := 19) rfl ?_
  intro T20 h20_ H20 W21
  have F22 : Fld Z h20_ p0 "java/util/ArrayList$SubList" "offset" "I" (.int (2 : Int32)) := Fld.same W21 F19
  refine G.aloadN H20 D0_19 (pc' := 20) rfl rfl rfl ?_
  refine G.iloadN H20 D0_20 (pc' := 21) rfl rfl ?_
  refine G.iloadN H20 D0_21 (pc' := 22) rfl rfl ?_
  refine G.isub H20 D0_22 (pc' := 23) rfl ?_
  show Go p e below _ (T20.setTop (mkF m 23 #[.val (.ref p0), .val (.ref p1), .val (.int (2 : Int32)), .val (.int (3 : Int32))] [(.int (1 : Int32)), (.ref p0)]))
  have F23 := (Exa.wr W21 F18)
  have F24 := (Fld.other W21 (Fld.other W16 (Fld.other W11 (U6 "java/util/ArrayList$SubList" "size" "I" (.int (0 : Int32)) f6 (slot_ne (Or.inl (wd182 V)) (Or.inl (wd174 V)) (by decide) (t := .int) (t' := .int) (by decide) (by decide))) (Or.inr (slot_ne (Or.inl (wd182 V)) (Or.inr (wd176 V)) (by decide) (t := .int) (t' := (.object "java/util/ArrayList")) (by decide) (by decide)))) (Or.inr (slot_ne (Or.inl (wd182 V)) (Or.inr (wd178 V)) (by decide) (t := .int) (t' := (.object "java/util/ArrayList$SubList")) (by decide) (by decide)))) (Or.inr (slot_ne (Or.inl (wd182 V)) (Or.inr (wd180 V)) (by decide) (t := .int) (t' := .int) (by decide) (by decide))))
  refine G.putF H20 (wd181 V) Via.refl F24 F23 (Or.inl (wd182 V)) (wd165 V) (ty := .int) (by decide) rfl rfl g2 (Sf.exa F23) D0_23 (pc' := 26) rfl ?_
  intro T25 h25_ H25 W26
  have F27 : Fld Z h25_ p0 "java/util/ArrayList$SubList" "size" "I" (.int (1 : Int32)) := Fld.same W26 F24
  refine G.aloadN H25 D0_26 (pc' := 27) rfl rfl rfl ?_
  refine G.aloadN H25 D0_27 (pc' := 28) rfl rfl rfl ?_
  have K28 : Keep h0 h25_ [p0] := (Keep.wr (Keep.wr (Keep.wr (Keep.wr (Keep.trans (Keep.refl h0 [p0]) K5 (allS (Or.inl (List.mem_of_getElem? (i := 0) rfl)) all0)) W11 (Or.inl (List.mem_of_getElem? (i := 0) rfl))) W16 (Or.inl (List.mem_of_getElem? (i := 0) rfl))) W21 (Or.inl (List.mem_of_getElem? (i := 0) rfl))) W26 (Or.inl (List.mem_of_getElem? (i := 0) rfl)))
  have F29 := (Fld.keep f7 K28 (ninS q8 nin0))
  refine G.getF H25 (wd183 V) (Via.of (wd68 V)) F29 D0_28 (pc' := 31) rfl ?_
  intro T30 H31
  have F32 := (Exa.wr W26 F23)
  have F33 := (Fld.other W26 (Fld.other W21 (Fld.other W16 (Fld.other W11 F8 (Or.inr (slot_ne (Or.inl (wd174 V)) (Or.inr (wd176 V)) (by decide) (t := .int) (t' := (.object "java/util/ArrayList")) (by decide) (by decide)))) (Or.inr (slot_ne (Or.inl (wd174 V)) (Or.inr (wd178 V)) (by decide) (t := .int) (t' := (.object "java/util/ArrayList$SubList")) (by decide) (by decide)))) (Or.inr (slot_ne (Or.inl (wd174 V)) (Or.inr (wd180 V)) (by decide) (t := .int) (t' := .int) (by decide) (by decide)))) (Or.inr (slot_ne (Or.inl (wd174 V)) (Or.inl (wd182 V)) (by decide) (t := .int) (t' := .int) (by decide) (by decide))))
  refine G.putF H31 (wd184 V) (Via.of (wd185 V)) F33 F32 (Or.inl (wd174 V)) (wd165 V) (ty := .int) (by decide) rfl rfl g2 (Sf.exa F32) D0_31 (pc' := 34) rfl ?_
  intro T34 h34_ H34 W35
  have F36 : Fld Z h34_ p0 "java/util/AbstractList" "modCount" "I" (.int (3 : Int32)) := Fld.same W35 F33
  have F37 := (Exa.wr W35 F32)
  have F38 := (Fld.other W35 (Fld.other W26 (Fld.other W21 (Fld.other W16 F12 (Or.inr (slot_ne (Or.inr (wd176 V)) (Or.inr (wd178 V)) (by decide) (t := (.object "java/util/ArrayList")) (t' := (.object "java/util/ArrayList$SubList")) (by decide) (by decide)))) (Or.inr (slot_ne (Or.inr (wd176 V)) (Or.inr (wd180 V)) (by decide) (t := (.object "java/util/ArrayList")) (t' := .int) (by decide) (by decide)))) (Or.inr (slot_ne (Or.inr (wd176 V)) (Or.inl (wd182 V)) (by decide) (t := (.object "java/util/ArrayList")) (t' := .int) (by decide) (by decide)))) (Or.inr (slot_ne (Or.inr (wd176 V)) (Or.inl (wd174 V)) (by decide) (t := (.object "java/util/ArrayList")) (t' := .int) (by decide) (by decide))))
  have F39 := (Fld.other W35 (Fld.other W26 (Fld.other W21 F17 (Or.inr (slot_ne (Or.inr (wd178 V)) (Or.inr (wd180 V)) (by decide) (t := (.object "java/util/ArrayList$SubList")) (t' := .int) (by decide) (by decide)))) (Or.inr (slot_ne (Or.inr (wd178 V)) (Or.inl (wd182 V)) (by decide) (t := (.object "java/util/ArrayList$SubList")) (t' := .int) (by decide) (by decide)))) (Or.inr (slot_ne (Or.inr (wd178 V)) (Or.inl (wd174 V)) (by decide) (t := (.object "java/util/ArrayList$SubList")) (t' := .int) (by decide) (by decide))))
  have F40 := (Fld.other W35 (Fld.other W26 F22 (Or.inr (slot_ne (Or.inr (wd180 V)) (Or.inl (wd182 V)) (by decide) (t := .int) (t' := .int) (by decide) (by decide)))) (Or.inr (slot_ne (Or.inr (wd180 V)) (Or.inl (wd174 V)) (by decide) (t := .int) (t' := .int) (by decide) (by decide))))
  have F41 := (Fld.other W35 F27 (Or.inr (slot_ne (Or.inl (wd182 V)) (Or.inl (wd174 V)) (by decide) (t := .int) (t' := .int) (by decide) (by decide))))
  have K42 : Keep h0 h34_ [p0] := (Keep.wr (Keep.wr (Keep.wr (Keep.wr (Keep.wr (Keep.trans (Keep.refl h0 [p0]) K5 (allS (Or.inl (List.mem_of_getElem? (i := 0) rfl)) all0)) W11 (Or.inl (List.mem_of_getElem? (i := 0) rfl))) W16 (Or.inl (List.mem_of_getElem? (i := 0) rfl))) W21 (Or.inl (List.mem_of_getElem? (i := 0) rfl))) W26 (Or.inl (List.mem_of_getElem? (i := 0) rfl))) W35 (Or.inl (List.mem_of_getElem? (i := 0) rfl)))
  exact G.retV H34 rfl D0_34 (so := []) all0 (by decide) (by decide) ⟨rfl, rfl, K42, (fun O n d w F hn0 hn1 hn2 hn3 hn4 => (Fld.other W35 (Fld.other W26 (Fld.other W21 (Fld.other W16 (Fld.other W11 (U6 O n d w F hn0) (Or.inr hn1)) (Or.inr hn2)) (Or.inr hn3)) (Or.inr hn4)) (Or.inr hn0))), F37, F36, F38, F39, F40, F41⟩
set_option maxRecDepth 65536 in
set_option maxHeartbeats 40000000 in
theorem m59_subList (V : Env1 Z a0 n0 uu0 uu1 uu2 uu3 uu4 uu5) (p0 : Addr) (h0 : Heap) (hO : Old Z n0 h0) (f0 : Fld Z h0 p0 "java/util/ArrayList" "size" "I" (.int (3 : Int32))) (f1 : Fld Z h0 p0 "java/util/AbstractList" "modCount" "I" (.int (3 : Int32))) :
    Met Z a0 ELs True n0 l (⟨"java/util/ArrayList", "subList", "(II)Ljava/util/List;"⟩ : MethodName) jdk_38_method_56_code 3 (Option.some (FieldType.object "java/util/List")) ({ frames := 4, cells := 1, slots := 5, locals := 52 } : Room) #[(.ref p0), (.int (2 : Int32)), (.int (3 : Int32))] h0 [] (fun v h so => (∃ a8 : Addr, v = some (.ref a8) ∧ so = [] ∧ Keep h0 h [] ∧ h0.size ≤ a8 ∧ Exa Z h a8 "java/util/ArrayList$SubList" ∧ Fld Z h a8 "java/util/AbstractList" "modCount" "I" (.int (3 : Int32)) ∧ Fld Z h a8 "java/util/ArrayList$SubList" "root" "Ljava/util/ArrayList;" (.ref p0) ∧ Fld Z h a8 "java/util/ArrayList$SubList" "parent" "Ljava/util/ArrayList$SubList;" .null ∧ Fld Z h a8 "java/util/ArrayList$SubList" "offset" "I" (.int (2 : Int32)) ∧ Fld Z h a8 "java/util/ArrayList$SubList" "size" "I" (.int (1 : Int32)))) := by
  refine Met.of (EWl V) (by first | decide +kernel | rfl) hO (L0 := #[.val (.ref p0), .val (.int (2 : Int32)), .val (.int (3 : Int32))]) rfl ?_
  intro p e s m below meth c T H
  show Go p e below _ (T.setTop (mkF m 0 #[.val (.ref p0), .val (.int (2 : Int32)), .val (.int (3 : Int32))] []))
  refine G.iloadN H D12_0 (pc' := 1) rfl rfl ?_
  refine G.iloadN H D12_1 (pc' := 2) rfl rfl ?_
  refine G.aloadN H D12_2 (pc' := 3) rfl rfl rfl ?_
  refine G.getF H (wd69 V) Via.refl f0 D12_3 (pc' := 6) rfl ?_
  intro T1 H2
  refine G.callSU H2 (y := (⟨"java/util/ArrayList", "subListRangeCheck", "(III)V"⟩ : MethodName)) (owner := "java/util/AbstractList") (m57_subListRangeCheck V h0 H2.old) (wd160 V) (wd161 V) (wd162 V) (wd44 V) (wd163 V) (by decide) (argsL := [(.int (2 : Int32)), (.int (3 : Int32)), (.int (3 : Int32))]) (rest := []) (W := 0) rfl rfl (lenOf (pd_12) rfl) rfl rfl D12_6 (pc' := 9) rfl (by decide) (by decide) (by decide) (by decide) all0 ?_
  intro T3 h3_ v4 s5 H3 Q6
  obtain ⟨rfl, rfl, rfl⟩ := Q6
  show Go p e below _ (T3.setTop (mkF m 9 #[.val (.ref p0), .val (.int (2 : Int32)), .val (.int (3 : Int32))] []))
  refine G.new H3 (wd164 V) (wd165 V) (wd166 V) D12_9 (pc' := 12) rfl (by decide) (by decide) ?_
  intro T7 h7_ a8 ga8 H7 E9 A10 D11
  have na8 := H3.nle ga8
  refine G.dup H7 D12_12 (pc' := 13) rfl rfl ?_
  refine G.aloadN H7 D12_13 (pc' := 14) rfl rfl rfl ?_
  refine G.iloadN H7 D12_14 (pc' := 15) rfl rfl ?_
  refine G.iloadN H7 D12_15 (pc' := 16) rfl rfl ?_
  have F12 : Fld Z h7_ a8 "java/util/AbstractList" "modCount" "I" (.int (0 : Int32)) := D11 (Or.inl (wd174 V)) (ty := .int) (by decide)
  have F13 : Fld Z h7_ a8 "java/util/ArrayList$SubList" "root" "Ljava/util/ArrayList;" .null := D11 (Or.inr (wd176 V)) (ty := (.object "java/util/ArrayList")) (by decide)
  have F14 : Fld Z h7_ a8 "java/util/ArrayList$SubList" "parent" "Ljava/util/ArrayList$SubList;" .null := D11 (Or.inr (wd178 V)) (ty := (.object "java/util/ArrayList$SubList")) (by decide)
  have F15 : Fld Z h7_ a8 "java/util/ArrayList$SubList" "offset" "I" (.int (0 : Int32)) := D11 (Or.inr (wd180 V)) (ty := .int) (by decide)
  have F16 : Fld Z h7_ a8 "java/util/ArrayList$SubList" "size" "I" (.int (0 : Int32)) := D11 (Or.inl (wd182 V)) (ty := .int) (by decide)
  have F17 := (Fld.ext E9 f1)
  have N18 : p0 ≠ a8 := (Nat.ne_of_lt (Nat.lt_of_lt_of_le f0.lt (Nat.le_of_eq ga8.symm)))
  refine G.callI H7 (m58_init V a8 p0 h7_ H7.old A10 F12 na8 F13 F14 F15 F16 F17 N18) rfl (wd167 V) (wd168 V) (wd166 V) (wd170 V) (by decide) (a := a8) (argsL := [(.ref p0), (.int (2 : Int32)), (.int (3 : Int32))]) (rest := [(.ref a8)]) (W := 1) rfl rfl (lenOf (pd_13) rfl) rfl rfl D12_16 (pc' := 19) rfl (by decide) (by decide) (by decide) (by decide) all0 ?_
  intro T19 h19_ v20 s21 H19 Q22
  obtain ⟨rfl, rfl, K23, U24, F25, F26, F27, F28, F29, F30⟩ := Q22
  show Go p e below _ (T19.setTop (mkF m 19 #[.val (.ref p0), .val (.int (2 : Int32)), .val (.int (3 : Int32))] [(.ref a8)]))
  have K31 : Keep h0 h19_ [] := (Keep.trans (Keep.ext (Keep.refl h0 []) E9) K23 (allS (Or.inr (Nat.le_of_eq ga8.symm)) all0))
  exact G.retA H19 (t := (.object "java/util/List")) rfl rfl rfl D12_19 (so := []) all0 (by decide) (by decide) ⟨a8, rfl, rfl, K31, (Nat.le_of_eq ga8.symm), F25, F26, F27, F28, F29, F30⟩
set_option maxRecDepth 65536 in
set_option maxHeartbeats 40000000 in
theorem m60_operands (V : Env1 Z a0 n0 uu0 uu1 uu2 uu3 uu4 uu5) (p0 : Addr) (p1 : Addr) (h0 : Heap) (hO : Old Z n0 h0) (f0 : Fld Z h0 p0 "com/example/formboard/formboard/cli/Arguments" "args" "Ljava/util/List;" (.ref p1)) (f1 : Fld Z h0 p0 "com/example/formboard/formboard/cli/Arguments" "next" "I" (.int (2 : Int32))) (f2 : Exa Z h0 p1 "java/util/ArrayList") (f3 : Fld Z h0 p1 "java/util/ArrayList" "size" "I" (.int (3 : Int32))) (f4 : Fld Z h0 p1 "java/util/AbstractList" "modCount" "I" (.int (3 : Int32))) :
    Met Z a0 ELs True n0 l (⟨"com/example/formboard/formboard/cli/Arguments", "operands", "()Ljava/util/List;"⟩ : MethodName) prog_1_method_5_code 1 (Option.some (FieldType.object "java/util/List")) ({ frames := 5, cells := 1, slots := 5, locals := 66 } : Room) #[(.ref p0)] h0 [] (fun v h so => (∃ a15 : Addr, v = some (.ref a15) ∧ so = [] ∧ Keep h0 h [] ∧ h0.size ≤ a15 ∧ Exa Z h a15 "java/util/ArrayList$SubList" ∧ Fld Z h a15 "java/util/AbstractList" "modCount" "I" (.int (3 : Int32)) ∧ Fld Z h a15 "java/util/ArrayList$SubList" "root" "Ljava/util/ArrayList;" (.ref p1) ∧ Fld Z h a15 "java/util/ArrayList$SubList" "parent" "Ljava/util/ArrayList$SubList;" .null ∧ Fld Z h a15 "java/util/ArrayList$SubList" "offset" "I" (.int (2 : Int32)) ∧ Fld Z h a15 "java/util/ArrayList$SubList" "size" "I" (.int (1 : Int32)))) := by
  refine Met.of (EWl V) (by first | decide +kernel | rfl) hO (L0 := #[.val (.ref p0)]) rfl ?_
  intro p e s m below meth c T H
  show Go p e below _ (T.setTop (mkF m 0 #[.val (.ref p0)] []))
  refine G.aloadN H D30_0 (pc' := 1) rfl rfl rfl ?_
  refine G.getF H (wd100 V) Via.refl f0 D30_1 (pc' := 4) rfl ?_
  intro T1 H2
  refine G.aloadN H2 D30_4 (pc' := 5) rfl rfl rfl ?_
  refine G.getF H2 (wd110 V) Via.refl f1 D30_5 (pc' := 8) rfl ?_
  intro T3 H4
  refine G.aloadN H4 D30_8 (pc' := 9) rfl rfl rfl ?_
  refine G.getF H4 (wd100 V) Via.refl f0 D30_9 (pc' := 12) rfl ?_
  intro T5 H6
  refine G.callF H6 (xi := (⟨"java/util/List", "size", "()I"⟩ : MethodName)) (m15_size V p1 h0 H6.old f3) (wd112 V) (wd113 V) (fun s2 aa hZ => Jvm.Free.ULB.iface_rides (U := s2) hZ.alike (wd114 V)) (wd115 V) (wd116 V) (wd117 V) (wd118 V) (wd65 V) (wd36 V) (wd119 V) (by decide) f2 (argsL := []) (rest := [(.int (2 : Int32)), (.ref p1)]) (W := 2) rfl rfl (lenOf (pd_8) rfl) rfl rfl D30_12 (pc' := 17) rfl (by decide) (by decide) (by decide) (by decide) all0 ?_
  intro T7 h7_ v8 s9 H7 Q10
  obtain ⟨rfl, rfl, rfl⟩ := Q10
  show Go p e below _ (T7.setTop (mkF m 17 #[.val (.ref p0)] [(.int (3 : Int32)), (.int (2 : Int32)), (.ref p1)]))
  refine G.callF H7 (xi := (⟨"java/util/List", "subList", "(II)Ljava/util/List;"⟩ : MethodName)) (m59_subList V p1 h0 H7.old f3 f4) (wd152 V) (wd153 V) (fun s2 aa hZ => Jvm.Free.ULB.iface_rides (U := s2) hZ.alike (wd154 V)) (wd155 V) (wd156 V) (wd157 V) (wd158 V) (wd65 V) (wd36 V) (wd159 V) (by decide) f2 (argsL := [(.int (2 : Int32)), (.int (3 : Int32))]) (rest := []) (W := 0) rfl rfl (lenOf (pd_14) rfl) rfl rfl D30_17 (pc' := 22) rfl (by decide) (by decide) (by decide) (by decide) all0 ?_
  intro T11 h11_ v12 s13 H11 Q14
  obtain ⟨a15, rfl, rfl, K16, g17, F18, F19, F20, F21, F22, F23⟩ := Q14
  have na15 : n0 ≤ a15 := Nat.le_trans H7.le g17
  show Go p e below _ (T11.setTop (mkF m 22 #[.val (.ref p0)] [(.ref a15)]))
  have K24 : Keep h0 h11_ [] := (Keep.trans (Keep.refl h0 []) K16 all0)
  exact G.retA H11 (t := (.object "java/util/List")) rfl rfl rfl D30_22 (so := []) all0 (by decide) (by decide) ⟨a15, rfl, rfl, K24, g17, F18, F19, F20, F21, F22, F23⟩
set_option maxRecDepth 65536 in
set_option maxHeartbeats 40000000 in
theorem m61_size (V : Env1 Z a0 n0 uu0 uu1 uu2 uu3 uu4 uu5) (p0 : Addr) (p1 : Addr) (h0 : Heap) (hO : Old Z n0 h0) (f0 : Exa Z h0 p0 "java/util/ArrayList$SubList") (f1 : Fld Z h0 p0 "java/util/ArrayList$SubList" "root" "Ljava/util/ArrayList;" (.ref p1)) (f2 : Fld Z h0 p1 "java/util/AbstractList" "modCount" "I" (.int (3 : Int32))) (f3 : Fld Z h0 p0 "java/util/AbstractList" "modCount" "I" (.int (3 : Int32))) (f4 : Fld Z h0 p0 "java/util/ArrayList$SubList" "size" "I" (.int (1 : Int32))) :
    Met Z a0 ELs True n0 l (⟨"java/util/ArrayList$SubList", "size", "()I"⟩ : MethodName) jdk_130_method_5_code 1 (Option.some FieldType.int) ({ frames := 1, cells := 0, slots := 0, locals := 12 } : Room) #[(.ref p0)] h0 [] (fun v h so => (v = some (.int (1 : Int32)) ∧ so = [] ∧ h0 = h)) := by
  refine Met.of (EWl V) (by first | decide +kernel | rfl) hO (L0 := #[.val (.ref p0)]) rfl ?_
  intro p e s m below meth c T H
  show Go p e below _ (T.setTop (mkF m 0 #[.val (.ref p0)] []))
  refine G.aloadN H D3_0 (pc' := 1) rfl rfl rfl ?_
  refine G.callP H (m27_checkForComodification V p0 p1 h0 H.old f1 f2 f3) (wd193 V) (wd194 V) (wd196 V) (wd195 V) (wd166 V) (wd197 V) (by decide) f0 (argsL := []) (rest := []) (W := 0) rfl rfl (lenOf (pd_1) rfl) rfl rfl D3_1 (pc' := 4) rfl (by decide) (by decide) (by decide) (by decide) all0 ?_
  intro T1 h1_ v2 s3 H1 Q4
  obtain ⟨rfl, rfl, rfl⟩ := Q4
  show Go p e below _ (T1.setTop (mkF m 4 #[.val (.ref p0)] []))
  refine G.aloadN H1 D3_4 (pc' := 5) rfl rfl rfl ?_
  refine G.getF H1 (wd181 V) Via.refl f4 D3_5 (pc' := 8) rfl ?_
  intro T5 H6
  exact G.retI H6 rfl D3_8 (so := []) all0 (by decide) (by decide) ⟨rfl, rfl, rfl⟩
set_option maxRecDepth 65536 in
set_option maxHeartbeats 40000000 in
theorem m62_checkIndex (V : Env1 Z a0 n0 uu0 uu1 uu2 uu3 uu4 uu5)  (h0 : Heap) (hO : Old Z n0 h0)  :
    Met Z a0 ELs True n0 l (⟨"jdk/internal/util/Preconditions", "checkIndex", "(IILjava/util/function/BiFunction;)I"⟩ : MethodName) jdk_41_method_11_code 3 (Option.some FieldType.int) ({ frames := 0, cells := 0, slots := 0, locals := 0 } : Room) #[(.int (0 : Int32)), (.int (1 : Int32)), .null] h0 [] (fun v h so => (v = some (.int (0 : Int32)) ∧ so = [] ∧ h0 = h)) := by
  refine Met.of (EWl V) (by first | decide +kernel | rfl) hO (L0 := #[.val (.int (0 : Int32)), .val (.int (1 : Int32)), .val .null]) rfl ?_
  intro p e s m below meth c T H
  show Go p e below _ (T.setTop (mkF m 0 #[.val (.int (0 : Int32)), .val (.int (1 : Int32)), .val .null] []))
  refine G.iloadN H D18_0 (pc' := 1) rfl rfl ?_
  refine G.ifNo H D18_1 (pc' := 4) rfl (by decide) ?_
  refine G.iloadN H D18_4 (pc' := 5) rfl rfl ?_
  refine G.iloadN H D18_5 (pc' := 6) rfl rfl ?_
  refine G.icmpYes H D18_6 (by decide) (by decide) (pc' := 16) rfl ?_
  refine G.iloadN H D18_16 (pc' := 17) rfl rfl ?_
  exact G.retI H rfl D18_17 (so := []) all0 (by decide) (by decide) ⟨rfl, rfl, rfl⟩
set_option maxRecDepth 65536 in
set_option maxHeartbeats 40000000 in
theorem m63_checkIndex (V : Env1 Z a0 n0 uu0 uu1 uu2 uu3 uu4 uu5)  (h0 : Heap) (hO : Old Z n0 h0)  :
    Met Z a0 ELs True n0 l (⟨"java/util/Objects", "checkIndex", "(II)I"⟩ : MethodName) jdk_31_method_17_code 2 (Option.some FieldType.int) ({ frames := 1, cells := 0, slots := 0, locals := 14 } : Room) #[(.int (0 : Int32)), (.int (1 : Int32))] h0 [] (fun v h so => (v = some (.int (0 : Int32)) ∧ so = [] ∧ h0 = h)) := by
  refine Met.of (EWl V) (by first | decide +kernel | rfl) hO (L0 := #[.val (.int (0 : Int32)), .val (.int (1 : Int32))]) rfl ?_
  intro p e s m below meth c T H
  show Go p e below _ (T.setTop (mkF m 0 #[.val (.int (0 : Int32)), .val (.int (1 : Int32))] []))
  refine G.iloadN H D6_0 (pc' := 1) rfl rfl ?_
  refine G.iloadN H D6_1 (pc' := 2) rfl rfl ?_
  refine G.aconstNull H D6_2 (pc' := 3) rfl ?_
  refine G.callS H (m62_checkIndex V h0 H.old) (wd132 V) (wd133 V) (wd134 V) (wd135 V) (by decide) (argsL := [(.int (0 : Int32)), (.int (1 : Int32)), .null]) (rest := []) (W := 0) rfl rfl (lenOf (pd_9) rfl) rfl rfl D6_3 (pc' := 6) rfl (by decide) (by decide) (by decide) (by decide) all0 ?_
  intro T1 h1_ v2 s3 H1 Q4
  obtain ⟨rfl, rfl, rfl⟩ := Q4
  show Go p e below _ (T1.setTop (mkF m 6 #[.val (.int (0 : Int32)), .val (.int (1 : Int32))] [(.int (0 : Int32))]))
  exact G.retI H1 rfl D6_6 (so := []) all0 (by decide) (by decide) ⟨rfl, rfl, rfl⟩
set_option maxRecDepth 65536 in
set_option maxHeartbeats 40000000 in
theorem m64_get (V : Env1 Z a0 n0 uu0 uu1 uu2 uu3 uu4 uu5) (p0 : Addr) (p1 : Addr) (p2 : Addr) (c0 : ClassId) (p3 : Addr) (p4 : Addr) (p5 : Addr) (h0 : Heap) (hO : Old Z n0 h0) (f0 : Fld Z h0 p0 "java/util/ArrayList$SubList" "size" "I" (.int (1 : Int32))) (f1 : Exa Z h0 p0 "java/util/ArrayList$SubList") (f2 : Fld Z h0 p0 "java/util/ArrayList$SubList" "root" "Ljava/util/ArrayList;" (.ref p1)) (f3 : Fld Z h0 p1 "java/util/AbstractList" "modCount" "I" (.int (3 : Int32))) (f4 : Fld Z h0 p0 "java/util/AbstractList" "modCount" "I" (.int (3 : Int32))) (f5 : Fld Z h0 p0 "java/util/ArrayList$SubList" "offset" "I" (.int (2 : Int32))) (f6 : Exa Z h0 p1 "java/util/ArrayList") (f7 : Fld Z h0 p1 "java/util/ArrayList" "elementData" "[Ljava/lang/Object;" (.ref p2)) (f8 : Arv Z h0 p2 c0 (.object "java/lang/Object") (10 : Int32) [(.ref p3), (.ref p4), (.ref p5), .null, .null, .null, .null, .null, .null, .null] .null) :
    Met Z a0 ELs True n0 l (⟨"java/util/ArrayList$SubList", "get", "(I)Ljava/lang/Object;"⟩ : MethodName) jdk_130_method_4_code 2 (Option.some (FieldType.object "java/lang/Object")) ({ frames := 2, cells := 0, slots := 0, locals := 27 } : Room) #[(.ref p0), (.int (0 : Int32))] h0 [] (fun v h so => (v = some (.ref p5) ∧ so = [] ∧ h0 = h)) := by
  refine Met.of (EWl V) (by first | decide +kernel | rfl) hO (L0 := #[.val (.ref p0), .val (.int (0 : Int32))]) rfl ?_
  intro p e s m below meth c T H
  show Go p e below _ (T.setTop (mkF m 0 #[.val (.ref p0), .val (.int (0 : Int32))] []))
  refine G.iloadN H D2_0 (pc' := 1) rfl rfl ?_
  refine G.aloadN H D2_1 (pc' := 2) rfl rfl rfl ?_
  refine G.getF H (wd181 V) Via.refl f0 D2_2 (pc' := 5) rfl ?_
  intro T1 H2
  refine G.callS H2 (m63_checkIndex V h0 H2.old) (wd204 V) (wd129 V) (wd130 V) (wd131 V) (by decide) (argsL := [(.int (0 : Int32)), (.int (1 : Int32))]) (rest := []) (W := 0) rfl rfl (lenOf (pd_2) rfl) rfl rfl D2_5 (pc' := 8) rfl (by decide) (by decide) (by decide) (by decide) all0 ?_
  intro T3 h3_ v4 s5 H3 Q6
  obtain ⟨rfl, rfl, rfl⟩ := Q6
  show Go p e below _ (T3.setTop (mkF m 8 #[.val (.ref p0), .val (.int (0 : Int32))] [(.int (0 : Int32))]))
  refine G.pop H3 D2_8 (pc' := 9) rfl rfl ?_
  refine G.aloadN H3 D2_9 (pc' := 10) rfl rfl rfl ?_
  refine G.callP H3 (m27_checkForComodification V p0 p1 h0 H3.old f2 f3 f4) (wd193 V) (wd194 V) (wd196 V) (wd195 V) (wd166 V) (wd197 V) (by decide) f1 (argsL := []) (rest := []) (W := 0) rfl rfl (lenOf (pd_1) rfl) rfl rfl D2_10 (pc' := 13) rfl (by decide) (by decide) (by decide) (by decide) all0 ?_
  intro T7 h7_ v8 s9 H7 Q10
  obtain ⟨rfl, rfl, rfl⟩ := Q10
  show Go p e below _ (T7.setTop (mkF m 13 #[.val (.ref p0), .val (.int (0 : Int32))] []))
  refine G.aloadN H7 D2_13 (pc' := 14) rfl rfl rfl ?_
  refine G.getF H7 (wd175 V) Via.refl f2 D2_14 (pc' := 17) rfl ?_
  intro T11 H12
  refine G.aloadN H12 D2_17 (pc' := 18) rfl rfl rfl ?_
  refine G.getF H12 (wd179 V) Via.refl f5 D2_18 (pc' := 21) rfl ?_
  intro T13 H14
  refine G.iloadN H14 D2_21 (pc' := 22) rfl rfl ?_
  refine G.iadd H14 D2_22 (pc' := 23) rfl ?_
  show Go p e below _ (T13.setTop (mkF m 23 #[.val (.ref p0), .val (.int (0 : Int32))] [(.int (2 : Int32)), (.ref p1)]))
  refine G.callV H14 (m35_elementData V p1 p2 c0 p3 p4 p5 h0 H14.old f7 f8) (wd205 V) (wd137 V) (nf_sel (wd139 V)) (wd139 V) (wd138 V) (wd36 V) (wd140 V) (by decide) f6 (argsL := [(.int (2 : Int32))]) (rest := []) (W := 0) rfl rfl (lenOf (pd_10) rfl) rfl rfl D2_23 (pc' := 26) rfl (by decide) (by decide) (by decide) (by decide) all0 ?_
  intro T15 h15_ v16 s17 H15 Q18
  obtain ⟨rfl, rfl, rfl⟩ := Q18
  show Go p e below _ (T15.setTop (mkF m 26 #[.val (.ref p0), .val (.int (0 : Int32))] [(.ref p5)]))
  exact G.retA H15 (t := (.object "java/lang/Object")) rfl rfl rfl D2_26 (so := []) all0 (by decide) (by decide) ⟨rfl, rfl, rfl⟩
set_option maxRecDepth 65536 in
set_option maxHeartbeats 40000000 in
theorem m65_checkIndex (V : Env1 Z a0 n0 uu0 uu1 uu2 uu3 uu4 uu5)  (h0 : Heap) (hO : Old Z n0 h0)  :
    Met Z a0 ELs True n0 l (⟨"jdk/internal/util/Preconditions", "checkIndex", "(IILjava/util/function/BiFunction;)I"⟩ : MethodName) jdk_41_method_11_code 3 (Option.some FieldType.int) ({ frames := 0, cells := 0, slots := 0, locals := 0 } : Room) #[(.int (2 : Int32)), (.int (3 : Int32)), .null] h0 [] (fun v h so => (v = some (.int (2 : Int32)) ∧ so = [] ∧ h0 = h)) := by
  refine Met.of (EWl V) (by first | decide +kernel | rfl) hO (L0 := #[.val (.int (2 : Int32)), .val (.int (3 : Int32)), .val .null]) rfl ?_
  intro p e s m below meth c T H
  show Go p e below _ (T.setTop (mkF m 0 #[.val (.int (2 : Int32)), .val (.int (3 : Int32)), .val .null] []))
  refine G.iloadN H D18_0 (pc' := 1) rfl rfl ?_
  refine G.ifNo H D18_1 (pc' := 4) rfl (by decide) ?_
  refine G.iloadN H D18_4 (pc' := 5) rfl rfl ?_
  refine G.iloadN H D18_5 (pc' := 6) rfl rfl ?_
  refine G.icmpYes H D18_6 (by decide) (by decide) (pc' := 16) rfl ?_
  refine G.iloadN H D18_16 (pc' := 17) rfl rfl ?_
  exact G.retI H rfl D18_17 (so := []) all0 (by decide) (by decide) ⟨rfl, rfl, rfl⟩
set_option maxRecDepth 65536 in
set_option maxHeartbeats 40000000 in
theorem m66_checkIndex (V : Env1 Z a0 n0 uu0 uu1 uu2 uu3 uu4 uu5)  (h0 : Heap) (hO : Old Z n0 h0)  :
    Met Z a0 ELs True n0 l (⟨"java/util/Objects", "checkIndex", "(II)I"⟩ : MethodName) jdk_31_method_17_code 2 (Option.some FieldType.int) ({ frames := 1, cells := 0, slots := 0, locals := 14 } : Room) #[(.int (2 : Int32)), (.int (3 : Int32))] h0 [] (fun v h so => (v = some (.int (2 : Int32)) ∧ so = [] ∧ h0 = h)) := by
  refine Met.of (EWl V) (by first | decide +kernel | rfl) hO (L0 := #[.val (.int (2 : Int32)), .val (.int (3 : Int32))]) rfl ?_
  intro p e s m below meth c T H
  show Go p e below _ (T.setTop (mkF m 0 #[.val (.int (2 : Int32)), .val (.int (3 : Int32))] []))
  refine G.iloadN H D6_0 (pc' := 1) rfl rfl ?_
  refine G.iloadN H D6_1 (pc' := 2) rfl rfl ?_
  refine G.aconstNull H D6_2 (pc' := 3) rfl ?_
  refine G.callS H (m65_checkIndex V h0 H.old) (wd132 V) (wd133 V) (wd134 V) (wd135 V) (by decide) (argsL := [(.int (2 : Int32)), (.int (3 : Int32)), .null]) (rest := []) (W := 0) rfl rfl (lenOf (pd_9) rfl) rfl rfl D6_3 (pc' := 6) rfl (by decide) (by decide) (by decide) (by decide) all0 ?_
  intro T1 h1_ v2 s3 H1 Q4
  obtain ⟨rfl, rfl, rfl⟩ := Q4
  show Go p e below _ (T1.setTop (mkF m 6 #[.val (.int (2 : Int32)), .val (.int (3 : Int32))] [(.int (2 : Int32))]))
  exact G.retI H1 rfl D6_6 (so := []) all0 (by decide) (by decide) ⟨rfl, rfl, rfl⟩
set_option maxRecDepth 65536 in
set_option maxHeartbeats 40000000 in
theorem m67_get (V : Env1 Z a0 n0 uu0 uu1 uu2 uu3 uu4 uu5) (p0 : Addr) (p1 : Addr) (c0 : ClassId) (p2 : Addr) (p3 : Addr) (p4 : Addr) (h0 : Heap) (hO : Old Z n0 h0) (f0 : Fld Z h0 p0 "java/util/ArrayList" "size" "I" (.int (3 : Int32))) (f1 : Exa Z h0 p0 "java/util/ArrayList") (f2 : Fld Z h0 p0 "java/util/ArrayList" "elementData" "[Ljava/lang/Object;" (.ref p1)) (f3 : Arv Z h0 p1 c0 (.object "java/lang/Object") (10 : Int32) [(.ref p2), (.ref p3), (.ref p4), .null, .null, .null, .null, .null, .null, .null] .null) :
    Met Z a0 ELs True n0 l (⟨"java/util/ArrayList", "get", "(I)Ljava/lang/Object;"⟩ : MethodName) jdk_38_method_20_code 2 (Option.some (FieldType.object "java/lang/Object")) ({ frames := 2, cells := 0, slots := 0, locals := 27 } : Room) #[(.ref p0), (.int (2 : Int32))] h0 [] (fun v h so => (v = some (.ref p4) ∧ so = [] ∧ h0 = h)) := by
  refine Met.of (EWl V) (by first | decide +kernel | rfl) hO (L0 := #[.val (.ref p0), .val (.int (2 : Int32))]) rfl ?_
  intro p e s m below meth c T H
  show Go p e below _ (T.setTop (mkF m 0 #[.val (.ref p0), .val (.int (2 : Int32))] []))
  refine G.iloadN H D8_0 (pc' := 1) rfl rfl ?_
  refine G.aloadN H D8_1 (pc' := 2) rfl rfl rfl ?_
  refine G.getF H (wd69 V) Via.refl f0 D8_2 (pc' := 5) rfl ?_
  intro T1 H2
  refine G.callS H2 (m66_checkIndex V h0 H2.old) (wd128 V) (wd129 V) (wd130 V) (wd131 V) (by decide) (argsL := [(.int (2 : Int32)), (.int (3 : Int32))]) (rest := []) (W := 0) rfl rfl (lenOf (pd_2) rfl) rfl rfl D8_5 (pc' := 8) rfl (by decide) (by decide) (by decide) (by decide) all0 ?_
  intro T3 h3_ v4 s5 H3 Q6
  obtain ⟨rfl, rfl, rfl⟩ := Q6
  show Go p e below _ (T3.setTop (mkF m 8 #[.val (.ref p0), .val (.int (2 : Int32))] [(.int (2 : Int32))]))
  refine G.pop H3 D8_8 (pc' := 9) rfl rfl ?_
  refine G.aloadN H3 D8_9 (pc' := 10) rfl rfl rfl ?_
  refine G.iloadN H3 D8_10 (pc' := 11) rfl rfl ?_
  refine G.callV H3 (m35_elementData V p0 p1 c0 p2 p3 p4 h0 H3.old f2 f3) (wd136 V) (wd137 V) (nf_sel (wd139 V)) (wd139 V) (wd138 V) (wd36 V) (wd140 V) (by decide) f1 (argsL := [(.int (2 : Int32))]) (rest := []) (W := 0) rfl rfl (lenOf (pd_10) rfl) rfl rfl D8_11 (pc' := 14) rfl (by decide) (by decide) (by decide) (by decide) all0 ?_
  intro T7 h7_ v8 s9 H7 Q10
  obtain ⟨rfl, rfl, rfl⟩ := Q10
  show Go p e below _ (T7.setTop (mkF m 14 #[.val (.ref p0), .val (.int (2 : Int32))] [(.ref p4)]))
  exact G.retA H7 (t := (.object "java/lang/Object")) rfl rfl rfl D8_14 (so := []) all0 (by decide) (by decide) ⟨rfl, rfl, rfl⟩
set_option maxRecDepth 65536 in
set_option maxHeartbeats 40000000 in
theorem m68_nextIsOption (V : Env1 Z a0 n0 uu0 uu1 uu2 uu3 uu4 uu5) (p0 : Addr) (p1 : Addr) (p2 : Addr) (c0 : ClassId) (p3 : Addr) (p4 : Addr) (p5 : Addr) (p6 : Addr) (c1 : ClassId) (x0 : Int32) (x1 : Int32) (h0 : Heap) (hO : Old Z n0 h0) (f0 : Fld Z h0 p0 "com/example/formboard/formboard/cli/Arguments" "next" "I" (.int (2 : Int32))) (f1 : Fld Z h0 p0 "com/example/formboard/formboard/cli/Arguments" "args" "Ljava/util/List;" (.ref p1)) (f2 : Exa Z h0 p1 "java/util/ArrayList") (f3 : Fld Z h0 p1 "java/util/ArrayList" "size" "I" (.int (3 : Int32))) (f4 : Fld Z h0 p1 "java/util/ArrayList" "elementData" "[Ljava/lang/Object;" (.ref p2)) (f5 : Arv Z h0 p2 c0 (.object "java/lang/Object") (10 : Int32) [(.ref p3), (.ref p4), (.ref p5), .null, .null, .null, .null, .null, .null, .null] .null) (f6 : Exa Z h0 p5 "java/lang/String") (f7 : Fld Z h0 p5 "java/lang/String" "value" "[B" (.ref p6)) (f8 : Arv Z h0 p6 c1 .byte (2 : Int32) [(.int x0), (.int x1)] (.int 0)) (f9 : Fld Z h0 p5 "java/lang/String" "coder" "B" (.int (0 : Int32))) (cc10 : x0 = (45 : Int32)) (cc11 : x1 = (45 : Int32)) :
    Met Z a0 ELs True n0 l (⟨"com/example/formboard/formboard/cli/Arguments", "nextIsOption", "()Z"⟩ : MethodName) prog_1_method_2_code 1 (Option.some FieldType.boolean) ({ frames := 4, cells := 2, slots := 12, locals := 59 } : Room) #[(.ref p0)] h0 [p5] (fun v h so => (v = some (.int (1 : Int32)) ∧ so = [] ∧ Keep h0 h [])) := by
  refine Met.of (EWl V) (by first | decide +kernel | rfl) hO (L0 := #[.val (.ref p0)]) rfl ?_
  intro p e s m below meth c T H
  show Go p e below _ (T.setTop (mkF m 0 #[.val (.ref p0)] []))
  refine G.aloadN H D28_0 (pc' := 1) rfl rfl rfl ?_
  refine G.getF H (wd110 V) Via.refl f0 D28_1 (pc' := 4) rfl ?_
  intro T1 H2
  refine G.aloadN H2 D28_4 (pc' := 5) rfl rfl rfl ?_
  refine G.getF H2 (wd100 V) Via.refl f1 D28_5 (pc' := 8) rfl ?_
  intro T3 H4
  refine G.callF H4 (xi := (⟨"java/util/List", "size", "()I"⟩ : MethodName)) (m15_size V p1 h0 H4.old f3) (wd112 V) (wd113 V) (fun s2 aa hZ => Jvm.Free.ULB.iface_rides (U := s2) hZ.alike (wd114 V)) (wd115 V) (wd116 V) (wd117 V) (wd118 V) (wd65 V) (wd36 V) (wd119 V) (by decide) f2 (argsL := []) (rest := [(.int (2 : Int32))]) (W := 1) rfl rfl (lenOf (pd_8) rfl) rfl rfl D28_8 (pc' := 13) rfl (by decide) (by decide) (by decide) (by decide) all0 ?_
  intro T5 h5_ v6 s7 H5 Q8
  obtain ⟨rfl, rfl, rfl⟩ := Q8
  show Go p e below _ (T5.setTop (mkF m 13 #[.val (.ref p0)] [(.int (3 : Int32)), (.int (2 : Int32))]))
  refine G.icmpNo H5 D28_13 (pc' := 16) rfl (by decide) ?_
  refine G.aloadN H5 D28_16 (pc' := 17) rfl rfl rfl ?_
  refine G.getF H5 (wd100 V) Via.refl f1 D28_17 (pc' := 20) rfl ?_
  intro T9 H10
  refine G.aloadN H10 D28_20 (pc' := 21) rfl rfl rfl ?_
  refine G.getF H10 (wd110 V) Via.refl f0 D28_21 (pc' := 24) rfl ?_
  intro T11 H12
  refine G.callF H12 (xi := (⟨"java/util/List", "get", "(I)Ljava/lang/Object;"⟩ : MethodName)) (m67_get V p1 p2 c0 p3 p4 p5 h0 H12.old f3 f2 f4 f5) (wd120 V) (wd121 V) (fun s2 aa hZ => Jvm.Free.ULB.iface_rides (U := s2) hZ.alike (wd122 V)) (wd123 V) (wd124 V) (wd125 V) (wd126 V) (wd65 V) (wd36 V) (wd127 V) (by decide) f2 (argsL := [(.int (2 : Int32))]) (rest := []) (W := 0) rfl rfl (lenOf (pd_10) rfl) rfl rfl D28_24 (pc' := 29) rfl (by decide) (by decide) (by decide) (by decide) all0 ?_
  intro T13 h13_ v14 s15 H13 Q16
  obtain ⟨rfl, rfl, rfl⟩ := Q16
  show Go p e below _ (T13.setTop (mkF m 29 #[.val (.ref p0)] [(.ref p5)]))
  refine G.castY H13 (wd141 V) (Ins.self f6) D28_29 (pc' := 32) rfl ?_
  intro T17 H18
  refine G.ldcS H18 trivial (wS V) (wd214 V) (by decide) (vs := [(.int (45 : Int32)), (.int (45 : Int32))]) (z := (2 : Int32)) (by decide) (by decide) rfl (n := 8) (by decide) (by decide) (by decide) (by decide) D28_32 (pc' := 34) rfl ?_
  intro T19 h19_ a20 b22 k23 H19 E21 X24 F25 F26 A27 Q28
  have S29 : Str Z h19_ a20 b22 k23 [(45 : Int32), (45 : Int32)] := ⟨X24, F25, F26, A27, by decide, by decide⟩
  have F30 := (Exa.ext E21 f6)
  have F31 := (Fld.ext E21 f7)
  have F32 := (Arv.ext f8 E21)
  have F33 := (Fld.ext E21 f9)
  refine G.callV H19 (m46_startsWith V p5 a20 p6 c1 x0 x1 b22 k23 h19_ H19.old F30 F31 F32 F33 X24 F26 A27 F25 cc10 cc11) (wd217 V) (wd218 V) (nf_sel (wd220 V)) (wd220 V) (wd219 V) (wd7 V) (wd221 V) (by decide) F30 (argsL := [(.ref a20)]) (rest := []) (W := 0) rfl rfl (lenOf (pd_20) rfl) rfl rfl D28_34 (pc' := 37) rfl (by decide) (by decide) (by decide) (by decide) all0 ?_
  intro T34 h34_ v35 s36 H34 Q37
  obtain ⟨rfl, rfl, rfl⟩ := Q37
  show Go p e below _ (T34.setTop (mkF m 37 #[.val (.ref p0)] [(.int (1 : Int32))]))
  refine G.ifNo H34 D28_37 (pc' := 40) rfl (by decide) ?_
  refine G.iconst H34 D28_40 (pc' := 41) rfl (v := (1 : Int32)) rfl ?_
  refine G.goto H34 D28_41 (by decide) (pc' := 45) rfl ?_
  have K38 : Keep h0 h19_ [] := (Keep.ext (Keep.refl h0 []) E21)
  exact G.retN H34 (t := .boolean) rfl (by decide) D28_45 (so := []) all0 (by decide) (by decide) ⟨rfl, rfl, K38⟩
set_option maxRecDepth 65536 in
set_option maxHeartbeats 40000000 in
theorem m69_nextIsOption (V : Env1 Z a0 n0 uu0 uu1 uu2 uu3 uu4 uu5) (p0 : Addr) (p1 : Addr) (p2 : Addr) (c0 : ClassId) (p3 : Addr) (p4 : Addr) (p5 : Addr) (p6 : Addr) (c1 : ClassId) (x0 : Int32) (x1 : Int32) (h0 : Heap) (hO : Old Z n0 h0) (f0 : Fld Z h0 p0 "com/example/formboard/formboard/cli/Arguments" "next" "I" (.int (2 : Int32))) (f1 : Fld Z h0 p0 "com/example/formboard/formboard/cli/Arguments" "args" "Ljava/util/List;" (.ref p1)) (f2 : Exa Z h0 p1 "java/util/ArrayList") (f3 : Fld Z h0 p1 "java/util/ArrayList" "size" "I" (.int (3 : Int32))) (f4 : Fld Z h0 p1 "java/util/ArrayList" "elementData" "[Ljava/lang/Object;" (.ref p2)) (f5 : Arv Z h0 p2 c0 (.object "java/lang/Object") (10 : Int32) [(.ref p3), (.ref p4), (.ref p5), .null, .null, .null, .null, .null, .null, .null] .null) (f6 : Exa Z h0 p5 "java/lang/String") (f7 : Fld Z h0 p5 "java/lang/String" "value" "[B" (.ref p6)) (f8 : Arv Z h0 p6 c1 .byte (2 : Int32) [(.int x0), (.int x1)] (.int 0)) (f9 : Fld Z h0 p5 "java/lang/String" "coder" "B" (.int (0 : Int32))) (cc10 : x0 = (45 : Int32)) (cc11 : ¬ x1 = (45 : Int32)) :
    Met Z a0 ELs True n0 l (⟨"com/example/formboard/formboard/cli/Arguments", "nextIsOption", "()Z"⟩ : MethodName) prog_1_method_2_code 1 (Option.some FieldType.boolean) ({ frames := 4, cells := 2, slots := 12, locals := 59 } : Room) #[(.ref p0)] h0 [p5] (fun v h so => (v = some (.int (0 : Int32)) ∧ so = [] ∧ Keep h0 h [])) := by
  refine Met.of (EWl V) (by first | decide +kernel | rfl) hO (L0 := #[.val (.ref p0)]) rfl ?_
  intro p e s m below meth c T H
  show Go p e below _ (T.setTop (mkF m 0 #[.val (.ref p0)] []))
  refine G.aloadN H D28_0 (pc' := 1) rfl rfl rfl ?_
  refine G.getF H (wd110 V) Via.refl f0 D28_1 (pc' := 4) rfl ?_
  intro T1 H2
  refine G.aloadN H2 D28_4 (pc' := 5) rfl rfl rfl ?_
  refine G.getF H2 (wd100 V) Via.refl f1 D28_5 (pc' := 8) rfl ?_
  intro T3 H4
  refine G.callF H4 (xi := (⟨"java/util/List", "size", "()I"⟩ : MethodName)) (m15_size V p1 h0 H4.old f3) (wd112 V) (wd113 V) (fun s2 aa hZ => Jvm.Free.ULB.iface_rides (U := s2) hZ.alike (wd114 V)) (wd115 V) (wd116 V) (wd117 V) (wd118 V) (wd65 V) (wd36 V) (wd119 V) (by decide) f2 (argsL := []) (rest := [(.int (2 : Int32))]) (W := 1) rfl rfl (lenOf (pd_8) rfl) rfl rfl D28_8 (pc' := 13) rfl (by decide) (by decide) (by decide) (by decide) all0 ?_
  intro T5 h5_ v6 s7 H5 Q8
  obtain ⟨rfl, rfl, rfl⟩ := Q8
  show Go p e below _ (T5.setTop (mkF m 13 #[.val (.ref p0)] [(.int (3 : Int32)), (.int (2 : Int32))]))
  refine G.icmpNo H5 D28_13 (pc' := 16) rfl (by decide) ?_
  refine G.aloadN H5 D28_16 (pc' := 17) rfl rfl rfl ?_
  refine G.getF H5 (wd100 V) Via.refl f1 D28_17 (pc' := 20) rfl ?_
  intro T9 H10
  refine G.aloadN H10 D28_20 (pc' := 21) rfl rfl rfl ?_
  refine G.getF H10 (wd110 V) Via.refl f0 D28_21 (pc' := 24) rfl ?_
  intro T11 H12
  refine G.callF H12 (xi := (⟨"java/util/List", "get", "(I)Ljava/lang/Object;"⟩ : MethodName)) (m67_get V p1 p2 c0 p3 p4 p5 h0 H12.old f3 f2 f4 f5) (wd120 V) (wd121 V) (fun s2 aa hZ => Jvm.Free.ULB.iface_rides (U := s2) hZ.alike (wd122 V)) (wd123 V) (wd124 V) (wd125 V) (wd126 V) (wd65 V) (wd36 V) (wd127 V) (by decide) f2 (argsL := [(.int (2 : Int32))]) (rest := []) (W := 0) rfl rfl (lenOf (pd_10) rfl) rfl rfl D28_24 (pc' := 29) rfl (by decide) (by decide) (by decide) (by decide) all0 ?_
  intro T13 h13_ v14 s15 H13 Q16
  obtain ⟨rfl, rfl, rfl⟩ := Q16
  show Go p e below _ (T13.setTop (mkF m 29 #[.val (.ref p0)] [(.ref p5)]))
  refine G.castY H13 (wd141 V) (Ins.self f6) D28_29 (pc' := 32) rfl ?_
  intro T17 H18
  refine G.ldcS H18 trivial (wS V) (wd214 V) (by decide) (vs := [(.int (45 : Int32)), (.int (45 : Int32))]) (z := (2 : Int32)) (by decide) (by decide) rfl (n := 8) (by decide) (by decide) (by decide) (by decide) D28_32 (pc' := 34) rfl ?_
  intro T19 h19_ a20 b22 k23 H19 E21 X24 F25 F26 A27 Q28
  have S29 : Str Z h19_ a20 b22 k23 [(45 : Int32), (45 : Int32)] := ⟨X24, F25, F26, A27, by decide, by decide⟩
  have F30 := (Exa.ext E21 f6)
  have F31 := (Fld.ext E21 f7)
  have F32 := (Arv.ext f8 E21)
  have F33 := (Fld.ext E21 f9)
  refine G.callV H19 (m50_startsWith V p5 a20 p6 c1 x0 x1 b22 k23 h19_ H19.old F30 F31 F32 F33 X24 F26 A27 F25 cc10 cc11) (wd217 V) (wd218 V) (nf_sel (wd220 V)) (wd220 V) (wd219 V) (wd7 V) (wd221 V) (by decide) F30 (argsL := [(.ref a20)]) (rest := []) (W := 0) rfl rfl (lenOf (pd_20) rfl) rfl rfl D28_34 (pc' := 37) rfl (by decide) (by decide) (by decide) (by decide) all0 ?_
  intro T34 h34_ v35 s36 H34 Q37
  obtain ⟨rfl, rfl, rfl⟩ := Q37
  show Go p e below _ (T34.setTop (mkF m 37 #[.val (.ref p0)] [(.int (0 : Int32))]))
  refine G.ifYes H34 D28_37 (by decide) (by decide) (pc' := 44) rfl ?_
  refine G.iconst H34 D28_44 (pc' := 45) rfl (v := (0 : Int32)) rfl ?_
  have K38 : Keep h0 h19_ [] := (Keep.ext (Keep.refl h0 []) E21)
  exact G.retN H34 (t := .boolean) rfl (by decide) D28_45 (so := []) all0 (by decide) (by decide) ⟨rfl, rfl, K38⟩
set_option maxRecDepth 65536 in
set_option maxHeartbeats 40000000 in
theorem m70_nextIsOption (V : Env1 Z a0 n0 uu0 uu1 uu2 uu3 uu4 uu5) (p0 : Addr) (p1 : Addr) (p2 : Addr) (c0 : ClassId) (p3 : Addr) (p4 : Addr) (p5 : Addr) (p6 : Addr) (c1 : ClassId) (x0 : Int32) (x1 : Int32) (h0 : Heap) (hO : Old Z n0 h0) (f0 : Fld Z h0 p0 "com/example/formboard/formboard/cli/Arguments" "next" "I" (.int (2 : Int32))) (f1 : Fld Z h0 p0 "com/example/formboard/formboard/cli/Arguments" "args" "Ljava/util/List;" (.ref p1)) (f2 : Exa Z h0 p1 "java/util/ArrayList") (f3 : Fld Z h0 p1 "java/util/ArrayList" "size" "I" (.int (3 : Int32))) (f4 : Fld Z h0 p1 "java/util/ArrayList" "elementData" "[Ljava/lang/Object;" (.ref p2)) (f5 : Arv Z h0 p2 c0 (.object "java/lang/Object") (10 : Int32) [(.ref p3), (.ref p4), (.ref p5), .null, .null, .null, .null, .null, .null, .null] .null) (f6 : Exa Z h0 p5 "java/lang/String") (f7 : Fld Z h0 p5 "java/lang/String" "value" "[B" (.ref p6)) (f8 : Arv Z h0 p6 c1 .byte (2 : Int32) [(.int x0), (.int x1)] (.int 0)) (f9 : Fld Z h0 p5 "java/lang/String" "coder" "B" (.int (0 : Int32))) (cc10 : ¬ x0 = (45 : Int32)) :
    Met Z a0 ELs True n0 l (⟨"com/example/formboard/formboard/cli/Arguments", "nextIsOption", "()Z"⟩ : MethodName) prog_1_method_2_code 1 (Option.some FieldType.boolean) ({ frames := 4, cells := 2, slots := 12, locals := 59 } : Room) #[(.ref p0)] h0 [p5] (fun v h so => (v = some (.int (0 : Int32)) ∧ so = [] ∧ Keep h0 h [])) := by
  refine Met.of (EWl V) (by first | decide +kernel | rfl) hO (L0 := #[.val (.ref p0)]) rfl ?_
  intro p e s m below meth c T H
  show Go p e below _ (T.setTop (mkF m 0 #[.val (.ref p0)] []))
  refine G.aloadN H D28_0 (pc' := 1) rfl rfl rfl ?_
  refine G.getF H (wd110 V) Via.refl f0 D28_1 (pc' := 4) rfl ?_
  intro T1 H2
  refine G.aloadN H2 D28_4 (pc' := 5) rfl rfl rfl ?_
  refine G.getF H2 (wd100 V) Via.refl f1 D28_5 (pc' := 8) rfl ?_
  intro T3 H4
  refine G.callF H4 (xi := (⟨"java/util/List", "size", "()I"⟩ : MethodName)) (m15_size V p1 h0 H4.old f3) (wd112 V) (wd113 V) (fun s2 aa hZ => Jvm.Free.ULB.iface_rides (U := s2) hZ.alike (wd114 V)) (wd115 V) (wd116 V) (wd117 V) (wd118 V) (wd65 V) (wd36 V) (wd119 V) (by decide) f2 (argsL := []) (rest := [(.int (2 : Int32))]) (W := 1) rfl rfl (lenOf (pd_8) rfl) rfl rfl D28_8 (pc' := 13) rfl (by decide) (by decide) (by decide) (by decide) all0 ?_
  intro T5 h5_ v6 s7 H5 Q8
  obtain ⟨rfl, rfl, rfl⟩ := Q8
  show Go p e below _ (T5.setTop (mkF m 13 #[.val (.ref p0)] [(.int (3 : Int32)), (.int (2 : Int32))]))
  refine G.icmpNo H5 D28_13 (pc' := 16) rfl (by decide) ?_
  refine G.aloadN H5 D28_16 (pc' := 17) rfl rfl rfl ?_
  refine G.getF H5 (wd100 V) Via.refl f1 D28_17 (pc' := 20) rfl ?_
  intro T9 H10
  refine G.aloadN H10 D28_20 (pc' := 21) rfl rfl rfl ?_
  refine G.getF H10 (wd110 V) Via.refl f0 D28_21 (pc' := 24) rfl ?_
  intro T11 H12
  refine G.callF H12 (xi := (⟨"java/util/List", "get", "(I)Ljava/lang/Object;"⟩ : MethodName)) (m67_get V p1 p2 c0 p3 p4 p5 h0 H12.old f3 f2 f4 f5) (wd120 V) (wd121 V) (fun s2 aa hZ => Jvm.Free.ULB.iface_rides (U := s2) hZ.alike (wd122 V)) (wd123 V) (wd124 V) (wd125 V) (wd126 V) (wd65 V) (wd36 V) (wd127 V) (by decide) f2 (argsL := [(.int (2 : Int32))]) (rest := []) (W := 0) rfl rfl (lenOf (pd_10) rfl) rfl rfl D28_24 (pc' := 29) rfl (by decide) (by decide) (by decide) (by decide) all0 ?_
  intro T13 h13_ v14 s15 H13 Q16
  obtain ⟨rfl, rfl, rfl⟩ := Q16
  show Go p e below _ (T13.setTop (mkF m 29 #[.val (.ref p0)] [(.ref p5)]))
  refine G.castY H13 (wd141 V) (Ins.self f6) D28_29 (pc' := 32) rfl ?_
  intro T17 H18
  refine G.ldcS H18 trivial (wS V) (wd214 V) (by decide) (vs := [(.int (45 : Int32)), (.int (45 : Int32))]) (z := (2 : Int32)) (by decide) (by decide) rfl (n := 8) (by decide) (by decide) (by decide) (by decide) D28_32 (pc' := 34) rfl ?_
  intro T19 h19_ a20 b22 k23 H19 E21 X24 F25 F26 A27 Q28
  have S29 : Str Z h19_ a20 b22 k23 [(45 : Int32), (45 : Int32)] := ⟨X24, F25, F26, A27, by decide, by decide⟩
  have F30 := (Exa.ext E21 f6)
  have F31 := (Fld.ext E21 f7)
  have F32 := (Arv.ext f8 E21)
  have F33 := (Fld.ext E21 f9)
  refine G.callV H19 (m54_startsWith V p5 a20 p6 c1 x0 x1 b22 k23 h19_ H19.old F30 F31 F32 F33 X24 F26 A27 F25 cc10) (wd217 V) (wd218 V) (nf_sel (wd220 V)) (wd220 V) (wd219 V) (wd7 V) (wd221 V) (by decide) F30 (argsL := [(.ref a20)]) (rest := []) (W := 0) rfl rfl (lenOf (pd_20) rfl) rfl rfl D28_34 (pc' := 37) rfl (by decide) (by decide) (by decide) (by decide) all0 ?_
  intro T34 h34_ v35 s36 H34 Q37
  obtain ⟨rfl, rfl, rfl⟩ := Q37
  show Go p e below _ (T34.setTop (mkF m 37 #[.val (.ref p0)] [(.int (0 : Int32))]))
  refine G.ifYes H34 D28_37 (by decide) (by decide) (pc' := 44) rfl ?_
  refine G.iconst H34 D28_44 (pc' := 45) rfl (v := (0 : Int32)) rfl ?_
  have K38 : Keep h0 h19_ [] := (Keep.ext (Keep.refl h0 []) E21)
  exact G.retN H34 (t := .boolean) rfl (by decide) D28_45 (so := []) all0 (by decide) (by decide) ⟨rfl, rfl, K38⟩
set_option maxRecDepth 65536 in
set_option maxHeartbeats 40000000 in
theorem m71_value (V : Env1 Z a0 n0 uu0 uu1 uu2 uu3 uu4 uu5) (p0 : Addr) (p1 : Addr) (p2 : Addr) (p3 : Addr) (c0 : ClassId) (p4 : Addr) (p5 : Addr) (p6 : Addr) (h0 : Heap) (hO : Old Z n0 h0) (f0 : Fld Z h0 p0 "com/example/formboard/formboard/cli/Arguments" "next" "I" (.int (2 : Int32))) (f1 : Fld Z h0 p0 "com/example/formboard/formboard/cli/Arguments" "args" "Ljava/util/List;" (.ref p2)) (f2 : Exa Z h0 p2 "java/util/ArrayList") (f3 : Fld Z h0 p2 "java/util/ArrayList" "size" "I" (.int (3 : Int32))) (f4 : Exa Z h0 p0 "com/example/formboard/formboard/cli/Arguments") (g5 : n0 ≤ p0) (f6 : Fld Z h0 p2 "java/util/ArrayList" "elementData" "[Ljava/lang/Object;" (.ref p3)) (f7 : Arv Z h0 p3 c0 (.object "java/lang/Object") (10 : Int32) [(.ref p4), (.ref p5), (.ref p6), .null, .null, .null, .null, .null, .null, .null] .null) (q8 : p3 ≠ p0) (f9 : Exa Z h0 p6 "java/lang/String") :
    Met Z a0 ELs True n0 l (⟨"com/example/formboard/formboard/cli/Arguments", "value", "(Ljava/lang/String;)Ljava/lang/String;"⟩ : MethodName) prog_1_method_4_code 2 (Option.some (FieldType.object "java/lang/String")) ({ frames := 3, cells := 0, slots := 0, locals := 40 } : Room) #[(.ref p0), (.ref p1)] h0 [] (fun v h so => (v = some (.ref p6) ∧ so = [] ∧ Keep h0 h [p0] ∧ (∀ (O n d : String) (w : Value), Fld Z h0 p0 O n d w → RoadKit.slotOf Z O n d ≠ RoadKit.slotOf Z "com/example/formboard/formboard/cli/Arguments" "next" "I" → Fld Z h p0 O n d w) ∧ Fld Z h p0 "com/example/formboard/formboard/cli/Arguments" "next" "I" (.int (3 : Int32)) ∧ Fld Z h p0 "com/example/formboard/formboard/cli/Arguments" "args" "Ljava/util/List;" (.ref p2) ∧ Exa Z h p0 "com/example/formboard/formboard/cli/Arguments")) := by
  refine Met.of (EWl V) (by first | decide +kernel | rfl) hO (L0 := #[.val (.ref p0), .val (.ref p1)]) rfl ?_
  intro p e s m below meth c T H
  show Go p e below _ (T.setTop (mkF m 0 #[.val (.ref p0), .val (.ref p1)] []))
  refine G.aloadN H D29_0 (pc' := 1) rfl rfl rfl ?_
  refine G.getF H (wd110 V) Via.refl f0 D29_1 (pc' := 4) rfl ?_
  intro T1 H2
  refine G.aloadN H2 D29_4 (pc' := 5) rfl rfl rfl ?_
  refine G.getF H2 (wd100 V) Via.refl f1 D29_5 (pc' := 8) rfl ?_
  intro T3 H4
  refine G.callF H4 (xi := (⟨"java/util/List", "size", "()I"⟩ : MethodName)) (m15_size V p2 h0 H4.old f3) (wd112 V) (wd113 V) (fun s2 aa hZ => Jvm.Free.ULB.iface_rides (U := s2) hZ.alike (wd114 V)) (wd115 V) (wd116 V) (wd117 V) (wd118 V) (wd65 V) (wd36 V) (wd119 V) (by decide) f2 (argsL := []) (rest := [(.int (2 : Int32))]) (W := 1) rfl rfl (lenOf (pd_8) rfl) rfl rfl D29_8 (pc' := 13) rfl (by decide) (by decide) (by decide) (by decide) all0 ?_
  intro T5 h5_ v6 s7 H5 Q8
  obtain ⟨rfl, rfl, rfl⟩ := Q8
  show Go p e below _ (T5.setTop (mkF m 13 #[.val (.ref p0), .val (.ref p1)] [(.int (3 : Int32)), (.int (2 : Int32))]))
  refine G.icmpYes H5 D29_13 (by decide) (by decide) (pc' := 34) rfl ?_
  refine G.aloadN H5 D29_34 (pc' := 35) rfl rfl rfl ?_
  refine G.getF H5 (wd100 V) Via.refl f1 D29_35 (pc' := 38) rfl ?_
  intro T9 H10
  refine G.aloadN H10 D29_38 (pc' := 39) rfl rfl rfl ?_
  refine G.dup H10 D29_39 (pc' := 40) rfl rfl ?_
  refine G.getF H10 (wd110 V) Via.refl f0 D29_40 (pc' := 43) rfl ?_
  intro T11 H12
  refine G.dupX1 H12 D29_43 (pc' := 44) rfl rfl rfl ?_
  refine G.iconst H12 D29_44 (pc' := 45) rfl (v := (1 : Int32)) rfl ?_
  refine G.iadd H12 D29_45 (pc' := 46) rfl ?_
  show Go p e below _ (T11.setTop (mkF m 46 #[.val (.ref p0), .val (.ref p1)] [(.int (3 : Int32)), (.ref p0), (.int (2 : Int32)), (.ref p2)]))
  refine G.putF H12 (wd110 V) Via.refl f0 f4 (Or.inl (wd111 V)) (wd94 V) (ty := .int) (by decide) rfl rfl g5 (Sf.exa f4) D29_46 (pc' := 49) rfl ?_
  intro T13 h13_ H13 W14
  have F15 : Fld Z h13_ p0 "com/example/formboard/formboard/cli/Arguments" "next" "I" (.int (3 : Int32)) := Fld.same W14 f0
  have F16 := (Exa.wr W14 f2)
  have F17 := (Exa.wr W14 f4)
  have N18 : p2 ≠ p0 := Exa.ne F16 F17 (by decide)
  have F19 := (Fld.other W14 f3 (Or.inl N18))
  have F20 := (Fld.other W14 f6 (Or.inl N18))
  have F21 := (Arv.other f7 W14 q8)
  refine G.callF H13 (xi := (⟨"java/util/List", "get", "(I)Ljava/lang/Object;"⟩ : MethodName)) (m67_get V p2 p3 c0 p4 p5 p6 h13_ H13.old F19 F16 F20 F21) (wd120 V) (wd121 V) (fun s2 aa hZ => Jvm.Free.ULB.iface_rides (U := s2) hZ.alike (wd122 V)) (wd123 V) (wd124 V) (wd125 V) (wd126 V) (wd65 V) (wd36 V) (wd127 V) (by decide) F16 (argsL := [(.int (2 : Int32))]) (rest := []) (W := 0) rfl rfl (lenOf (pd_10) rfl) rfl rfl D29_49 (pc' := 54) rfl (by decide) (by decide) (by decide) (by decide) all0 ?_
  intro T22 h22_ v23 s24 H22 Q25
  obtain ⟨rfl, rfl, rfl⟩ := Q25
  show Go p e below _ (T22.setTop (mkF m 54 #[.val (.ref p0), .val (.ref p1)] [(.ref p6)]))
  have F28 := (Exa.wr W14 f9)
  refine G.castY H22 (wd141 V) (Ins.self F28) D29_54 (pc' := 57) rfl ?_
  intro T26 H27
  have F29 := (Fld.other W14 f1 (Or.inr (slot_ne (Or.inr (wd101 V)) (Or.inl (wd111 V)) (by decide) (t := (.object "java/util/List")) (t' := .int) (by decide) (by decide))))
  have K30 : Keep h0 h13_ [p0] := (Keep.wr (Keep.refl h0 [p0]) W14 (Or.inl (List.mem_of_getElem? (i := 0) rfl)))
  exact G.retA H27 (t := (.object "java/lang/String")) rfl rfl rfl D29_57 (so := []) all0 (by decide) (by decide) ⟨rfl, rfl, K30, (fun O n d w F hn0 => (Fld.other W14 F (Or.inr hn0))), F15, F29, F17⟩
set_option maxRecDepth 65536 in
set_option maxHeartbeats 40000000 in
theorem m72_subListRangeCheck (V : Env1 Z a0 n0 uu0 uu1 uu2 uu3 uu4 uu5)  (h0 : Heap) (hO : Old Z n0 h0)  :
    Met Z a0 ELs False n0 l (⟨"java/util/AbstractList", "subListRangeCheck", "(III)V"⟩ : MethodName) jdk_39_method_15_code 3 (Option.none : Option FieldType) ({ frames := 0, cells := 0, slots := 0, locals := 0 } : Room) #[(.int (3 : Int32)), (.int (3 : Int32)), (.int (3 : Int32))] h0 [] (fun v h so => (v = none ∧ so = [] ∧ h0 = h)) := by
  refine Met.of (EWl V) (by first | decide +kernel | rfl) hO (L0 := #[.val (.int (3 : Int32)), .val (.int (3 : Int32)), .val (.int (3 : Int32))]) rfl ?_
  intro p e s m below meth c T H
  show Go p e below _ (T.setTop (mkF m 0 #[.val (.int (3 : Int32)), .val (.int (3 : Int32)), .val (.int (3 : Int32))] []))
  refine G.iloadN H D16_0 (pc' := 1) rfl rfl ?_
  refine G.ifYes H D16_1 (by decide) (by decide) (pc' := 31) rfl ?_
  refine G.iloadN H D16_31 (pc' := 32) rfl rfl ?_
  refine G.iloadN H D16_32 (pc' := 33) rfl rfl ?_
  refine G.icmpYes H D16_33 (by decide) (by decide) (pc' := 63) rfl ?_
  refine G.iloadN H D16_63 (pc' := 64) rfl rfl ?_
  refine G.iloadN H D16_64 (pc' := 65) rfl rfl ?_
  refine G.icmpYes H D16_65 (by decide) (by decide) (pc' := 109) rfl ?_
  exact G.retV H rfl D16_109 (so := []) all0 (by decide) (by decide) ⟨rfl, rfl, rfl⟩
set_option maxRecDepth 65536 in
set_option maxHeartbeats 40000000 in
theorem m73_init (V : Env1 Z a0 n0 uu0 uu1 uu2 uu3 uu4 uu5) (p0 : Addr) (p1 : Addr) (h0 : Heap) (hO : Old Z n0 h0) (f0 : Exa Z h0 p0 "java/util/ArrayList$SubList") (f1 : Fld Z h0 p0 "java/util/AbstractList" "modCount" "I" (.int (0 : Int32))) (g2 : n0 ≤ p0) (f3 : Fld Z h0 p0 "java/util/ArrayList$SubList" "root" "Ljava/util/ArrayList;" .null) (f4 : Fld Z h0 p0 "java/util/ArrayList$SubList" "parent" "Ljava/util/ArrayList$SubList;" .null) (f5 : Fld Z h0 p0 "java/util/ArrayList$SubList" "offset" "I" (.int (0 : Int32))) (f6 : Fld Z h0 p0 "java/util/ArrayList$SubList" "size" "I" (.int (0 : Int32))) (f7 : Fld Z h0 p1 "java/util/AbstractList" "modCount" "I" (.int (3 : Int32))) (q8 : p1 ≠ p0) :
    Met Z a0 ELs True n0 l (⟨"java/util/ArrayList$SubList", "<init>", "(Ljava/util/ArrayList;II)V"⟩ : MethodName) jdk_130_method_1_code 4 (Option.none : Option FieldType) ({ frames := 3, cells := 0, slots := 0, locals := 36 } : Room) #[(.ref p0), (.ref p1), (.int (3 : Int32)), (.int (3 : Int32))] h0 [] (fun v h so => (v = none ∧ so = [] ∧ Keep h0 h [p0] ∧ (∀ (O n d : String) (w : Value), Fld Z h0 p0 O n d w → RoadKit.slotOf Z O n d ≠ RoadKit.slotOf Z "java/util/AbstractList" "modCount" "I" → RoadKit.slotOf Z O n d ≠ RoadKit.slotOf Z "java/util/ArrayList$SubList" "root" "Ljava/util/ArrayList;" → RoadKit.slotOf Z O n d ≠ RoadKit.slotOf Z "java/util/ArrayList$SubList" "parent" "Ljava/util/ArrayList$SubList;" → RoadKit.slotOf Z O n d ≠ RoadKit.slotOf Z "java/util/ArrayList$SubList" "offset" "I" → RoadKit.slotOf Z O n d ≠ RoadKit.slotOf Z "java/util/ArrayList$SubList" "size" "I" → Fld Z h p0 O n d w) ∧ Exa Z h p0 "java/util/ArrayList$SubList" ∧ Fld Z h p0 "java/util/AbstractList" "modCount" "I" (.int (3 : Int32)) ∧ Fld Z h p0 "java/util/ArrayList$SubList" "root" "Ljava/util/ArrayList;" (.ref p1) ∧ Fld Z h p0 "java/util/ArrayList$SubList" "parent" "Ljava/util/ArrayList$SubList;" .null ∧ Fld Z h p0 "java/util/ArrayList$SubList" "offset" "I" (.int (3 : Int32)) ∧ Fld Z h p0 "java/util/ArrayList$SubList" "size" "I" (.int (0 : Int32)))) := by
  refine Met.of (EWl V) (by first | decide +kernel | rfl) hO (L0 := #[.val (.ref p0), .val (.ref p1), .val (.int (3 : Int32)), .val (.int (3 : Int32))]) rfl ?_
  intro p e s m below meth c T H
  show Go p e below _ (T.setTop (mkF m 0 #[.val (.ref p0), .val (.ref p1), .val (.int (3 : Int32)), .val (.int (3 : Int32))] []))
  refine G.aloadN H D0_0 (pc' := 1) rfl rfl rfl ?_
  refine G.callI H (m23_init V p0 h0 H.old f0 f1 g2) rfl (wd171 V) (wd41 V) (wd44 V) (wd45 V) (by decide) (a := p0) (argsL := []) (rest := []) (W := 0) rfl rfl (lenOf (pd_1) rfl) rfl rfl D0_1 (pc' := 4) rfl (by decide) (by decide) (by decide) (by decide) all0 ?_
  intro T1 h1_ v2 s3 H1 Q4
  obtain ⟨rfl, rfl, K5, U6, F7, F8⟩ := Q4
  show Go p e below _ (T1.setTop (mkF m 4 #[.val (.ref p0), .val (.ref p1), .val (.int (3 : Int32)), .val (.int (3 : Int32))] []))
  refine G.aloadN H1 D0_4 (pc' := 5) rfl rfl rfl ?_
  refine G.aloadN H1 D0_5 (pc' := 6) rfl rfl rfl ?_
  have F9 := (U6 "java/util/ArrayList$SubList" "root" "Ljava/util/ArrayList;" .null f3 (slot_ne (Or.inr (wd176 V)) (Or.inl (wd174 V)) (by decide) (t := (.object "java/util/ArrayList")) (t' := .int) (by decide) (by decide)))
  refine G.putF H1 (wd175 V) Via.refl F9 F7 (Or.inr ⟨(wd176 V), rfl, rfl⟩) (wd165 V) (ty := (.object "java/util/ArrayList")) (by decide) rfl rfl g2 (Sf.exa F7) D0_6 (pc' := 9) rfl ?_
  intro T10 h10_ H10 W11
  have F12 : Fld Z h10_ p0 "java/util/ArrayList$SubList" "root" "Ljava/util/ArrayList;" (.ref p1) := Fld.same W11 F9
  refine G.aloadN H10 D0_9 (pc' := 10) rfl rfl rfl ?_
  refine G.aconstNull H10 D0_10 (pc' := 11) rfl ?_
  have F13 := (Exa.wr W11 F7)
  have F14 := (Fld.other W11 (U6 "java/util/ArrayList$SubList" "parent" "Ljava/util/ArrayList$SubList;" .null f4 (slot_ne (Or.inr (wd178 V)) (Or.inl (wd174 V)) (by decide) (t := (.object "java/util/ArrayList$SubList")) (t' := .int) (by decide) (by decide))) (Or.inr (slot_ne (Or.inr (wd178 V)) (Or.inr (wd176 V)) (by decide) (t := (.object "java/util/ArrayList$SubList")) (t' := (.object "java/util/ArrayList")) (by decide) (by decide))))
  refine G.putF H10 (wd177 V) Via.refl F14 F13 (Or.inr ⟨(wd178 V), rfl, rfl⟩) (wd165 V) (ty := (.object "java/util/ArrayList$SubList")) (by decide) rfl rfl g2 (Sf.exa F13) D0_11 (pc' := 14) rfl ?_
  intro T15 h15_ H15 W16
  have F17 : Fld Z h15_ p0 "java/util/ArrayList$SubList" "parent" "Ljava/util/ArrayList$SubList;" .null := Fld.same W16 F14
  refine G.aloadN H15 D0_14 (pc' := 15) rfl rfl rfl ?_
  refine G.iloadN H15 D0_15 (pc' := 16) rfl rfl ?_
  have F18 := (Exa.wr W16 F13)
  have F19 := (Fld.other W16 (Fld.other W11 (U6 "java/util/ArrayList$SubList" "offset" "I" (.int (0 : Int32)) f5 (slot_ne (Or.inr (wd180 V)) (Or.inl (wd174 V)) (by decide) (t := .int) (t' := .int) (by decide) (by decide))) (Or.inr (slot_ne (Or.inr (wd180 V)) (Or.inr (wd176 V)) (by decide) (t := .int) (t' := (.object "java/util/ArrayList")) (by decide) (by decide)))) (Or.inr (slot_ne (Or.inr (wd180 V)) (Or.inr (wd178 V)) (by decide) (t := .int) (t' := (.object "java/util/ArrayList$SubList")) (by decide) (by decide))))
  refine G.putF H15 (wd179 V) Via.refl F19 F18 (Or.inr ⟨(wd180 V), rfl, rfl⟩) (wd165 V) (ty := .int) (by decide) rfl rfl g2 (Sf.exa F18) D0_16 (pc' := 19) rfl ?_
  intro T20 h20_ H20 W21
  have F22 : Fld Z h20_ p0 "java/util/ArrayList$SubList" "offset" "I" (.int (3 : Int32)) := Fld.same W21 F19
  refine G.aloadN H20 D0_19 (pc' := 20) rfl rfl rfl ?_
  refine G.iloadN H20 D0_20 (pc' := 21) rfl rfl ?_
  refine G.iloadN H20 D0_21 (pc' := 22) rfl rfl ?_
  refine G.isub H20 D0_22 (pc' := 23) rfl ?_
  show Go p e below _ (T20.setTop (mkF m 23 #[.val (.ref p0), .val (.ref p1), .val (.int (3 : Int32)), .val (.int (3 : Int32))] [(.int (0 : Int32)), (.ref p0)]))
  have F23 := (Exa.wr W21 F18)
  have F24 := (Fld.other W21 (Fld.other W16 (Fld.other W11 (U6 "java/util/ArrayList$SubList" "size" "I" (.int (0 : Int32)) f6 (slot_ne (Or.inl (wd182 V)) (Or.inl (wd174 V)) (by decide) (t := .int) (t' := .int) (by decide) (by decide))) (Or.inr (slot_ne (Or.inl (wd182 V)) (Or.inr (wd176 V)) (by decide) (t := .int) (t' := (.object "java/util/ArrayList")) (by decide) (by decide)))) (Or.inr (slot_ne (Or.inl (wd182 V)) (Or.inr (wd178 V)) (by decide) (t := .int) (t' := (.object "java/util/ArrayList$SubList")) (by decide) (by decide)))) (Or.inr (slot_ne (Or.inl (wd182 V)) (Or.inr (wd180 V)) (by decide) (t := .int) (t' := .int) (by decide) (by decide))))
  refine G.putF H20 (wd181 V) Via.refl F24 F23 (Or.inl (wd182 V)) (wd165 V) (ty := .int) (by decide) rfl rfl g2 (Sf.exa F23) D0_23 (pc' := 26) rfl ?_
  intro T25 h25_ H25 W26
  have F27 : Fld Z h25_ p0 "java/util/ArrayList$SubList" "size" "I" (.int (0 : Int32)) := Fld.same W26 F24
  refine G.aloadN H25 D0_26 (pc' := 27) rfl rfl rfl ?_
  refine G.aloadN H25 D0_27 (pc' := 28) rfl rfl rfl ?_
  have K28 : Keep h0 h25_ [p0] := (Keep.wr (Keep.wr (Keep.wr (Keep.wr (Keep.trans (Keep.refl h0 [p0]) K5 (allS (Or.inl (List.mem_of_getElem? (i := 0) rfl)) all0)) W11 (Or.inl (List.mem_of_getElem? (i := 0) rfl))) W16 (Or.inl (List.mem_of_getElem? (i := 0) rfl))) W21 (Or.inl (List.mem_of_getElem? (i := 0) rfl))) W26 (Or.inl (List.mem_of_getElem? (i := 0) rfl)))
  have F29 := (Fld.keep f7 K28 (ninS q8 nin0))
  refine G.getF H25 (wd183 V) (Via.of (wd68 V)) F29 D0_28 (pc' := 31) rfl ?_
  intro T30 H31
  have F32 := (Exa.wr W26 F23)
  have F33 := (Fld.other W26 (Fld.other W21 (Fld.other W16 (Fld.other W11 F8 (Or.inr (slot_ne (Or.inl (wd174 V)) (Or.inr (wd176 V)) (by decide) (t := .int) (t' := (.object "java/util/ArrayList")) (by decide) (by decide)))) (Or.inr (slot_ne (Or.inl (wd174 V)) (Or.inr (wd178 V)) (by decide) (t := .int) (t' := (.object "java/util/ArrayList$SubList")) (by decide) (by decide)))) (Or.inr (slot_ne (Or.inl (wd174 V)) (Or.inr (wd180 V)) (by decide) (t := .int) (t' := .int) (by decide) (by decide)))) (Or.inr (slot_ne (Or.inl (wd174 V)) (Or.inl (wd182 V)) (by decide) (t := .int) (t' := .int) (by decide) (by decide))))
  refine G.putF H31 (wd184 V) (Via.of (wd185 V)) F33 F32 (Or.inl (wd174 V)) (wd165 V) (ty := .int) (by decide) rfl rfl g2 (Sf.exa F32) D0_31 (pc' := 34) rfl ?_
  intro T34 h34_ H34 W35
  have F36 : Fld Z h34_ p0 "java/util/AbstractList" "modCount" "I" (.int (3 : Int32)) := Fld.same W35 F33
  have F37 := (Exa.wr W35 F32)
  have F38 := (Fld.other W35 (Fld.other W26 (Fld.other W21 (Fld.other W16 F12 (Or.inr (slot_ne (Or.inr (wd176 V)) (Or.inr (wd178 V)) (by decide) (t := (.object "java/util/ArrayList")) (t' := (.object "java/util/ArrayList$SubList")) (by decide) (by decide)))) (Or.inr (slot_ne (Or.inr (wd176 V)) (Or.inr (wd180 V)) (by decide) (t := (.object "java/util/ArrayList")) (t' := .int) (by decide) (by decide)))) (Or.inr (slot_ne (Or.inr (wd176 V)) (Or.inl (wd182 V)) (by decide) (t := (.object "java/util/ArrayList")) (t' := .int) (by decide) (by decide)))) (Or.inr (slot_ne (Or.inr (wd176 V)) (Or.inl (wd174 V)) (by decide) (t := (.object "java/util/ArrayList")) (t' := .int) (by decide) (by decide))))
  have F39 := (Fld.other W35 (Fld.other W26 (Fld.other W21 F17 (Or.inr (slot_ne (Or.inr (wd178 V)) (Or.inr (wd180 V)) (by decide) (t := (.object "java/util/ArrayList$SubList")) (t' := .int) (by decide) (by decide)))) (Or.inr (slot_ne (Or.inr (wd178 V)) (Or.inl (wd182 V)) (by decide) (t := (.object "java/util/ArrayList$SubList")) (t' := .int) (by decide) (by decide)))) (Or.inr (slot_ne (Or.inr (wd178 V)) (Or.inl (wd174 V)) (by decide) (t := (.object "java/util/ArrayList$SubList")) (t' := .int) (by decide) (by decide))))
  have F40 := (Fld.other W35 (Fld.other W26 F22 (Or.inr (slot_ne (Or.inr (wd180 V)) (Or.inl (wd182 V)) (by decide) (t := .int) (t' := .int) (by decide) (by decide)))) (Or.inr (slot_ne (Or.inr (wd180 V)) (Or.inl (wd174 V)) (by decide) (t := .int) (t' := .int) (by decide) (by decide))))
  have F41 := (Fld.other W35 F27 (Or.inr (slot_ne (Or.inl (wd182 V)) (Or.inl (wd174 V)) (by decide) (t := .int) (t' := .int) (by decide) (by decide))))
  have K42 : Keep h0 h34_ [p0] := (Keep.wr (Keep.wr (Keep.wr (Keep.wr (Keep.wr (Keep.trans (Keep.refl h0 [p0]) K5 (allS (Or.inl (List.mem_of_getElem? (i := 0) rfl)) all0)) W11 (Or.inl (List.mem_of_getElem? (i := 0) rfl))) W16 (Or.inl (List.mem_of_getElem? (i := 0) rfl))) W21 (Or.inl (List.mem_of_getElem? (i := 0) rfl))) W26 (Or.inl (List.mem_of_getElem? (i := 0) rfl))) W35 (Or.inl (List.mem_of_getElem? (i := 0) rfl)))
  exact G.retV H34 rfl D0_34 (so := []) all0 (by decide) (by decide) ⟨rfl, rfl, K42, (fun O n d w F hn0 hn1 hn2 hn3 hn4 => (Fld.other W35 (Fld.other W26 (Fld.other W21 (Fld.other W16 (Fld.other W11 (U6 O n d w F hn0) (Or.inr hn1)) (Or.inr hn2)) (Or.inr hn3)) (Or.inr hn4)) (Or.inr hn0))), F37, F36, F38, F39, F40, F41⟩
set_option maxRecDepth 65536 in
set_option maxHeartbeats 40000000 in
theorem m74_subList (V : Env1 Z a0 n0 uu0 uu1 uu2 uu3 uu4 uu5) (p0 : Addr) (h0 : Heap) (hO : Old Z n0 h0) (f0 : Fld Z h0 p0 "java/util/ArrayList" "size" "I" (.int (3 : Int32))) (f1 : Fld Z h0 p0 "java/util/AbstractList" "modCount" "I" (.int (3 : Int32))) :
    Met Z a0 ELs True n0 l (⟨"java/util/ArrayList", "subList", "(II)Ljava/util/List;"⟩ : MethodName) jdk_38_method_56_code 3 (Option.some (FieldType.object "java/util/List")) ({ frames := 4, cells := 1, slots := 5, locals := 52 } : Room) #[(.ref p0), (.int (3 : Int32)), (.int (3 : Int32))] h0 [] (fun v h so => (∃ a8 : Addr, v = some (.ref a8) ∧ so = [] ∧ Keep h0 h [] ∧ h0.size ≤ a8 ∧ Exa Z h a8 "java/util/ArrayList$SubList" ∧ Fld Z h a8 "java/util/AbstractList" "modCount" "I" (.int (3 : Int32)) ∧ Fld Z h a8 "java/util/ArrayList$SubList" "root" "Ljava/util/ArrayList;" (.ref p0) ∧ Fld Z h a8 "java/util/ArrayList$SubList" "parent" "Ljava/util/ArrayList$SubList;" .null ∧ Fld Z h a8 "java/util/ArrayList$SubList" "offset" "I" (.int (3 : Int32)) ∧ Fld Z h a8 "java/util/ArrayList$SubList" "size" "I" (.int (0 : Int32)))) := by
  refine Met.of (EWl V) (by first | decide +kernel | rfl) hO (L0 := #[.val (.ref p0), .val (.int (3 : Int32)), .val (.int (3 : Int32))]) rfl ?_
  intro p e s m below meth c T H
  show Go p e below _ (T.setTop (mkF m 0 #[.val (.ref p0), .val (.int (3 : Int32)), .val (.int (3 : Int32))] []))
  refine G.iloadN H D12_0 (pc' := 1) rfl rfl ?_
  refine G.iloadN H D12_1 (pc' := 2) rfl rfl ?_
  refine G.aloadN H D12_2 (pc' := 3) rfl rfl rfl ?_
  refine G.getF H (wd69 V) Via.refl f0 D12_3 (pc' := 6) rfl ?_
  intro T1 H2
  refine G.callSU H2 (y := (⟨"java/util/ArrayList", "subListRangeCheck", "(III)V"⟩ : MethodName)) (owner := "java/util/AbstractList") (m72_subListRangeCheck V h0 H2.old) (wd160 V) (wd161 V) (wd162 V) (wd44 V) (wd163 V) (by decide) (argsL := [(.int (3 : Int32)), (.int (3 : Int32)), (.int (3 : Int32))]) (rest := []) (W := 0) rfl rfl (lenOf (pd_12) rfl) rfl rfl D12_6 (pc' := 9) rfl (by decide) (by decide) (by decide) (by decide) all0 ?_
  intro T3 h3_ v4 s5 H3 Q6
  obtain ⟨rfl, rfl, rfl⟩ := Q6
  show Go p e below _ (T3.setTop (mkF m 9 #[.val (.ref p0), .val (.int (3 : Int32)), .val (.int (3 : Int32))] []))
  refine G.new H3 (wd164 V) (wd165 V) (wd166 V) D12_9 (pc' := 12) rfl (by decide) (by decide) ?_
  intro T7 h7_ a8 ga8 H7 E9 A10 D11
  have na8 := H3.nle ga8
  refine G.dup H7 D12_12 (pc' := 13) rfl rfl ?_
  refine G.aloadN H7 D12_13 (pc' := 14) rfl rfl rfl ?_
  refine G.iloadN H7 D12_14 (pc' := 15) rfl rfl ?_
  refine G.iloadN H7 D12_15 (pc' := 16) rfl rfl ?_
  have F12 : Fld Z h7_ a8 "java/util/AbstractList" "modCount" "I" (.int (0 : Int32)) := D11 (Or.inl (wd174 V)) (ty := .int) (by decide)
  have F13 : Fld Z h7_ a8 "java/util/ArrayList$SubList" "root" "Ljava/util/ArrayList;" .null := D11 (Or.inr (wd176 V)) (ty := (.object "java/util/ArrayList")) (by decide)
  have F14 : Fld Z h7_ a8 "java/util/ArrayList$SubList" "parent" "Ljava/util/ArrayList$SubList;" .null := D11 (Or.inr (wd178 V)) (ty := (.object "java/util/ArrayList$SubList")) (by decide)
  have F15 : Fld Z h7_ a8 "java/util/ArrayList$SubList" "offset" "I" (.int (0 : Int32)) := D11 (Or.inr (wd180 V)) (ty := .int) (by decide)
  have F16 : Fld Z h7_ a8 "java/util/ArrayList$SubList" "size" "I" (.int (0 : Int32)) := D11 (Or.inl (wd182 V)) (ty := .int) (by decide)
  have F17 := (Fld.ext E9 f1)
  have N18 : p0 ≠ a8 := (Nat.ne_of_lt (Nat.lt_of_lt_of_le f0.lt (Nat.le_of_eq ga8.symm)))
  refine G.callI H7 (m73_init V a8 p0 h7_ H7.old A10 F12 na8 F13 F14 F15 F16 F17 N18) rfl (wd167 V) (wd168 V) (wd166 V) (wd170 V) (by decide) (a := a8) (argsL := [(.ref p0), (.int (3 : Int32)), (.int (3 : Int32))]) (rest := [(.ref a8)]) (W := 1) rfl rfl (lenOf (pd_13) rfl) rfl rfl D12_16 (pc' := 19) rfl (by decide) (by decide) (by decide) (by decide) all0 ?_
  intro T19 h19_ v20 s21 H19 Q22
  obtain ⟨rfl, rfl, K23, U24, F25, F26, F27, F28, F29, F30⟩ := Q22
  show Go p e below _ (T19.setTop (mkF m 19 #[.val (.ref p0), .val (.int (3 : Int32)), .val (.int (3 : Int32))] [(.ref a8)]))
  have K31 : Keep h0 h19_ [] := (Keep.trans (Keep.ext (Keep.refl h0 []) E9) K23 (allS (Or.inr (Nat.le_of_eq ga8.symm)) all0))
  exact G.retA H19 (t := (.object "java/util/List")) rfl rfl rfl D12_19 (so := []) all0 (by decide) (by decide) ⟨a8, rfl, rfl, K31, (Nat.le_of_eq ga8.symm), F25, F26, F27, F28, F29, F30⟩
set_option maxRecDepth 65536 in
set_option maxHeartbeats 40000000 in
theorem m75_operands (V : Env1 Z a0 n0 uu0 uu1 uu2 uu3 uu4 uu5) (p0 : Addr) (p1 : Addr) (h0 : Heap) (hO : Old Z n0 h0) (f0 : Fld Z h0 p0 "com/example/formboard/formboard/cli/Arguments" "args" "Ljava/util/List;" (.ref p1)) (f1 : Fld Z h0 p0 "com/example/formboard/formboard/cli/Arguments" "next" "I" (.int (3 : Int32))) (f2 : Exa Z h0 p1 "java/util/ArrayList") (f3 : Fld Z h0 p1 "java/util/ArrayList" "size" "I" (.int (3 : Int32))) (f4 : Fld Z h0 p1 "java/util/AbstractList" "modCount" "I" (.int (3 : Int32))) :
    Met Z a0 ELs True n0 l (⟨"com/example/formboard/formboard/cli/Arguments", "operands", "()Ljava/util/List;"⟩ : MethodName) prog_1_method_5_code 1 (Option.some (FieldType.object "java/util/List")) ({ frames := 5, cells := 1, slots := 5, locals := 66 } : Room) #[(.ref p0)] h0 [] (fun v h so => (∃ a15 : Addr, v = some (.ref a15) ∧ so = [] ∧ Keep h0 h [] ∧ h0.size ≤ a15 ∧ Exa Z h a15 "java/util/ArrayList$SubList" ∧ Fld Z h a15 "java/util/AbstractList" "modCount" "I" (.int (3 : Int32)) ∧ Fld Z h a15 "java/util/ArrayList$SubList" "root" "Ljava/util/ArrayList;" (.ref p1) ∧ Fld Z h a15 "java/util/ArrayList$SubList" "parent" "Ljava/util/ArrayList$SubList;" .null ∧ Fld Z h a15 "java/util/ArrayList$SubList" "offset" "I" (.int (3 : Int32)) ∧ Fld Z h a15 "java/util/ArrayList$SubList" "size" "I" (.int (0 : Int32)))) := by
  refine Met.of (EWl V) (by first | decide +kernel | rfl) hO (L0 := #[.val (.ref p0)]) rfl ?_
  intro p e s m below meth c T H
  show Go p e below _ (T.setTop (mkF m 0 #[.val (.ref p0)] []))
  refine G.aloadN H D30_0 (pc' := 1) rfl rfl rfl ?_
  refine G.getF H (wd100 V) Via.refl f0 D30_1 (pc' := 4) rfl ?_
  intro T1 H2
  refine G.aloadN H2 D30_4 (pc' := 5) rfl rfl rfl ?_
  refine G.getF H2 (wd110 V) Via.refl f1 D30_5 (pc' := 8) rfl ?_
  intro T3 H4
  refine G.aloadN H4 D30_8 (pc' := 9) rfl rfl rfl ?_
  refine G.getF H4 (wd100 V) Via.refl f0 D30_9 (pc' := 12) rfl ?_
  intro T5 H6
  refine G.callF H6 (xi := (⟨"java/util/List", "size", "()I"⟩ : MethodName)) (m15_size V p1 h0 H6.old f3) (wd112 V) (wd113 V) (fun s2 aa hZ => Jvm.Free.ULB.iface_rides (U := s2) hZ.alike (wd114 V)) (wd115 V) (wd116 V) (wd117 V) (wd118 V) (wd65 V) (wd36 V) (wd119 V) (by decide) f2 (argsL := []) (rest := [(.int (3 : Int32)), (.ref p1)]) (W := 2) rfl rfl (lenOf (pd_8) rfl) rfl rfl D30_12 (pc' := 17) rfl (by decide) (by decide) (by decide) (by decide) all0 ?_
  intro T7 h7_ v8 s9 H7 Q10
  obtain ⟨rfl, rfl, rfl⟩ := Q10
  show Go p e below _ (T7.setTop (mkF m 17 #[.val (.ref p0)] [(.int (3 : Int32)), (.int (3 : Int32)), (.ref p1)]))
  refine G.callF H7 (xi := (⟨"java/util/List", "subList", "(II)Ljava/util/List;"⟩ : MethodName)) (m74_subList V p1 h0 H7.old f3 f4) (wd152 V) (wd153 V) (fun s2 aa hZ => Jvm.Free.ULB.iface_rides (U := s2) hZ.alike (wd154 V)) (wd155 V) (wd156 V) (wd157 V) (wd158 V) (wd65 V) (wd36 V) (wd159 V) (by decide) f2 (argsL := [(.int (3 : Int32)), (.int (3 : Int32))]) (rest := []) (W := 0) rfl rfl (lenOf (pd_14) rfl) rfl rfl D30_17 (pc' := 22) rfl (by decide) (by decide) (by decide) (by decide) all0 ?_
  intro T11 h11_ v12 s13 H11 Q14
  obtain ⟨a15, rfl, rfl, K16, g17, F18, F19, F20, F21, F22, F23⟩ := Q14
  have na15 : n0 ≤ a15 := Nat.le_trans H7.le g17
  show Go p e below _ (T11.setTop (mkF m 22 #[.val (.ref p0)] [(.ref a15)]))
  have K24 : Keep h0 h11_ [] := (Keep.trans (Keep.refl h0 []) K16 all0)
  exact G.retA H11 (t := (.object "java/util/List")) rfl rfl rfl D30_22 (so := []) all0 (by decide) (by decide) ⟨a15, rfl, rfl, K24, g17, F18, F19, F20, F21, F22, F23⟩
set_option maxRecDepth 65536 in
set_option maxHeartbeats 40000000 in
theorem m76_size (V : Env1 Z a0 n0 uu0 uu1 uu2 uu3 uu4 uu5) (p0 : Addr) (p1 : Addr) (h0 : Heap) (hO : Old Z n0 h0) (f0 : Exa Z h0 p0 "java/util/ArrayList$SubList") (f1 : Fld Z h0 p0 "java/util/ArrayList$SubList" "root" "Ljava/util/ArrayList;" (.ref p1)) (f2 : Fld Z h0 p1 "java/util/AbstractList" "modCount" "I" (.int (3 : Int32))) (f3 : Fld Z h0 p0 "java/util/AbstractList" "modCount" "I" (.int (3 : Int32))) (f4 : Fld Z h0 p0 "java/util/ArrayList$SubList" "size" "I" (.int (0 : Int32))) :
    Met Z a0 ELs True n0 l (⟨"java/util/ArrayList$SubList", "size", "()I"⟩ : MethodName) jdk_130_method_5_code 1 (Option.some FieldType.int) ({ frames := 1, cells := 0, slots := 0, locals := 12 } : Room) #[(.ref p0)] h0 [] (fun v h so => (v = some (.int (0 : Int32)) ∧ so = [] ∧ h0 = h)) := by
  refine Met.of (EWl V) (by first | decide +kernel | rfl) hO (L0 := #[.val (.ref p0)]) rfl ?_
  intro p e s m below meth c T H
  show Go p e below _ (T.setTop (mkF m 0 #[.val (.ref p0)] []))
  refine G.aloadN H D3_0 (pc' := 1) rfl rfl rfl ?_
  refine G.callP H (m27_checkForComodification V p0 p1 h0 H.old f1 f2 f3) (wd193 V) (wd194 V) (wd196 V) (wd195 V) (wd166 V) (wd197 V) (by decide) f0 (argsL := []) (rest := []) (W := 0) rfl rfl (lenOf (pd_1) rfl) rfl rfl D3_1 (pc' := 4) rfl (by decide) (by decide) (by decide) (by decide) all0 ?_
  intro T1 h1_ v2 s3 H1 Q4
  obtain ⟨rfl, rfl, rfl⟩ := Q4
  show Go p e below _ (T1.setTop (mkF m 4 #[.val (.ref p0)] []))
  refine G.aloadN H1 D3_4 (pc' := 5) rfl rfl rfl ?_
  refine G.getF H1 (wd181 V) Via.refl f4 D3_5 (pc' := 8) rfl ?_
  intro T5 H6
  exact G.retI H6 rfl D3_8 (so := []) all0 (by decide) (by decide) ⟨rfl, rfl, rfl⟩
set_option maxRecDepth 65536 in
set_option maxHeartbeats 40000000 in
theorem m77_nextIsOption (V : Env1 Z a0 n0 uu0 uu1 uu2 uu3 uu4 uu5) (p0 : Addr) (p1 : Addr) (h0 : Heap) (hO : Old Z n0 h0) (f0 : Fld Z h0 p0 "com/example/formboard/formboard/cli/Arguments" "next" "I" (.int (3 : Int32))) (f1 : Fld Z h0 p0 "com/example/formboard/formboard/cli/Arguments" "args" "Ljava/util/List;" (.ref p1)) (f2 : Exa Z h0 p1 "java/util/ArrayList") (f3 : Fld Z h0 p1 "java/util/ArrayList" "size" "I" (.int (3 : Int32))) :
    Met Z a0 ELs True n0 l (⟨"com/example/formboard/formboard/cli/Arguments", "nextIsOption", "()Z"⟩ : MethodName) prog_1_method_2_code 1 (Option.some FieldType.boolean) ({ frames := 1, cells := 0, slots := 0, locals := 13 } : Room) #[(.ref p0)] h0 [] (fun v h so => (v = some (.int (0 : Int32)) ∧ so = [] ∧ h0 = h)) := by
  refine Met.of (EWl V) (by first | decide +kernel | rfl) hO (L0 := #[.val (.ref p0)]) rfl ?_
  intro p e s m below meth c T H
  show Go p e below _ (T.setTop (mkF m 0 #[.val (.ref p0)] []))
  refine G.aloadN H D28_0 (pc' := 1) rfl rfl rfl ?_
  refine G.getF H (wd110 V) Via.refl f0 D28_1 (pc' := 4) rfl ?_
  intro T1 H2
  refine G.aloadN H2 D28_4 (pc' := 5) rfl rfl rfl ?_
  refine G.getF H2 (wd100 V) Via.refl f1 D28_5 (pc' := 8) rfl ?_
  intro T3 H4
  refine G.callF H4 (xi := (⟨"java/util/List", "size", "()I"⟩ : MethodName)) (m15_size V p1 h0 H4.old f3) (wd112 V) (wd113 V) (fun s2 aa hZ => Jvm.Free.ULB.iface_rides (U := s2) hZ.alike (wd114 V)) (wd115 V) (wd116 V) (wd117 V) (wd118 V) (wd65 V) (wd36 V) (wd119 V) (by decide) f2 (argsL := []) (rest := [(.int (3 : Int32))]) (W := 1) rfl rfl (lenOf (pd_8) rfl) rfl rfl D28_8 (pc' := 13) rfl (by decide) (by decide) (by decide) (by decide) all0 ?_
  intro T5 h5_ v6 s7 H5 Q8
  obtain ⟨rfl, rfl, rfl⟩ := Q8
  show Go p e below _ (T5.setTop (mkF m 13 #[.val (.ref p0)] [(.int (3 : Int32)), (.int (3 : Int32))]))
  refine G.icmpYes H5 D28_13 (by decide) (by decide) (pc' := 44) rfl ?_
  refine G.iconst H5 D28_44 (pc' := 45) rfl (v := (0 : Int32)) rfl ?_
  exact G.retN H5 (t := .boolean) rfl (by decide) D28_45 (so := []) all0 (by decide) (by decide) ⟨rfl, rfl, rfl⟩
set_option maxRecDepth 65536 in
set_option maxHeartbeats 40000000 in
theorem cut78_125 (V : Env1 Z a0 n0 uu0 uu1 uu2 uu3 uu4 uu5) (x90125 : Int32) (x0 : Int32) (x1 : Int32) (x2 : Int32) (x3 : Int32) (x4 : Int32) (p0 : Addr) (p1 : Addr) (p2 : Addr) (p3 : Addr) (p4 : Addr) (p5 : Addr) (p6 : Addr) (c0 : ClassId) (p7 : Addr) (c1 : ClassId) (p8 : Addr) (c2 : ClassId) (H : Hs p l e room_1 s m as' below meth c Z a0 ELs True x.cls n0 code maxLocals ret x.name T h0 18 56 [p1, p2]) (sp : x90125 = (0 : Int32) ∨ x90125 = (1 : Int32) ∨ x90125 = (2 : Int32)) (f1 : Exa Z h0 p4 "com/example/formboard/formboard/cli/Arguments") (f2 : Fld Z h0 p4 "com/example/formboard/formboard/cli/Arguments" "args" "Ljava/util/List;" (.ref p3)) (f3 : Fld Z h0 p4 "com/example/formboard/formboard/cli/Arguments" "next" "I" (.int (1 : Int32))) (f4 : Exa Z h0 p3 "java/util/ArrayList") (f5 : Fld Z h0 p3 "java/util/ArrayList" "size" "I" (.int (3 : Int32))) (f6 : Fld Z h0 p3 "java/util/AbstractList" "modCount" "I" (.int (3 : Int32))) (f7 : Fld Z h0 p3 "java/util/ArrayList" "elementData" "[Ljava/lang/Object;" (.ref p6)) (f8 : Arv Z h0 p6 c0 (.object "java/lang/Object") (10 : Int32) [(.ref p0), (.ref p1), (.ref p2), .null, .null, .null, .null, .null, .null, .null] .null) (f9 : Exa Z h0 p1 "java/lang/String") (f10 : Exa Z h0 p2 "java/lang/String") (f11 : Fld Z h0 p1 "java/lang/String" "value" "[B" (.ref p7)) (f12 : Arv Z h0 p7 c1 .byte (2 : Int32) [(.int ((x1 &&& (255 : Int32)).toInt8.toInt32)), (.int (((XT.ushr x1 (8 : Int32)) &&& (255 : Int32)).toInt8.toInt32))] (.int 0)) (f13 : Fld Z h0 p1 "java/lang/String" "coder" "B" (.int (0 : Int32))) (g14 : n0 ≤ p4) (f15 : Fld Z h0 p2 "java/lang/String" "value" "[B" (.ref p8)) (f16 : Arv Z h0 p8 c2 .byte (2 : Int32) [(.int ((x2 &&& (255 : Int32)).toInt8.toInt32)), (.int (((XT.ushr x2 (8 : Int32)) &&& (255 : Int32)).toInt8.toInt32))] (.int 0)) (q17 : p8 ≠ p4) (f18 : Fld Z h0 p2 "java/lang/String" "coder" "B" (.int (0 : Int32))) :
    Go p e below (FinP s below Z ELs True n0 room_1.cells room_1.slots (fun v h so => v = some (.int 1))) (T.setTop (mkF m 125 #[.val (.int x0), .val (.int x1), .val (.int x2), .val (.int x3), .val (.int x4), .val (.ref p0), .val (.ref p1), .val (.ref p2), .val (.ref p3), .val (.ref p4), .val (.ref p5), .val (.int x90125), .val (.int (1 : Int32)), .val (.ref p0), .unset, .unset] [])) := by
  rcases sp with rfl | rfl | rfl
  ·
    refine G.iload H at_125 (pc' := 127) rfl rfl ?_
    refine G.iconst H at_127 (pc' := 128) rfl (v := (1 : Int32)) rfl ?_
    refine G.icmpYes H at_128 (by decide) (by decide) (pc' := 162) rfl ?_
    refine G.iload H at_162 (pc' := 164) rfl rfl ?_
    refine G.iconst H at_164 (pc' := 165) rfl (v := (2 : Int32)) rfl ?_
    refine G.icmpYes H at_165 (by decide) (by decide) (pc' := 199) rfl ?_
    refine G.aload H at_199 (pc' := 201) rfl rfl rfl ?_
    refine G.callV H (m26_operands V p4 p3 h0 H.old f2 f3 f4 f5 f6) (wd147 V) (wd148 V) (nf_sel (wd150 V)) (wd150 V) (wd149 V) (wd95 V) (wd151 V) (by decide) f1 (argsL := []) (rest := []) (W := 0) rfl rfl (lenOf (pd_15) rfl) rfl rfl at_201 (pc' := 204) rfl (by decide) (by decide) (by decide) (by decide) all0 ?_
    intro T1 h1_ v2 s3 H1 Q4
    obtain ⟨a5, rfl, rfl, K6, g7, F8, F9, F10, F11, F12, F13⟩ := Q4
    have na5 : n0 ≤ a5 := Nat.le_trans H.le g7
    show Go p e below _ (T1.setTop (mkF m 204 #[.val (.int x0), .val (.int x1), .val (.int x2), .val (.int x3), .val (.int x4), .val (.ref p0), .val (.ref p1), .val (.ref p2), .val (.ref p3), .val (.ref p4), .val (.ref p5), .val (.int (0 : Int32)), .val (.int (1 : Int32)), .val (.ref p0), .unset, .unset] [(.ref a5)]))
    refine G.astore H1 (L' := #[.val (.int x0), .val (.int x1), .val (.int x2), .val (.int x3), .val (.int x4), .val (.ref p0), .val (.ref p1), .val (.ref p2), .val (.ref p3), .val (.ref p4), .val (.ref p5), .val (.int (0 : Int32)), .val (.int (1 : Int32)), .val (.ref p0), .val (.ref a5), .unset]) at_204 (pc' := 206) rfl rfl rfl ?_
    refine G.iload H1 at_206 (pc' := 208) rfl rfl ?_
    refine G.ifNo H1 at_208 (pc' := 211) rfl (by decide) ?_
    refine G.aload H1 at_211 (pc' := 213) rfl rfl rfl ?_
    have F14 := (Fld.keep f6 K6 nin0)
    refine G.callF H1 (xi := (⟨"java/util/List", "size", "()I"⟩ : MethodName)) (m28_size V a5 p3 h1_ H1.old F8 F10 F14 F9 F13) (wd186 V) (wd113 V) (fun s2 aa hZ => Jvm.Free.ULB.iface_rides (U := s2) hZ.alike (wd114 V)) (wd187 V) (wd188 V) (wd189 V) (wd190 V) (wd191 V) (wd166 V) (wd192 V) (by decide) F8 (argsL := []) (rest := []) (W := 0) rfl rfl (lenOf (pd_8) rfl) rfl rfl at_213 (pc' := 218) rfl (by decide) (by decide) (by decide) (by decide) all0 ?_
    intro T15 h15_ v16 s17 H15 Q18
    obtain ⟨rfl, rfl, rfl⟩ := Q18
    show Go p e below _ (T15.setTop (mkF m 218 #[.val (.int x0), .val (.int x1), .val (.int x2), .val (.int x3), .val (.int x4), .val (.ref p0), .val (.ref p1), .val (.ref p2), .val (.ref p3), .val (.ref p4), .val (.ref p5), .val (.int (0 : Int32)), .val (.int (1 : Int32)), .val (.ref p0), .val (.ref a5), .unset] [(.int (2 : Int32))]))
    refine G.iconst H15 at_218 (pc' := 219) rfl (v := (2 : Int32)) rfl ?_
    refine G.iload H15 at_219 (pc' := 221) rfl rfl ?_
    refine G.isub H15 at_221 (pc' := 222) rfl ?_
    show Go p e below _ (T15.setTop (mkF m 222 #[.val (.int x0), .val (.int x1), .val (.int x2), .val (.int x3), .val (.int x4), .val (.ref p0), .val (.ref p1), .val (.ref p2), .val (.ref p3), .val (.ref p4), .val (.ref p5), .val (.int (0 : Int32)), .val (.int (1 : Int32)), .val (.ref p0), .val (.ref a5), .unset] [(.int (2 : Int32)), (.int (2 : Int32))]))
    refine G.icmpNo H15 at_222 (pc' := 225) rfl (by decide) ?_
    refine G.iconst H15 at_225 (pc' := 226) rfl (v := (1 : Int32)) rfl ?_
    refine G.goto H15 at_226 (by decide) (pc' := 230) rfl ?_
    refine G.istore H15 (L' := #[.val (.int x0), .val (.int x1), .val (.int x2), .val (.int x3), .val (.int x4), .val (.ref p0), .val (.ref p1), .val (.ref p2), .val (.ref p3), .val (.ref p4), .val (.ref p5), .val (.int (0 : Int32)), .val (.int (1 : Int32)), .val (.ref p0), .val (.ref a5), .unset]) at_230 (pc' := 232) rfl rfl ?_
    refine G.iload H15 at_232 (pc' := 234) rfl rfl ?_
    refine G.ifNo H15 at_234 (pc' := 237) rfl (by decide) ?_
    refine G.iload H15 at_237 (pc' := 239) rfl rfl ?_
    refine G.ifNo H15 at_239 (pc' := 242) rfl (by decide) ?_
    refine G.aload H15 at_242 (pc' := 244) rfl rfl rfl ?_
    refine G.iconst H15 at_244 (pc' := 245) rfl (v := (0 : Int32)) rfl ?_
    have F19 := (Exa.keep f4 K6)
    have F20 := (Fld.keep f7 K6 nin0)
    have F21 := (Arv.keep f8 K6 nin0)
    refine G.callF H15 (xi := (⟨"java/util/List", "get", "(I)Ljava/lang/Object;"⟩ : MethodName)) (m32_get V a5 p3 p6 c0 p0 p1 p2 h1_ H15.old F13 F8 F10 F14 F9 F12 F19 F20 F21) (wd198 V) (wd121 V) (fun s2 aa hZ => Jvm.Free.ULB.iface_rides (U := s2) hZ.alike (wd122 V)) (wd199 V) (wd200 V) (wd201 V) (wd202 V) (wd191 V) (wd166 V) (wd203 V) (by decide) F8 (argsL := [(.int (0 : Int32))]) (rest := []) (W := 0) rfl rfl (lenOf (pd_10) rfl) rfl rfl at_245 (pc' := 250) rfl (by decide) (by decide) (by decide) (by decide) all0 ?_
    intro T22 h22_ v23 s24 H22 Q25
    obtain ⟨rfl, rfl, rfl⟩ := Q25
    show Go p e below _ (T22.setTop (mkF m 250 #[.val (.int x0), .val (.int x1), .val (.int x2), .val (.int x3), .val (.int x4), .val (.ref p0), .val (.ref p1), .val (.ref p2), .val (.ref p3), .val (.ref p4), .val (.ref p5), .val (.int (0 : Int32)), .val (.int (1 : Int32)), .val (.ref p0), .val (.ref a5), .unset] [(.ref p1)]))
    have F28 := (Exa.keep f9 K6)
    refine G.castY H22 (wd5 V) (Ins.self F28) at_250 (pc' := 253) rfl ?_
    intro T26 H27
    refine G.aload H27 at_253 (pc' := 255) rfl rfl rfl ?_
    refine G.callV H27 (m21_equals V p1 h1_ H27.old) (wd142 V) (wd143 V) (nf_sel (wd145 V)) (wd145 V) (wd144 V) (wd7 V) (wd146 V) (by decide) F28 (argsL := [(.ref p1)]) (rest := []) (W := 0) rfl rfl (lenOf (pd_6) rfl) rfl rfl at_255 (pc' := 258) rfl (by decide) (by decide) (by decide) (by decide) all0 ?_
    intro T29 h29_ v30 s31 H29 Q32
    obtain ⟨rfl, rfl, rfl⟩ := Q32
    show Go p e below _ (T29.setTop (mkF m 258 #[.val (.int x0), .val (.int x1), .val (.int x2), .val (.int x3), .val (.int x4), .val (.ref p0), .val (.ref p1), .val (.ref p2), .val (.ref p3), .val (.ref p4), .val (.ref p5), .val (.int (0 : Int32)), .val (.int (1 : Int32)), .val (.ref p0), .val (.ref a5), .unset] [(.int (1 : Int32))]))
    refine G.ifNo H29 at_258 (pc' := 261) rfl (by decide) ?_
    refine G.aload H29 at_261 (pc' := 263) rfl rfl rfl ?_
    refine G.iconst H29 at_263 (pc' := 264) rfl (v := (1 : Int32)) rfl ?_
    refine G.callF H29 (xi := (⟨"java/util/List", "get", "(I)Ljava/lang/Object;"⟩ : MethodName)) (m36_get V a5 p3 p6 c0 p0 p1 p2 h1_ H29.old F13 F8 F10 F14 F9 F12 F19 F20 F21) (wd198 V) (wd121 V) (fun s2 aa hZ => Jvm.Free.ULB.iface_rides (U := s2) hZ.alike (wd122 V)) (wd199 V) (wd200 V) (wd201 V) (wd202 V) (wd191 V) (wd166 V) (wd203 V) (by decide) F8 (argsL := [(.int (1 : Int32))]) (rest := []) (W := 0) rfl rfl (lenOf (pd_10) rfl) rfl rfl at_264 (pc' := 269) rfl (by decide) (by decide) (by decide) (by decide) all0 ?_
    intro T33 h33_ v34 s35 H33 Q36
    obtain ⟨rfl, rfl, rfl⟩ := Q36
    show Go p e below _ (T33.setTop (mkF m 269 #[.val (.int x0), .val (.int x1), .val (.int x2), .val (.int x3), .val (.int x4), .val (.ref p0), .val (.ref p1), .val (.ref p2), .val (.ref p3), .val (.ref p4), .val (.ref p5), .val (.int (0 : Int32)), .val (.int (1 : Int32)), .val (.ref p0), .val (.ref a5), .unset] [(.ref p2)]))
    have F39 := (Exa.keep f10 K6)
    refine G.castY H33 (wd5 V) (Ins.self F39) at_269 (pc' := 272) rfl ?_
    intro T37 H38
    refine G.aload H38 at_272 (pc' := 274) rfl rfl rfl ?_
    refine G.callV H38 (m21_equals V p2 h1_ H38.old) (wd142 V) (wd143 V) (nf_sel (wd145 V)) (wd145 V) (wd144 V) (wd7 V) (wd146 V) (by decide) F39 (argsL := [(.ref p2)]) (rest := []) (W := 0) rfl rfl (lenOf (pd_6) rfl) rfl rfl at_274 (pc' := 277) rfl (by decide) (by decide) (by decide) (by decide) all0 ?_
    intro T40 h40_ v41 s42 H40 Q43
    obtain ⟨rfl, rfl, rfl⟩ := Q43
    show Go p e below _ (T40.setTop (mkF m 277 #[.val (.int x0), .val (.int x1), .val (.int x2), .val (.int x3), .val (.int x4), .val (.ref p0), .val (.ref p1), .val (.ref p2), .val (.ref p3), .val (.ref p4), .val (.ref p5), .val (.int (0 : Int32)), .val (.int (1 : Int32)), .val (.ref p0), .val (.ref a5), .unset] [(.int (1 : Int32))]))
    refine G.ifNo H40 at_277 (pc' := 280) rfl (by decide) ?_
    refine G.iconst H40 at_280 (pc' := 281) rfl (v := (1 : Int32)) rfl ?_
    refine G.goto H40 at_281 (by decide) (pc' := 285) rfl ?_
    refine G.istore H40 (L' := #[.val (.int x0), .val (.int x1), .val (.int x2), .val (.int x3), .val (.int x4), .val (.ref p0), .val (.ref p1), .val (.ref p2), .val (.ref p3), .val (.ref p4), .val (.ref p5), .val (.int (0 : Int32)), .val (.int (1 : Int32)), .val (.ref p0), .val (.ref a5), .unset]) at_285 (pc' := 287) rfl rfl ?_
    refine G.iloadN H40 at_287 (pc' := 288) rfl rfl ?_
    refine G.callS H40 (m37_dashes V x1 h1_ H40.old) (wd206 V) (wd207 V) (wd2 V) (wd208 V) (by decide) (argsL := [(.int x1)]) (rest := []) (W := 0) rfl rfl (lenOf (pd_16) rfl) rfl rfl at_288 (pc' := 291) rfl (by decide) (by decide) (by decide) (by decide) all0 ?_
    intro T44 h44_ v45 s46 H44 Q47
    rcases Q47 with ⟨c48, c49, rfl, rfl, rfl⟩ | ⟨c50, c51, rfl, rfl, rfl⟩ | ⟨c52, rfl, rfl, rfl⟩
    ·
      show Go p e below _ (T44.setTop (mkF m 291 #[.val (.int x0), .val (.int x1), .val (.int x2), .val (.int x3), .val (.int x4), .val (.ref p0), .val (.ref p1), .val (.ref p2), .val (.ref p3), .val (.ref p4), .val (.ref p5), .val (.int (0 : Int32)), .val (.int (1 : Int32)), .val (.ref p0), .val (.ref a5), .unset] [(.int (1 : Int32))]))
      refine G.istore H44 (L' := #[.val (.int x0), .val (.int x1), .val (.int x2), .val (.int x3), .val (.int x4), .val (.ref p0), .val (.ref p1), .val (.ref p2), .val (.ref p3), .val (.ref p4), .val (.ref p5), .val (.int (0 : Int32)), .val (.int (1 : Int32)), .val (.ref p0), .val (.ref a5), .val (.int (1 : Int32))]) at_291 (pc' := 293) rfl rfl ?_
      refine G.goto H44 at_293 (by decide) (pc' := 345) rfl ?_
      refine G.iload H44 at_345 (pc' := 347) rfl rfl ?_
      refine G.ifNo H44 at_347 (pc' := 350) rfl (by decide) ?_
      refine G.aload H44 at_350 (pc' := 352) rfl rfl rfl ?_
      have F53 := (Exa.keep f1 K6)
      have F54 := (Fld.keep f3 K6 nin0)
      have F55 := (Fld.keep f2 K6 nin0)
      have F56 := (Fld.keep f5 K6 nin0)
      have F57 := (Fld.keep f11 K6 nin0)
      have F58 := (Arv.keep f12 K6 nin0)
      have F59 := (Fld.keep f13 K6 nin0)
      refine G.callV H44 (m47_nextIsOption V p4 p3 p6 c0 p0 p1 p2 p7 c1 ((x1 &&& (255 : Int32)).toInt8.toInt32) (((XT.ushr x1 (8 : Int32)) &&& (255 : Int32)).toInt8.toInt32) h1_ H44.old F54 F55 F19 F56 F20 F21 F28 F57 F58 F59 ((own_b8 (own_and255 _) (by decide)).mpr c48) ((own_b8 (own_and255 _) (by decide)).mpr c49)) (wd209 V) (wd210 V) (nf_sel (wd212 V)) (wd212 V) (wd211 V) (wd95 V) (wd213 V) (by decide) F53 (argsL := []) (rest := []) (W := 0) rfl rfl (lenOf (pd_21) rfl) rfl rfl at_352 (pc' := 355) rfl (by decide) (by decide) (by decide) (by decide) (allS (List.mem_of_getElem? (i := 0) rfl) all0) ?_
      intro T60 h60_ v61 s62 H60 Q63
      obtain ⟨rfl, rfl, K64⟩ := Q63
      show Go p e below _ (T60.setTop (mkF m 355 #[.val (.int x0), .val (.int x1), .val (.int x2), .val (.int x3), .val (.int x4), .val (.ref p0), .val (.ref p1), .val (.ref p2), .val (.ref p3), .val (.ref p4), .val (.ref p5), .val (.int (0 : Int32)), .val (.int (1 : Int32)), .val (.ref p0), .val (.ref a5), .val (.int (1 : Int32))] [(.int (1 : Int32))]))
      refine G.iload H60 at_355 (pc' := 357) rfl rfl ?_
      refine G.icmpNo H60 at_357 (pc' := 360) rfl (by decide) ?_
      refine G.iconst H60 at_360 (pc' := 361) rfl (v := (1 : Int32)) rfl ?_
      refine G.goto H60 at_361 (by decide) (pc' := 365) rfl ?_
      refine G.istore H60 (L' := #[.val (.int x0), .val (.int x1), .val (.int x2), .val (.int x3), .val (.int x4), .val (.ref p0), .val (.ref p1), .val (.ref p2), .val (.ref p3), .val (.ref p4), .val (.ref p5), .val (.int (0 : Int32)), .val (.int (1 : Int32)), .val (.ref p0), .val (.ref a5), .val (.int (1 : Int32))]) at_365 (pc' := 367) rfl rfl ?_
      refine G.iload H60 at_367 (pc' := 369) rfl rfl ?_
      exact G.retN H60 (t := .boolean) rfl (by decide) at_369 (so := []) all0 (by decide) (by decide) rfl
    ·
      show Go p e below _ (T44.setTop (mkF m 291 #[.val (.int x0), .val (.int x1), .val (.int x2), .val (.int x3), .val (.int x4), .val (.ref p0), .val (.ref p1), .val (.ref p2), .val (.ref p3), .val (.ref p4), .val (.ref p5), .val (.int (0 : Int32)), .val (.int (1 : Int32)), .val (.ref p0), .val (.ref a5), .unset] [(.int (0 : Int32))]))
      refine G.istore H44 (L' := #[.val (.int x0), .val (.int x1), .val (.int x2), .val (.int x3), .val (.int x4), .val (.ref p0), .val (.ref p1), .val (.ref p2), .val (.ref p3), .val (.ref p4), .val (.ref p5), .val (.int (0 : Int32)), .val (.int (1 : Int32)), .val (.ref p0), .val (.ref a5), .val (.int (0 : Int32))]) at_291 (pc' := 293) rfl rfl ?_
      refine G.goto H44 at_293 (by decide) (pc' := 345) rfl ?_
      refine G.iload H44 at_345 (pc' := 347) rfl rfl ?_
      refine G.ifNo H44 at_347 (pc' := 350) rfl (by decide) ?_
      refine G.aload H44 at_350 (pc' := 352) rfl rfl rfl ?_
      have F65 := (Exa.keep f1 K6)
      have F66 := (Fld.keep f3 K6 nin0)
      have F67 := (Fld.keep f2 K6 nin0)
      have F68 := (Fld.keep f5 K6 nin0)
      have F69 := (Fld.keep f11 K6 nin0)
      have F70 := (Arv.keep f12 K6 nin0)
      have F71 := (Fld.keep f13 K6 nin0)
      refine G.callV H44 (m51_nextIsOption V p4 p3 p6 c0 p0 p1 p2 p7 c1 ((x1 &&& (255 : Int32)).toInt8.toInt32) (((XT.ushr x1 (8 : Int32)) &&& (255 : Int32)).toInt8.toInt32) h1_ H44.old F66 F67 F19 F68 F20 F21 F28 F69 F70 F71 ((own_b8 (own_and255 _) (by decide)).mpr c50) (fun q => c51 ((own_b8 (own_and255 _) (by decide)).mp q))) (wd209 V) (wd210 V) (nf_sel (wd212 V)) (wd212 V) (wd211 V) (wd95 V) (wd213 V) (by decide) F65 (argsL := []) (rest := []) (W := 0) rfl rfl (lenOf (pd_21) rfl) rfl rfl at_352 (pc' := 355) rfl (by decide) (by decide) (by decide) (by decide) (allS (List.mem_of_getElem? (i := 0) rfl) all0) ?_
      intro T72 h72_ v73 s74 H72 Q75
      obtain ⟨rfl, rfl, K76⟩ := Q75
      show Go p e below _ (T72.setTop (mkF m 355 #[.val (.int x0), .val (.int x1), .val (.int x2), .val (.int x3), .val (.int x4), .val (.ref p0), .val (.ref p1), .val (.ref p2), .val (.ref p3), .val (.ref p4), .val (.ref p5), .val (.int (0 : Int32)), .val (.int (1 : Int32)), .val (.ref p0), .val (.ref a5), .val (.int (0 : Int32))] [(.int (0 : Int32))]))
      refine G.iload H72 at_355 (pc' := 357) rfl rfl ?_
      refine G.icmpNo H72 at_357 (pc' := 360) rfl (by decide) ?_
      refine G.iconst H72 at_360 (pc' := 361) rfl (v := (1 : Int32)) rfl ?_
      refine G.goto H72 at_361 (by decide) (pc' := 365) rfl ?_
      refine G.istore H72 (L' := #[.val (.int x0), .val (.int x1), .val (.int x2), .val (.int x3), .val (.int x4), .val (.ref p0), .val (.ref p1), .val (.ref p2), .val (.ref p3), .val (.ref p4), .val (.ref p5), .val (.int (0 : Int32)), .val (.int (1 : Int32)), .val (.ref p0), .val (.ref a5), .val (.int (0 : Int32))]) at_365 (pc' := 367) rfl rfl ?_
      refine G.iload H72 at_367 (pc' := 369) rfl rfl ?_
      exact G.retN H72 (t := .boolean) rfl (by decide) at_369 (so := []) all0 (by decide) (by decide) rfl
    ·
      show Go p e below _ (T44.setTop (mkF m 291 #[.val (.int x0), .val (.int x1), .val (.int x2), .val (.int x3), .val (.int x4), .val (.ref p0), .val (.ref p1), .val (.ref p2), .val (.ref p3), .val (.ref p4), .val (.ref p5), .val (.int (0 : Int32)), .val (.int (1 : Int32)), .val (.ref p0), .val (.ref a5), .unset] [(.int (0 : Int32))]))
      refine G.istore H44 (L' := #[.val (.int x0), .val (.int x1), .val (.int x2), .val (.int x3), .val (.int x4), .val (.ref p0), .val (.ref p1), .val (.ref p2), .val (.ref p3), .val (.ref p4), .val (.ref p5), .val (.int (0 : Int32)), .val (.int (1 : Int32)), .val (.ref p0), .val (.ref a5), .val (.int (0 : Int32))]) at_291 (pc' := 293) rfl rfl ?_
      refine G.goto H44 at_293 (by decide) (pc' := 345) rfl ?_
      refine G.iload H44 at_345 (pc' := 347) rfl rfl ?_
      refine G.ifNo H44 at_347 (pc' := 350) rfl (by decide) ?_
      refine G.aload H44 at_350 (pc' := 352) rfl rfl rfl ?_
      have F77 := (Exa.keep f1 K6)
      have F78 := (Fld.keep f3 K6 nin0)
      have F79 := (Fld.keep f2 K6 nin0)
      have F80 := (Fld.keep f5 K6 nin0)
      have F81 := (Fld.keep f11 K6 nin0)
      have F82 := (Arv.keep f12 K6 nin0)
      have F83 := (Fld.keep f13 K6 nin0)
      refine G.callV H44 (m55_nextIsOption V p4 p3 p6 c0 p0 p1 p2 p7 c1 ((x1 &&& (255 : Int32)).toInt8.toInt32) (((XT.ushr x1 (8 : Int32)) &&& (255 : Int32)).toInt8.toInt32) h1_ H44.old F78 F79 F19 F80 F20 F21 F28 F81 F82 F83 (fun q => c52 ((own_b8 (own_and255 _) (by decide)).mp q))) (wd209 V) (wd210 V) (nf_sel (wd212 V)) (wd212 V) (wd211 V) (wd95 V) (wd213 V) (by decide) F77 (argsL := []) (rest := []) (W := 0) rfl rfl (lenOf (pd_21) rfl) rfl rfl at_352 (pc' := 355) rfl (by decide) (by decide) (by decide) (by decide) (allS (List.mem_of_getElem? (i := 0) rfl) all0) ?_
      intro T84 h84_ v85 s86 H84 Q87
      obtain ⟨rfl, rfl, K88⟩ := Q87
      show Go p e below _ (T84.setTop (mkF m 355 #[.val (.int x0), .val (.int x1), .val (.int x2), .val (.int x3), .val (.int x4), .val (.ref p0), .val (.ref p1), .val (.ref p2), .val (.ref p3), .val (.ref p4), .val (.ref p5), .val (.int (0 : Int32)), .val (.int (1 : Int32)), .val (.ref p0), .val (.ref a5), .val (.int (0 : Int32))] [(.int (0 : Int32))]))
      refine G.iload H84 at_355 (pc' := 357) rfl rfl ?_
      refine G.icmpNo H84 at_357 (pc' := 360) rfl (by decide) ?_
      refine G.iconst H84 at_360 (pc' := 361) rfl (v := (1 : Int32)) rfl ?_
      refine G.goto H84 at_361 (by decide) (pc' := 365) rfl ?_
      refine G.istore H84 (L' := #[.val (.int x0), .val (.int x1), .val (.int x2), .val (.int x3), .val (.int x4), .val (.ref p0), .val (.ref p1), .val (.ref p2), .val (.ref p3), .val (.ref p4), .val (.ref p5), .val (.int (0 : Int32)), .val (.int (1 : Int32)), .val (.ref p0), .val (.ref a5), .val (.int (0 : Int32))]) at_365 (pc' := 367) rfl rfl ?_
      refine G.iload H84 at_367 (pc' := 369) rfl rfl ?_
      exact G.retN H84 (t := .boolean) rfl (by decide) at_369 (so := []) all0 (by decide) (by decide) rfl
  ·
    refine G.iload H at_125 (pc' := 127) rfl rfl ?_
    refine G.iconst H at_127 (pc' := 128) rfl (v := (1 : Int32)) rfl ?_
    refine G.icmpNo H at_128 (pc' := 131) rfl (by decide) ?_
    refine G.aload H at_131 (pc' := 133) rfl rfl rfl ?_
    refine G.aload H at_133 (pc' := 135) rfl rfl rfl ?_
    have N89 : p6 ≠ p4 := Ne.symm (Exa.neArv f1 f8 (wd94 V))
    refine G.callV H (m56_value V p4 p5 p3 p6 c0 p0 p1 p2 h0 H.old f3 f2 f4 f5 f1 g14 f7 f8 N89 f9) (wd105 V) (wd106 V) (nf_sel (wd108 V)) (wd108 V) (wd107 V) (wd95 V) (wd109 V) (by decide) f1 (argsL := [(.ref p5)]) (rest := []) (W := 0) rfl rfl (lenOf (pd_11) rfl) rfl rfl at_135 (pc' := 138) rfl (by decide) (by decide) (by decide) (by decide) all0 ?_
    intro T90 h90_ v91 s92 H90 Q93
    obtain ⟨rfl, rfl, K94, U95, F96, F97, F98⟩ := Q93
    show Go p e below _ (T90.setTop (mkF m 138 #[.val (.int x0), .val (.int x1), .val (.int x2), .val (.int x3), .val (.int x4), .val (.ref p0), .val (.ref p1), .val (.ref p2), .val (.ref p3), .val (.ref p4), .val (.ref p5), .val (.int (1 : Int32)), .val (.int (1 : Int32)), .val (.ref p0), .unset, .unset] [(.ref p1)]))
    refine G.astore H90 (L' := #[.val (.int x0), .val (.int x1), .val (.int x2), .val (.int x3), .val (.int x4), .val (.ref p0), .val (.ref p1), .val (.ref p2), .val (.ref p3), .val (.ref p4), .val (.ref p5), .val (.int (1 : Int32)), .val (.int (1 : Int32)), .val (.ref p0), .val (.ref p1), .unset]) at_138 (pc' := 140) rfl rfl rfl ?_
    refine G.iload H90 at_140 (pc' := 142) rfl rfl ?_
    refine G.ifNo H90 at_142 (pc' := 145) rfl (by decide) ?_
    refine G.aload H90 at_145 (pc' := 147) rfl rfl rfl ?_
    refine G.aload H90 at_147 (pc' := 149) rfl rfl rfl ?_
    have F99 := (Exa.keep f9 K94)
    refine G.callV H90 (m21_equals V p1 h90_ H90.old) (wd142 V) (wd143 V) (nf_sel (wd145 V)) (wd145 V) (wd144 V) (wd7 V) (wd146 V) (by decide) F99 (argsL := [(.ref p1)]) (rest := []) (W := 0) rfl rfl (lenOf (pd_6) rfl) rfl rfl at_149 (pc' := 152) rfl (by decide) (by decide) (by decide) (by decide) all0 ?_
    intro T100 h100_ v101 s102 H100 Q103
    obtain ⟨rfl, rfl, rfl⟩ := Q103
    show Go p e below _ (T100.setTop (mkF m 152 #[.val (.int x0), .val (.int x1), .val (.int x2), .val (.int x3), .val (.int x4), .val (.ref p0), .val (.ref p1), .val (.ref p2), .val (.ref p3), .val (.ref p4), .val (.ref p5), .val (.int (1 : Int32)), .val (.int (1 : Int32)), .val (.ref p0), .val (.ref p1), .unset] [(.int (1 : Int32))]))
    refine G.ifNo H100 at_152 (pc' := 155) rfl (by decide) ?_
    refine G.iconst H100 at_155 (pc' := 156) rfl (v := (1 : Int32)) rfl ?_
    refine G.goto H100 at_156 (by decide) (pc' := 160) rfl ?_
    refine G.istore H100 (L' := #[.val (.int x0), .val (.int x1), .val (.int x2), .val (.int x3), .val (.int x4), .val (.ref p0), .val (.ref p1), .val (.ref p2), .val (.ref p3), .val (.ref p4), .val (.ref p5), .val (.int (1 : Int32)), .val (.int (1 : Int32)), .val (.ref p0), .val (.ref p1), .unset]) at_160 (pc' := 162) rfl rfl ?_
    refine G.iload H100 at_162 (pc' := 164) rfl rfl ?_
    refine G.iconst H100 at_164 (pc' := 165) rfl (v := (2 : Int32)) rfl ?_
    refine G.icmpYes H100 at_165 (by decide) (by decide) (pc' := 199) rfl ?_
    refine G.aload H100 at_199 (pc' := 201) rfl rfl rfl ?_
    have F104 := (Exa.keep f4 K94)
    have N105 : p3 ≠ p4 := Exa.ne F104 F98 (by decide)
    have F106 := (Fld.keep f5 K94 (ninS N105 nin0))
    have F107 := (Fld.keep f6 K94 (ninS N105 nin0))
    refine G.callV H100 (m60_operands V p4 p3 h90_ H100.old F97 F96 F104 F106 F107) (wd147 V) (wd148 V) (nf_sel (wd150 V)) (wd150 V) (wd149 V) (wd95 V) (wd151 V) (by decide) F98 (argsL := []) (rest := []) (W := 0) rfl rfl (lenOf (pd_15) rfl) rfl rfl at_201 (pc' := 204) rfl (by decide) (by decide) (by decide) (by decide) all0 ?_
    intro T108 h108_ v109 s110 H108 Q111
    obtain ⟨a112, rfl, rfl, K113, g114, F115, F116, F117, F118, F119, F120⟩ := Q111
    have na112 : n0 ≤ a112 := Nat.le_trans H100.le g114
    show Go p e below _ (T108.setTop (mkF m 204 #[.val (.int x0), .val (.int x1), .val (.int x2), .val (.int x3), .val (.int x4), .val (.ref p0), .val (.ref p1), .val (.ref p2), .val (.ref p3), .val (.ref p4), .val (.ref p5), .val (.int (1 : Int32)), .val (.int (1 : Int32)), .val (.ref p0), .val (.ref p1), .unset] [(.ref a112)]))
    refine G.astore H108 (L' := #[.val (.int x0), .val (.int x1), .val (.int x2), .val (.int x3), .val (.int x4), .val (.ref p0), .val (.ref p1), .val (.ref p2), .val (.ref p3), .val (.ref p4), .val (.ref p5), .val (.int (1 : Int32)), .val (.int (1 : Int32)), .val (.ref p0), .val (.ref a112), .unset]) at_204 (pc' := 206) rfl rfl rfl ?_
    refine G.iload H108 at_206 (pc' := 208) rfl rfl ?_
    refine G.ifNo H108 at_208 (pc' := 211) rfl (by decide) ?_
    refine G.aload H108 at_211 (pc' := 213) rfl rfl rfl ?_
    have F121 := (Fld.keep F107 K113 nin0)
    refine G.callF H108 (xi := (⟨"java/util/List", "size", "()I"⟩ : MethodName)) (m61_size V a112 p3 h108_ H108.old F115 F117 F121 F116 F120) (wd186 V) (wd113 V) (fun s2 aa hZ => Jvm.Free.ULB.iface_rides (U := s2) hZ.alike (wd114 V)) (wd187 V) (wd188 V) (wd189 V) (wd190 V) (wd191 V) (wd166 V) (wd192 V) (by decide) F115 (argsL := []) (rest := []) (W := 0) rfl rfl (lenOf (pd_8) rfl) rfl rfl at_213 (pc' := 218) rfl (by decide) (by decide) (by decide) (by decide) all0 ?_
    intro T122 h122_ v123 s124 H122 Q125
    obtain ⟨rfl, rfl, rfl⟩ := Q125
    show Go p e below _ (T122.setTop (mkF m 218 #[.val (.int x0), .val (.int x1), .val (.int x2), .val (.int x3), .val (.int x4), .val (.ref p0), .val (.ref p1), .val (.ref p2), .val (.ref p3), .val (.ref p4), .val (.ref p5), .val (.int (1 : Int32)), .val (.int (1 : Int32)), .val (.ref p0), .val (.ref a112), .unset] [(.int (1 : Int32))]))
    refine G.iconst H122 at_218 (pc' := 219) rfl (v := (2 : Int32)) rfl ?_
    refine G.iload H122 at_219 (pc' := 221) rfl rfl ?_
    refine G.isub H122 at_221 (pc' := 222) rfl ?_
    show Go p e below _ (T122.setTop (mkF m 222 #[.val (.int x0), .val (.int x1), .val (.int x2), .val (.int x3), .val (.int x4), .val (.ref p0), .val (.ref p1), .val (.ref p2), .val (.ref p3), .val (.ref p4), .val (.ref p5), .val (.int (1 : Int32)), .val (.int (1 : Int32)), .val (.ref p0), .val (.ref a112), .unset] [(.int (1 : Int32)), (.int (1 : Int32))]))
    refine G.icmpNo H122 at_222 (pc' := 225) rfl (by decide) ?_
    refine G.iconst H122 at_225 (pc' := 226) rfl (v := (1 : Int32)) rfl ?_
    refine G.goto H122 at_226 (by decide) (pc' := 230) rfl ?_
    refine G.istore H122 (L' := #[.val (.int x0), .val (.int x1), .val (.int x2), .val (.int x3), .val (.int x4), .val (.ref p0), .val (.ref p1), .val (.ref p2), .val (.ref p3), .val (.ref p4), .val (.ref p5), .val (.int (1 : Int32)), .val (.int (1 : Int32)), .val (.ref p0), .val (.ref a112), .unset]) at_230 (pc' := 232) rfl rfl ?_
    refine G.iload H122 at_232 (pc' := 234) rfl rfl ?_
    refine G.ifYes H122 at_234 (by decide) (by decide) (pc' := 296) rfl ?_
    refine G.iload H122 at_296 (pc' := 298) rfl rfl ?_
    refine G.iconst H122 at_298 (pc' := 299) rfl (v := (1 : Int32)) rfl ?_
    refine G.icmpNo H122 at_299 (pc' := 302) rfl (by decide) ?_
    refine G.iload H122 at_302 (pc' := 304) rfl rfl ?_
    refine G.ifNo H122 at_304 (pc' := 307) rfl (by decide) ?_
    refine G.aload H122 at_307 (pc' := 309) rfl rfl rfl ?_
    refine G.iconst H122 at_309 (pc' := 310) rfl (v := (0 : Int32)) rfl ?_
    have F126 := (Exa.keep F104 K113)
    have K127 : Keep h0 h108_ [p4] := (Keep.trans (Keep.trans (Keep.refl h0 [p4]) K94 (allS (Or.inl (List.mem_of_getElem? (i := 0) rfl)) all0)) K113 all0)
    have F128 := (Fld.keep f7 K127 (ninS N105 nin0))
    have F129 := (Arv.keep f8 K127 (ninS N89 nin0))
    refine G.callF H122 (xi := (⟨"java/util/List", "get", "(I)Ljava/lang/Object;"⟩ : MethodName)) (m64_get V a112 p3 p6 c0 p0 p1 p2 h108_ H122.old F120 F115 F117 F121 F116 F119 F126 F128 F129) (wd198 V) (wd121 V) (fun s2 aa hZ => Jvm.Free.ULB.iface_rides (U := s2) hZ.alike (wd122 V)) (wd199 V) (wd200 V) (wd201 V) (wd202 V) (wd191 V) (wd166 V) (wd203 V) (by decide) F115 (argsL := [(.int (0 : Int32))]) (rest := []) (W := 0) rfl rfl (lenOf (pd_10) rfl) rfl rfl at_310 (pc' := 315) rfl (by decide) (by decide) (by decide) (by decide) all0 ?_
    intro T130 h130_ v131 s132 H130 Q133
    obtain ⟨rfl, rfl, rfl⟩ := Q133
    show Go p e below _ (T130.setTop (mkF m 315 #[.val (.int x0), .val (.int x1), .val (.int x2), .val (.int x3), .val (.int x4), .val (.ref p0), .val (.ref p1), .val (.ref p2), .val (.ref p3), .val (.ref p4), .val (.ref p5), .val (.int (1 : Int32)), .val (.int (1 : Int32)), .val (.ref p0), .val (.ref a112), .unset] [(.ref p2)]))
    have F136 := (Exa.keep f10 K127)
    refine G.castY H130 (wd5 V) (Ins.self F136) at_315 (pc' := 318) rfl ?_
    intro T134 H135
    refine G.aload H135 at_318 (pc' := 320) rfl rfl rfl ?_
    refine G.callV H135 (m21_equals V p2 h108_ H135.old) (wd142 V) (wd143 V) (nf_sel (wd145 V)) (wd145 V) (wd144 V) (wd7 V) (wd146 V) (by decide) F136 (argsL := [(.ref p2)]) (rest := []) (W := 0) rfl rfl (lenOf (pd_6) rfl) rfl rfl at_320 (pc' := 323) rfl (by decide) (by decide) (by decide) (by decide) all0 ?_
    intro T137 h137_ v138 s139 H137 Q140
    obtain ⟨rfl, rfl, rfl⟩ := Q140
    show Go p e below _ (T137.setTop (mkF m 323 #[.val (.int x0), .val (.int x1), .val (.int x2), .val (.int x3), .val (.int x4), .val (.ref p0), .val (.ref p1), .val (.ref p2), .val (.ref p3), .val (.ref p4), .val (.ref p5), .val (.int (1 : Int32)), .val (.int (1 : Int32)), .val (.ref p0), .val (.ref a112), .unset] [(.int (1 : Int32))]))
    refine G.ifNo H137 at_323 (pc' := 326) rfl (by decide) ?_
    refine G.iconst H137 at_326 (pc' := 327) rfl (v := (1 : Int32)) rfl ?_
    refine G.goto H137 at_327 (by decide) (pc' := 331) rfl ?_
    refine G.istore H137 (L' := #[.val (.int x0), .val (.int x1), .val (.int x2), .val (.int x3), .val (.int x4), .val (.ref p0), .val (.ref p1), .val (.ref p2), .val (.ref p3), .val (.ref p4), .val (.ref p5), .val (.int (1 : Int32)), .val (.int (1 : Int32)), .val (.ref p0), .val (.ref a112), .unset]) at_331 (pc' := 333) rfl rfl ?_
    refine G.iloadN H137 at_333 (pc' := 334) rfl rfl ?_
    refine G.callS H137 (m37_dashes V x2 h108_ H137.old) (wd206 V) (wd207 V) (wd2 V) (wd208 V) (by decide) (argsL := [(.int x2)]) (rest := []) (W := 0) rfl rfl (lenOf (pd_16) rfl) rfl rfl at_334 (pc' := 337) rfl (by decide) (by decide) (by decide) (by decide) all0 ?_
    intro T141 h141_ v142 s143 H141 Q144
    rcases Q144 with ⟨c145, c146, rfl, rfl, rfl⟩ | ⟨c147, c148, rfl, rfl, rfl⟩ | ⟨c149, rfl, rfl, rfl⟩
    ·
      show Go p e below _ (T141.setTop (mkF m 337 #[.val (.int x0), .val (.int x1), .val (.int x2), .val (.int x3), .val (.int x4), .val (.ref p0), .val (.ref p1), .val (.ref p2), .val (.ref p3), .val (.ref p4), .val (.ref p5), .val (.int (1 : Int32)), .val (.int (1 : Int32)), .val (.ref p0), .val (.ref a112), .unset] [(.int (1 : Int32))]))
      refine G.istore H141 (L' := #[.val (.int x0), .val (.int x1), .val (.int x2), .val (.int x3), .val (.int x4), .val (.ref p0), .val (.ref p1), .val (.ref p2), .val (.ref p3), .val (.ref p4), .val (.ref p5), .val (.int (1 : Int32)), .val (.int (1 : Int32)), .val (.ref p0), .val (.ref a112), .val (.int (1 : Int32))]) at_337 (pc' := 339) rfl rfl ?_
      refine G.goto H141 at_339 (by decide) (pc' := 345) rfl ?_
      refine G.iload H141 at_345 (pc' := 347) rfl rfl ?_
      refine G.ifNo H141 at_347 (pc' := 350) rfl (by decide) ?_
      refine G.aload H141 at_350 (pc' := 352) rfl rfl rfl ?_
      have F150 := (Exa.keep F98 K113)
      have F151 := (Fld.keep F96 K113 nin0)
      have F152 := (Fld.keep F97 K113 nin0)
      have F153 := (Fld.keep F106 K113 nin0)
      have N154 : p2 ≠ p4 := Exa.ne F136 F150 (by decide)
      have F155 := (Fld.keep f15 K127 (ninS N154 nin0))
      have F156 := (Arv.keep f16 K127 (ninS q17 nin0))
      have F157 := (Fld.keep f18 K127 (ninS N154 nin0))
      refine G.callV H141 (m68_nextIsOption V p4 p3 p6 c0 p0 p1 p2 p8 c2 ((x2 &&& (255 : Int32)).toInt8.toInt32) (((XT.ushr x2 (8 : Int32)) &&& (255 : Int32)).toInt8.toInt32) h108_ H141.old F151 F152 F126 F153 F128 F129 F136 F155 F156 F157 ((own_b8 (own_and255 _) (by decide)).mpr c145) ((own_b8 (own_and255 _) (by decide)).mpr c146)) (wd209 V) (wd210 V) (nf_sel (wd212 V)) (wd212 V) (wd211 V) (wd95 V) (wd213 V) (by decide) F150 (argsL := []) (rest := []) (W := 0) rfl rfl (lenOf (pd_21) rfl) rfl rfl at_352 (pc' := 355) rfl (by decide) (by decide) (by decide) (by decide) (allS (List.mem_of_getElem? (i := 1) rfl) all0) ?_
      intro T158 h158_ v159 s160 H158 Q161
      obtain ⟨rfl, rfl, K162⟩ := Q161
      show Go p e below _ (T158.setTop (mkF m 355 #[.val (.int x0), .val (.int x1), .val (.int x2), .val (.int x3), .val (.int x4), .val (.ref p0), .val (.ref p1), .val (.ref p2), .val (.ref p3), .val (.ref p4), .val (.ref p5), .val (.int (1 : Int32)), .val (.int (1 : Int32)), .val (.ref p0), .val (.ref a112), .val (.int (1 : Int32))] [(.int (1 : Int32))]))
      refine G.iload H158 at_355 (pc' := 357) rfl rfl ?_
      refine G.icmpNo H158 at_357 (pc' := 360) rfl (by decide) ?_
      refine G.iconst H158 at_360 (pc' := 361) rfl (v := (1 : Int32)) rfl ?_
      refine G.goto H158 at_361 (by decide) (pc' := 365) rfl ?_
      refine G.istore H158 (L' := #[.val (.int x0), .val (.int x1), .val (.int x2), .val (.int x3), .val (.int x4), .val (.ref p0), .val (.ref p1), .val (.ref p2), .val (.ref p3), .val (.ref p4), .val (.ref p5), .val (.int (1 : Int32)), .val (.int (1 : Int32)), .val (.ref p0), .val (.ref a112), .val (.int (1 : Int32))]) at_365 (pc' := 367) rfl rfl ?_
      refine G.iload H158 at_367 (pc' := 369) rfl rfl ?_
      exact G.retN H158 (t := .boolean) rfl (by decide) at_369 (so := []) all0 (by decide) (by decide) rfl
    ·
      show Go p e below _ (T141.setTop (mkF m 337 #[.val (.int x0), .val (.int x1), .val (.int x2), .val (.int x3), .val (.int x4), .val (.ref p0), .val (.ref p1), .val (.ref p2), .val (.ref p3), .val (.ref p4), .val (.ref p5), .val (.int (1 : Int32)), .val (.int (1 : Int32)), .val (.ref p0), .val (.ref a112), .unset] [(.int (0 : Int32))]))
      refine G.istore H141 (L' := #[.val (.int x0), .val (.int x1), .val (.int x2), .val (.int x3), .val (.int x4), .val (.ref p0), .val (.ref p1), .val (.ref p2), .val (.ref p3), .val (.ref p4), .val (.ref p5), .val (.int (1 : Int32)), .val (.int (1 : Int32)), .val (.ref p0), .val (.ref a112), .val (.int (0 : Int32))]) at_337 (pc' := 339) rfl rfl ?_
      refine G.goto H141 at_339 (by decide) (pc' := 345) rfl ?_
      refine G.iload H141 at_345 (pc' := 347) rfl rfl ?_
      refine G.ifNo H141 at_347 (pc' := 350) rfl (by decide) ?_
      refine G.aload H141 at_350 (pc' := 352) rfl rfl rfl ?_
      have F163 := (Exa.keep F98 K113)
      have F164 := (Fld.keep F96 K113 nin0)
      have F165 := (Fld.keep F97 K113 nin0)
      have F166 := (Fld.keep F106 K113 nin0)
      have N167 : p2 ≠ p4 := Exa.ne F136 F163 (by decide)
      have F168 := (Fld.keep f15 K127 (ninS N167 nin0))
      have F169 := (Arv.keep f16 K127 (ninS q17 nin0))
      have F170 := (Fld.keep f18 K127 (ninS N167 nin0))
      refine G.callV H141 (m69_nextIsOption V p4 p3 p6 c0 p0 p1 p2 p8 c2 ((x2 &&& (255 : Int32)).toInt8.toInt32) (((XT.ushr x2 (8 : Int32)) &&& (255 : Int32)).toInt8.toInt32) h108_ H141.old F164 F165 F126 F166 F128 F129 F136 F168 F169 F170 ((own_b8 (own_and255 _) (by decide)).mpr c147) (fun q => c148 ((own_b8 (own_and255 _) (by decide)).mp q))) (wd209 V) (wd210 V) (nf_sel (wd212 V)) (wd212 V) (wd211 V) (wd95 V) (wd213 V) (by decide) F163 (argsL := []) (rest := []) (W := 0) rfl rfl (lenOf (pd_21) rfl) rfl rfl at_352 (pc' := 355) rfl (by decide) (by decide) (by decide) (by decide) (allS (List.mem_of_getElem? (i := 1) rfl) all0) ?_
      intro T171 h171_ v172 s173 H171 Q174
      obtain ⟨rfl, rfl, K175⟩ := Q174
      show Go p e below _ (T171.setTop (mkF m 355 #[.val (.int x0), .val (.int x1), .val (.int x2), .val (.int x3), .val (.int x4), .val (.ref p0), .val (.ref p1), .val (.ref p2), .val (.ref p3), .val (.ref p4), .val (.ref p5), .val (.int (1 : Int32)), .val (.int (1 : Int32)), .val (.ref p0), .val (.ref a112), .val (.int (0 : Int32))] [(.int (0 : Int32))]))
      refine G.iload H171 at_355 (pc' := 357) rfl rfl ?_
      refine G.icmpNo H171 at_357 (pc' := 360) rfl (by decide) ?_
      refine G.iconst H171 at_360 (pc' := 361) rfl (v := (1 : Int32)) rfl ?_
      refine G.goto H171 at_361 (by decide) (pc' := 365) rfl ?_
      refine G.istore H171 (L' := #[.val (.int x0), .val (.int x1), .val (.int x2), .val (.int x3), .val (.int x4), .val (.ref p0), .val (.ref p1), .val (.ref p2), .val (.ref p3), .val (.ref p4), .val (.ref p5), .val (.int (1 : Int32)), .val (.int (1 : Int32)), .val (.ref p0), .val (.ref a112), .val (.int (0 : Int32))]) at_365 (pc' := 367) rfl rfl ?_
      refine G.iload H171 at_367 (pc' := 369) rfl rfl ?_
      exact G.retN H171 (t := .boolean) rfl (by decide) at_369 (so := []) all0 (by decide) (by decide) rfl
    ·
      show Go p e below _ (T141.setTop (mkF m 337 #[.val (.int x0), .val (.int x1), .val (.int x2), .val (.int x3), .val (.int x4), .val (.ref p0), .val (.ref p1), .val (.ref p2), .val (.ref p3), .val (.ref p4), .val (.ref p5), .val (.int (1 : Int32)), .val (.int (1 : Int32)), .val (.ref p0), .val (.ref a112), .unset] [(.int (0 : Int32))]))
      refine G.istore H141 (L' := #[.val (.int x0), .val (.int x1), .val (.int x2), .val (.int x3), .val (.int x4), .val (.ref p0), .val (.ref p1), .val (.ref p2), .val (.ref p3), .val (.ref p4), .val (.ref p5), .val (.int (1 : Int32)), .val (.int (1 : Int32)), .val (.ref p0), .val (.ref a112), .val (.int (0 : Int32))]) at_337 (pc' := 339) rfl rfl ?_
      refine G.goto H141 at_339 (by decide) (pc' := 345) rfl ?_
      refine G.iload H141 at_345 (pc' := 347) rfl rfl ?_
      refine G.ifNo H141 at_347 (pc' := 350) rfl (by decide) ?_
      refine G.aload H141 at_350 (pc' := 352) rfl rfl rfl ?_
      have F176 := (Exa.keep F98 K113)
      have F177 := (Fld.keep F96 K113 nin0)
      have F178 := (Fld.keep F97 K113 nin0)
      have F179 := (Fld.keep F106 K113 nin0)
      have N180 : p2 ≠ p4 := Exa.ne F136 F176 (by decide)
      have F181 := (Fld.keep f15 K127 (ninS N180 nin0))
      have F182 := (Arv.keep f16 K127 (ninS q17 nin0))
      have F183 := (Fld.keep f18 K127 (ninS N180 nin0))
      refine G.callV H141 (m70_nextIsOption V p4 p3 p6 c0 p0 p1 p2 p8 c2 ((x2 &&& (255 : Int32)).toInt8.toInt32) (((XT.ushr x2 (8 : Int32)) &&& (255 : Int32)).toInt8.toInt32) h108_ H141.old F177 F178 F126 F179 F128 F129 F136 F181 F182 F183 (fun q => c149 ((own_b8 (own_and255 _) (by decide)).mp q))) (wd209 V) (wd210 V) (nf_sel (wd212 V)) (wd212 V) (wd211 V) (wd95 V) (wd213 V) (by decide) F176 (argsL := []) (rest := []) (W := 0) rfl rfl (lenOf (pd_21) rfl) rfl rfl at_352 (pc' := 355) rfl (by decide) (by decide) (by decide) (by decide) (allS (List.mem_of_getElem? (i := 1) rfl) all0) ?_
      intro T184 h184_ v185 s186 H184 Q187
      obtain ⟨rfl, rfl, K188⟩ := Q187
      show Go p e below _ (T184.setTop (mkF m 355 #[.val (.int x0), .val (.int x1), .val (.int x2), .val (.int x3), .val (.int x4), .val (.ref p0), .val (.ref p1), .val (.ref p2), .val (.ref p3), .val (.ref p4), .val (.ref p5), .val (.int (1 : Int32)), .val (.int (1 : Int32)), .val (.ref p0), .val (.ref a112), .val (.int (0 : Int32))] [(.int (0 : Int32))]))
      refine G.iload H184 at_355 (pc' := 357) rfl rfl ?_
      refine G.icmpNo H184 at_357 (pc' := 360) rfl (by decide) ?_
      refine G.iconst H184 at_360 (pc' := 361) rfl (v := (1 : Int32)) rfl ?_
      refine G.goto H184 at_361 (by decide) (pc' := 365) rfl ?_
      refine G.istore H184 (L' := #[.val (.int x0), .val (.int x1), .val (.int x2), .val (.int x3), .val (.int x4), .val (.ref p0), .val (.ref p1), .val (.ref p2), .val (.ref p3), .val (.ref p4), .val (.ref p5), .val (.int (1 : Int32)), .val (.int (1 : Int32)), .val (.ref p0), .val (.ref a112), .val (.int (0 : Int32))]) at_365 (pc' := 367) rfl rfl ?_
      refine G.iload H184 at_367 (pc' := 369) rfl rfl ?_
      exact G.retN H184 (t := .boolean) rfl (by decide) at_369 (so := []) all0 (by decide) (by decide) rfl
  ·
    refine G.iload H at_125 (pc' := 127) rfl rfl ?_
    refine G.iconst H at_127 (pc' := 128) rfl (v := (1 : Int32)) rfl ?_
    refine G.icmpNo H at_128 (pc' := 131) rfl (by decide) ?_
    refine G.aload H at_131 (pc' := 133) rfl rfl rfl ?_
    refine G.aload H at_133 (pc' := 135) rfl rfl rfl ?_
    have N189 : p6 ≠ p4 := Ne.symm (Exa.neArv f1 f8 (wd94 V))
    refine G.callV H (m56_value V p4 p5 p3 p6 c0 p0 p1 p2 h0 H.old f3 f2 f4 f5 f1 g14 f7 f8 N189 f9) (wd105 V) (wd106 V) (nf_sel (wd108 V)) (wd108 V) (wd107 V) (wd95 V) (wd109 V) (by decide) f1 (argsL := [(.ref p5)]) (rest := []) (W := 0) rfl rfl (lenOf (pd_11) rfl) rfl rfl at_135 (pc' := 138) rfl (by decide) (by decide) (by decide) (by decide) all0 ?_
    intro T190 h190_ v191 s192 H190 Q193
    obtain ⟨rfl, rfl, K194, U195, F196, F197, F198⟩ := Q193
    show Go p e below _ (T190.setTop (mkF m 138 #[.val (.int x0), .val (.int x1), .val (.int x2), .val (.int x3), .val (.int x4), .val (.ref p0), .val (.ref p1), .val (.ref p2), .val (.ref p3), .val (.ref p4), .val (.ref p5), .val (.int (2 : Int32)), .val (.int (1 : Int32)), .val (.ref p0), .unset, .unset] [(.ref p1)]))
    refine G.astore H190 (L' := #[.val (.int x0), .val (.int x1), .val (.int x2), .val (.int x3), .val (.int x4), .val (.ref p0), .val (.ref p1), .val (.ref p2), .val (.ref p3), .val (.ref p4), .val (.ref p5), .val (.int (2 : Int32)), .val (.int (1 : Int32)), .val (.ref p0), .val (.ref p1), .unset]) at_138 (pc' := 140) rfl rfl rfl ?_
    refine G.iload H190 at_140 (pc' := 142) rfl rfl ?_
    refine G.ifNo H190 at_142 (pc' := 145) rfl (by decide) ?_
    refine G.aload H190 at_145 (pc' := 147) rfl rfl rfl ?_
    refine G.aload H190 at_147 (pc' := 149) rfl rfl rfl ?_
    have F199 := (Exa.keep f9 K194)
    refine G.callV H190 (m21_equals V p1 h190_ H190.old) (wd142 V) (wd143 V) (nf_sel (wd145 V)) (wd145 V) (wd144 V) (wd7 V) (wd146 V) (by decide) F199 (argsL := [(.ref p1)]) (rest := []) (W := 0) rfl rfl (lenOf (pd_6) rfl) rfl rfl at_149 (pc' := 152) rfl (by decide) (by decide) (by decide) (by decide) all0 ?_
    intro T200 h200_ v201 s202 H200 Q203
    obtain ⟨rfl, rfl, rfl⟩ := Q203
    show Go p e below _ (T200.setTop (mkF m 152 #[.val (.int x0), .val (.int x1), .val (.int x2), .val (.int x3), .val (.int x4), .val (.ref p0), .val (.ref p1), .val (.ref p2), .val (.ref p3), .val (.ref p4), .val (.ref p5), .val (.int (2 : Int32)), .val (.int (1 : Int32)), .val (.ref p0), .val (.ref p1), .unset] [(.int (1 : Int32))]))
    refine G.ifNo H200 at_152 (pc' := 155) rfl (by decide) ?_
    refine G.iconst H200 at_155 (pc' := 156) rfl (v := (1 : Int32)) rfl ?_
    refine G.goto H200 at_156 (by decide) (pc' := 160) rfl ?_
    refine G.istore H200 (L' := #[.val (.int x0), .val (.int x1), .val (.int x2), .val (.int x3), .val (.int x4), .val (.ref p0), .val (.ref p1), .val (.ref p2), .val (.ref p3), .val (.ref p4), .val (.ref p5), .val (.int (2 : Int32)), .val (.int (1 : Int32)), .val (.ref p0), .val (.ref p1), .unset]) at_160 (pc' := 162) rfl rfl ?_
    refine G.iload H200 at_162 (pc' := 164) rfl rfl ?_
    refine G.iconst H200 at_164 (pc' := 165) rfl (v := (2 : Int32)) rfl ?_
    refine G.icmpNo H200 at_165 (pc' := 168) rfl (by decide) ?_
    refine G.aload H200 at_168 (pc' := 170) rfl rfl rfl ?_
    refine G.aload H200 at_170 (pc' := 172) rfl rfl rfl ?_
    have F204 := (Exa.keep f4 K194)
    have N205 : p3 ≠ p4 := Exa.ne F204 F198 (by decide)
    have F206 := (Fld.keep f5 K194 (ninS N205 nin0))
    have F207 := (Fld.keep f7 K194 (ninS N205 nin0))
    have F208 := (Arv.keep f8 K194 (ninS N189 nin0))
    have F209 := (Exa.keep f10 K194)
    refine G.callV H200 (m71_value V p4 p5 p3 p6 c0 p0 p1 p2 h190_ H200.old F196 F197 F204 F206 F198 g14 F207 F208 N189 F209) (wd105 V) (wd106 V) (nf_sel (wd108 V)) (wd108 V) (wd107 V) (wd95 V) (wd109 V) (by decide) F198 (argsL := [(.ref p5)]) (rest := []) (W := 0) rfl rfl (lenOf (pd_11) rfl) rfl rfl at_172 (pc' := 175) rfl (by decide) (by decide) (by decide) (by decide) all0 ?_
    intro T210 h210_ v211 s212 H210 Q213
    obtain ⟨rfl, rfl, K214, U215, F216, F217, F218⟩ := Q213
    show Go p e below _ (T210.setTop (mkF m 175 #[.val (.int x0), .val (.int x1), .val (.int x2), .val (.int x3), .val (.int x4), .val (.ref p0), .val (.ref p1), .val (.ref p2), .val (.ref p3), .val (.ref p4), .val (.ref p5), .val (.int (2 : Int32)), .val (.int (1 : Int32)), .val (.ref p0), .val (.ref p1), .unset] [(.ref p2)]))
    refine G.astore H210 (L' := #[.val (.int x0), .val (.int x1), .val (.int x2), .val (.int x3), .val (.int x4), .val (.ref p0), .val (.ref p1), .val (.ref p2), .val (.ref p3), .val (.ref p4), .val (.ref p5), .val (.int (2 : Int32)), .val (.int (1 : Int32)), .val (.ref p0), .val (.ref p2), .unset]) at_175 (pc' := 177) rfl rfl rfl ?_
    refine G.iload H210 at_177 (pc' := 179) rfl rfl ?_
    refine G.ifNo H210 at_179 (pc' := 182) rfl (by decide) ?_
    refine G.aload H210 at_182 (pc' := 184) rfl rfl rfl ?_
    refine G.aload H210 at_184 (pc' := 186) rfl rfl rfl ?_
    have F219 := (Exa.keep F209 K214)
    refine G.callV H210 (m21_equals V p2 h210_ H210.old) (wd142 V) (wd143 V) (nf_sel (wd145 V)) (wd145 V) (wd144 V) (wd7 V) (wd146 V) (by decide) F219 (argsL := [(.ref p2)]) (rest := []) (W := 0) rfl rfl (lenOf (pd_6) rfl) rfl rfl at_186 (pc' := 189) rfl (by decide) (by decide) (by decide) (by decide) all0 ?_
    intro T220 h220_ v221 s222 H220 Q223
    obtain ⟨rfl, rfl, rfl⟩ := Q223
    show Go p e below _ (T220.setTop (mkF m 189 #[.val (.int x0), .val (.int x1), .val (.int x2), .val (.int x3), .val (.int x4), .val (.ref p0), .val (.ref p1), .val (.ref p2), .val (.ref p3), .val (.ref p4), .val (.ref p5), .val (.int (2 : Int32)), .val (.int (1 : Int32)), .val (.ref p0), .val (.ref p2), .unset] [(.int (1 : Int32))]))
    refine G.ifNo H220 at_189 (pc' := 192) rfl (by decide) ?_
    refine G.iconst H220 at_192 (pc' := 193) rfl (v := (1 : Int32)) rfl ?_
    refine G.goto H220 at_193 (by decide) (pc' := 197) rfl ?_
    refine G.istore H220 (L' := #[.val (.int x0), .val (.int x1), .val (.int x2), .val (.int x3), .val (.int x4), .val (.ref p0), .val (.ref p1), .val (.ref p2), .val (.ref p3), .val (.ref p4), .val (.ref p5), .val (.int (2 : Int32)), .val (.int (1 : Int32)), .val (.ref p0), .val (.ref p2), .unset]) at_197 (pc' := 199) rfl rfl ?_
    refine G.aload H220 at_199 (pc' := 201) rfl rfl rfl ?_
    have F224 := (Exa.keep F204 K214)
    have F225 := (Fld.keep F206 K214 (ninS N205 nin0))
    have K226 : Keep h0 h210_ [p4] := (Keep.trans (Keep.trans (Keep.refl h0 [p4]) K194 (allS (Or.inl (List.mem_of_getElem? (i := 0) rfl)) all0)) K214 (allS (Or.inl (List.mem_of_getElem? (i := 0) rfl)) all0))
    have F227 := (Fld.keep f6 K226 (ninS N205 nin0))
    refine G.callV H220 (m75_operands V p4 p3 h210_ H220.old F217 F216 F224 F225 F227) (wd147 V) (wd148 V) (nf_sel (wd150 V)) (wd150 V) (wd149 V) (wd95 V) (wd151 V) (by decide) F218 (argsL := []) (rest := []) (W := 0) rfl rfl (lenOf (pd_15) rfl) rfl rfl at_201 (pc' := 204) rfl (by decide) (by decide) (by decide) (by decide) all0 ?_
    intro T228 h228_ v229 s230 H228 Q231
    obtain ⟨a232, rfl, rfl, K233, g234, F235, F236, F237, F238, F239, F240⟩ := Q231
    have na232 : n0 ≤ a232 := Nat.le_trans H220.le g234
    show Go p e below _ (T228.setTop (mkF m 204 #[.val (.int x0), .val (.int x1), .val (.int x2), .val (.int x3), .val (.int x4), .val (.ref p0), .val (.ref p1), .val (.ref p2), .val (.ref p3), .val (.ref p4), .val (.ref p5), .val (.int (2 : Int32)), .val (.int (1 : Int32)), .val (.ref p0), .val (.ref p2), .unset] [(.ref a232)]))
    refine G.astore H228 (L' := #[.val (.int x0), .val (.int x1), .val (.int x2), .val (.int x3), .val (.int x4), .val (.ref p0), .val (.ref p1), .val (.ref p2), .val (.ref p3), .val (.ref p4), .val (.ref p5), .val (.int (2 : Int32)), .val (.int (1 : Int32)), .val (.ref p0), .val (.ref a232), .unset]) at_204 (pc' := 206) rfl rfl rfl ?_
    refine G.iload H228 at_206 (pc' := 208) rfl rfl ?_
    refine G.ifNo H228 at_208 (pc' := 211) rfl (by decide) ?_
    refine G.aload H228 at_211 (pc' := 213) rfl rfl rfl ?_
    have F241 := (Fld.keep F227 K233 nin0)
    refine G.callF H228 (xi := (⟨"java/util/List", "size", "()I"⟩ : MethodName)) (m76_size V a232 p3 h228_ H228.old F235 F237 F241 F236 F240) (wd186 V) (wd113 V) (fun s2 aa hZ => Jvm.Free.ULB.iface_rides (U := s2) hZ.alike (wd114 V)) (wd187 V) (wd188 V) (wd189 V) (wd190 V) (wd191 V) (wd166 V) (wd192 V) (by decide) F235 (argsL := []) (rest := []) (W := 0) rfl rfl (lenOf (pd_8) rfl) rfl rfl at_213 (pc' := 218) rfl (by decide) (by decide) (by decide) (by decide) all0 ?_
    intro T242 h242_ v243 s244 H242 Q245
    obtain ⟨rfl, rfl, rfl⟩ := Q245
    show Go p e below _ (T242.setTop (mkF m 218 #[.val (.int x0), .val (.int x1), .val (.int x2), .val (.int x3), .val (.int x4), .val (.ref p0), .val (.ref p1), .val (.ref p2), .val (.ref p3), .val (.ref p4), .val (.ref p5), .val (.int (2 : Int32)), .val (.int (1 : Int32)), .val (.ref p0), .val (.ref a232), .unset] [(.int (0 : Int32))]))
    refine G.iconst H242 at_218 (pc' := 219) rfl (v := (2 : Int32)) rfl ?_
    refine G.iload H242 at_219 (pc' := 221) rfl rfl ?_
    refine G.isub H242 at_221 (pc' := 222) rfl ?_
    show Go p e below _ (T242.setTop (mkF m 222 #[.val (.int x0), .val (.int x1), .val (.int x2), .val (.int x3), .val (.int x4), .val (.ref p0), .val (.ref p1), .val (.ref p2), .val (.ref p3), .val (.ref p4), .val (.ref p5), .val (.int (2 : Int32)), .val (.int (1 : Int32)), .val (.ref p0), .val (.ref a232), .unset] [(.int (0 : Int32)), (.int (0 : Int32))]))
    refine G.icmpNo H242 at_222 (pc' := 225) rfl (by decide) ?_
    refine G.iconst H242 at_225 (pc' := 226) rfl (v := (1 : Int32)) rfl ?_
    refine G.goto H242 at_226 (by decide) (pc' := 230) rfl ?_
    refine G.istore H242 (L' := #[.val (.int x0), .val (.int x1), .val (.int x2), .val (.int x3), .val (.int x4), .val (.ref p0), .val (.ref p1), .val (.ref p2), .val (.ref p3), .val (.ref p4), .val (.ref p5), .val (.int (2 : Int32)), .val (.int (1 : Int32)), .val (.ref p0), .val (.ref a232), .unset]) at_230 (pc' := 232) rfl rfl ?_
    refine G.iload H242 at_232 (pc' := 234) rfl rfl ?_
    refine G.ifYes H242 at_234 (by decide) (by decide) (pc' := 296) rfl ?_
    refine G.iload H242 at_296 (pc' := 298) rfl rfl ?_
    refine G.iconst H242 at_298 (pc' := 299) rfl (v := (1 : Int32)) rfl ?_
    refine G.icmpYes H242 at_299 (by decide) (by decide) (pc' := 342) rfl ?_
    refine G.iconst H242 at_342 (pc' := 343) rfl (v := (0 : Int32)) rfl ?_
    refine G.istore H242 (L' := #[.val (.int x0), .val (.int x1), .val (.int x2), .val (.int x3), .val (.int x4), .val (.ref p0), .val (.ref p1), .val (.ref p2), .val (.ref p3), .val (.ref p4), .val (.ref p5), .val (.int (2 : Int32)), .val (.int (1 : Int32)), .val (.ref p0), .val (.ref a232), .val (.int (0 : Int32))]) at_343 (pc' := 345) rfl rfl ?_
    refine G.iload H242 at_345 (pc' := 347) rfl rfl ?_
    refine G.ifNo H242 at_347 (pc' := 350) rfl (by decide) ?_
    refine G.aload H242 at_350 (pc' := 352) rfl rfl rfl ?_
    have F246 := (Exa.keep F218 K233)
    have F247 := (Fld.keep F216 K233 nin0)
    have F248 := (Fld.keep F217 K233 nin0)
    have F249 := (Exa.keep F224 K233)
    have F250 := (Fld.keep F225 K233 nin0)
    refine G.callV H242 (m77_nextIsOption V p4 p3 h228_ H242.old F247 F248 F249 F250) (wd209 V) (wd210 V) (nf_sel (wd212 V)) (wd212 V) (wd211 V) (wd95 V) (wd213 V) (by decide) F246 (argsL := []) (rest := []) (W := 0) rfl rfl (lenOf (pd_21) rfl) rfl rfl at_352 (pc' := 355) rfl (by decide) (by decide) (by decide) (by decide) all0 ?_
    intro T251 h251_ v252 s253 H251 Q254
    obtain ⟨rfl, rfl, rfl⟩ := Q254
    show Go p e below _ (T251.setTop (mkF m 355 #[.val (.int x0), .val (.int x1), .val (.int x2), .val (.int x3), .val (.int x4), .val (.ref p0), .val (.ref p1), .val (.ref p2), .val (.ref p3), .val (.ref p4), .val (.ref p5), .val (.int (2 : Int32)), .val (.int (1 : Int32)), .val (.ref p0), .val (.ref a232), .val (.int (0 : Int32))] [(.int (0 : Int32))]))
    refine G.iload H251 at_355 (pc' := 357) rfl rfl ?_
    refine G.icmpNo H251 at_357 (pc' := 360) rfl (by decide) ?_
    refine G.iconst H251 at_360 (pc' := 361) rfl (v := (1 : Int32)) rfl ?_
    refine G.goto H251 at_361 (by decide) (pc' := 365) rfl ?_
    refine G.istore H251 (L' := #[.val (.int x0), .val (.int x1), .val (.int x2), .val (.int x3), .val (.int x4), .val (.ref p0), .val (.ref p1), .val (.ref p2), .val (.ref p3), .val (.ref p4), .val (.ref p5), .val (.int (2 : Int32)), .val (.int (1 : Int32)), .val (.ref p0), .val (.ref a232), .val (.int (0 : Int32))]) at_365 (pc' := 367) rfl rfl ?_
    refine G.iload H251 at_367 (pc' := 369) rfl rfl ?_
    exact G.retN H251 (t := .boolean) rfl (by decide) at_369 (so := []) all0 (by decide) (by decide) rfl
set_option maxRecDepth 65536 in
set_option maxHeartbeats 40000000 in
theorem rmLaw (V : Env1 Z a0 n0 uu0 uu1 uu2 uu3 uu4 uu5) (x0 : Int32) (x1 : Int32) (x2 : Int32) (x3 : Int32) (x4 : Int32) (h0 : Heap) (hO : Old Z n0 h0) :
    Met Z a0 ELs True n0 l x code maxLocals ret room_1 #[(.int x0), (.int x1), (.int x2), (.int x3), (.int x4)] h0 [] (fun v h so => v = some (.int 1)) := by
  refine Met.of (EWl V) (by first | decide +kernel | rfl) hO (L0 := #[.val (.int x0), .val (.int x1), .val (.int x2), .val (.int x3), .val (.int x4), .unset, .unset, .unset, .unset, .unset, .unset, .unset, .unset, .unset, .unset, .unset]) rfl ?_
  intro p e s m below meth c T H
  show Go p e below _ (T.setTop (mkF m 0 #[.val (.int x0), .val (.int x1), .val (.int x2), .val (.int x3), .val (.int x4), .unset, .unset, .unset, .unset, .unset, .unset, .unset, .unset, .unset, .unset, .unset] []))
  refine G.iloadN H at_0 (pc' := 1) rfl rfl ?_
  refine G.callS H (m1_two V x0 h0 H.old) (wd0 V) (wd1 V) (wd2 V) (wd3 V) (by decide) (argsL := [(.int x0)]) (rest := []) (W := 0) rfl rfl (lenOf (pd_0) rfl) rfl rfl at_1 (pc' := 4) rfl (by decide) (by decide) (by decide) (by decide) all0 ?_
  intro T1 h1_ v2 s3 H1 Q4
  obtain ⟨a5, a6, k7, rfl, rfl, K8, g9, g10, F11⟩ := Q4
  have na5 : n0 ≤ a5 := Nat.le_trans H.le g9
  have na6 : n0 ≤ a6 := Nat.le_trans H.le (Nat.le_of_lt (Nat.lt_of_le_of_lt g9 g10))
  show Go p e below _ (T1.setTop (mkF m 4 #[.val (.int x0), .val (.int x1), .val (.int x2), .val (.int x3), .val (.int x4), .unset, .unset, .unset, .unset, .unset, .unset, .unset, .unset, .unset, .unset, .unset] [(.ref a5)]))
  refine G.astore H1 (L' := #[.val (.int x0), .val (.int x1), .val (.int x2), .val (.int x3), .val (.int x4), .val (.ref a5), .unset, .unset, .unset, .unset, .unset, .unset, .unset, .unset, .unset, .unset]) at_4 (pc' := 6) rfl rfl rfl ?_
  refine G.iloadN H1 at_6 (pc' := 7) rfl rfl ?_
  refine G.callS H1 (m1_two V x1 h1_ H1.old) (wd0 V) (wd1 V) (wd2 V) (wd3 V) (by decide) (argsL := [(.int x1)]) (rest := []) (W := 0) rfl rfl (lenOf (pd_0) rfl) rfl rfl at_7 (pc' := 10) rfl (by decide) (by decide) (by decide) (by decide) all0 ?_
  intro T12 h12_ v13 s14 H12 Q15
  obtain ⟨a16, a17, k18, rfl, rfl, K19, g20, g21, F22⟩ := Q15
  have na16 : n0 ≤ a16 := Nat.le_trans H1.le g20
  have na17 : n0 ≤ a17 := Nat.le_trans H1.le (Nat.le_of_lt (Nat.lt_of_le_of_lt g20 g21))
  show Go p e below _ (T12.setTop (mkF m 10 #[.val (.int x0), .val (.int x1), .val (.int x2), .val (.int x3), .val (.int x4), .val (.ref a5), .unset, .unset, .unset, .unset, .unset, .unset, .unset, .unset, .unset, .unset] [(.ref a16)]))
  refine G.astore H12 (L' := #[.val (.int x0), .val (.int x1), .val (.int x2), .val (.int x3), .val (.int x4), .val (.ref a5), .val (.ref a16), .unset, .unset, .unset, .unset, .unset, .unset, .unset, .unset, .unset]) at_10 (pc' := 12) rfl rfl rfl ?_
  refine G.iloadN H12 at_12 (pc' := 13) rfl rfl ?_
  refine G.callS H12 (m1_two V x2 h12_ H12.old) (wd0 V) (wd1 V) (wd2 V) (wd3 V) (by decide) (argsL := [(.int x2)]) (rest := []) (W := 0) rfl rfl (lenOf (pd_0) rfl) rfl rfl at_13 (pc' := 16) rfl (by decide) (by decide) (by decide) (by decide) all0 ?_
  intro T23 h23_ v24 s25 H23 Q26
  obtain ⟨a27, a28, k29, rfl, rfl, K30, g31, g32, F33⟩ := Q26
  have na27 : n0 ≤ a27 := Nat.le_trans H12.le g31
  have na28 : n0 ≤ a28 := Nat.le_trans H12.le (Nat.le_of_lt (Nat.lt_of_le_of_lt g31 g32))
  show Go p e below _ (T23.setTop (mkF m 16 #[.val (.int x0), .val (.int x1), .val (.int x2), .val (.int x3), .val (.int x4), .val (.ref a5), .val (.ref a16), .unset, .unset, .unset, .unset, .unset, .unset, .unset, .unset, .unset] [(.ref a27)]))
  refine G.astore H23 (L' := #[.val (.int x0), .val (.int x1), .val (.int x2), .val (.int x3), .val (.int x4), .val (.ref a5), .val (.ref a16), .val (.ref a27), .unset, .unset, .unset, .unset, .unset, .unset, .unset, .unset]) at_16 (pc' := 18) rfl rfl rfl ?_
  refine G.new H23 (wd34 V) (wd35 V) (wd36 V) at_18 (pc' := 21) rfl (by decide) (by decide) ?_
  intro T34 h34_ a35 ga35 H34 E36 A37 D38
  have na35 := H23.nle ga35
  refine G.dup H34 at_21 (pc' := 22) rfl rfl ?_
  have F39 : Fld Z h34_ a35 "java/util/AbstractList" "modCount" "I" (.int (0 : Int32)) := D38 (Or.inl (wd54 V)) (ty := .int) (by decide)
  have F40 : Fld Z h34_ a35 "java/util/ArrayList" "elementData" "[Ljava/lang/Object;" .null := D38 (Or.inl (wd57 V)) (ty := (.array (.object "java/lang/Object"))) (by decide)
  refine G.callI H34 (m4_init V a35 h34_ H34.old A37 F39 na35 F40) rfl (wd37 V) (wd38 V) (wd36 V) (wd39 V) (by decide) (a := a35) (argsL := []) (rest := [(.ref a35)]) (W := 1) rfl rfl (lenOf (pd_1) rfl) rfl rfl at_22 (pc' := 25) rfl (by decide) (by decide) (by decide) (by decide) all0 ?_
  intro T41 h41_ v42 s43 H41 Q44
  obtain ⟨rfl, rfl, K45, U46, F47, F48, F49⟩ := Q44
  show Go p e below _ (T41.setTop (mkF m 25 #[.val (.int x0), .val (.int x1), .val (.int x2), .val (.int x3), .val (.int x4), .val (.ref a5), .val (.ref a16), .val (.ref a27), .unset, .unset, .unset, .unset, .unset, .unset, .unset, .unset] [(.ref a35)]))
  refine G.astore H41 (L' := #[.val (.int x0), .val (.int x1), .val (.int x2), .val (.int x3), .val (.int x4), .val (.ref a5), .val (.ref a16), .val (.ref a27), .val (.ref a35), .unset, .unset, .unset, .unset, .unset, .unset, .unset]) at_25 (pc' := 27) rfl rfl rfl ?_
  refine G.aload H41 at_27 (pc' := 29) rfl rfl rfl ?_
  refine G.aload H41 at_29 (pc' := 31) rfl rfl rfl ?_
  have F50 : Fld Z h34_ a35 "java/util/ArrayList" "size" "I" (.int (0 : Int32)) := D38 (Or.inl (wd70 V)) (ty := .int) (by decide)
  have F51 := (U46 "java/util/ArrayList" "size" "I" (.int (0 : Int32)) F50 (slot_ne (Or.inl (wd70 V)) (Or.inl (wd54 V)) (by decide) (t := .int) (t' := .int) (by decide) (by decide)) (slot_ne (Or.inl (wd70 V)) (Or.inl (wd57 V)) (by decide) (t := .int) (t' := (.array (.object "java/lang/Object"))) (by decide) (by decide)))
  have K52 : Keep h1_ h23_ [] := (Keep.trans (Keep.trans (Keep.refl h1_ []) K19 all0) K30 all0)
  have K53 : Keep h1_ h41_ [] := (Keep.trans (Keep.ext (Keep.trans (Keep.trans (Keep.refl h1_ []) K19 all0) K30 all0) E36) K45 (allS (Or.inr (Nat.le_trans K52.1 (Nat.le_of_eq ga35.symm))) all0))
  have F54 := (Exa.keep F11.1 K53)
  refine G.callF H41 (xi := (⟨"java/util/List", "add", "(Ljava/lang/Object;)Z"⟩ : MethodName)) (m9_add V a35 a5 h41_ H41.old F48 F47 na35 F49 F51 F54) (wd58 V) (wd59 V) (fun s2 aa hZ => Jvm.Free.ULB.iface_rides (U := s2) hZ.alike (wd60 V)) (wd61 V) (wd62 V) (wd63 V) (wd64 V) (wd65 V) (wd36 V) (wd66 V) (by decide) F47 (argsL := [(.ref a5)]) (rest := []) (W := 0) rfl rfl (lenOf (pd_6) rfl) rfl rfl at_31 (pc' := 36) rfl (by decide) (by decide) (by decide) (by decide) all0 ?_
  intro T55 h55_ v56 s57 H55 Q58
  obtain ⟨a59, k60, rfl, rfl, K61, g62, U63, O64, F65, F66, F67, F68, F69, F70⟩ := Q58
  have na59 : n0 ≤ a59 := Nat.le_trans H41.le g62
  show Go p e below _ (T55.setTop (mkF m 36 #[.val (.int x0), .val (.int x1), .val (.int x2), .val (.int x3), .val (.int x4), .val (.ref a5), .val (.ref a16), .val (.ref a27), .val (.ref a35), .unset, .unset, .unset, .unset, .unset, .unset, .unset] [(.int (1 : Int32))]))
  refine G.pop H55 at_36 (pc' := 37) rfl rfl ?_
  refine G.aload H55 at_37 (pc' := 39) rfl rfl rfl ?_
  refine G.aload H55 at_39 (pc' := 41) rfl rfl rfl ?_
  have N71 : a59 ≠ a35 := Ne.symm (Exa.neArv F66 F69 (wd35 V))
  have K72 : Keep h12_ h23_ [] := (Keep.trans (Keep.refl h12_ []) K30 all0)
  have K73 : Keep h12_ h55_ [] := (Keep.trans (Keep.trans (Keep.ext (Keep.trans (Keep.refl h12_ []) K30 all0) E36) K45 (allS (Or.inr (Nat.le_trans K72.1 (Nat.le_of_eq ga35.symm))) all0)) K61 (allS (Or.inr (Nat.le_trans K72.1 (Nat.le_of_eq ga35.symm))) all0))
  have F74 := (Exa.keep F22.1 K73)
  refine G.callF H55 (xi := (⟨"java/util/List", "add", "(Ljava/lang/Object;)Z"⟩ : MethodName)) (m11_add V a35 a16 a59 k60 a5 h55_ H55.old F65 F66 na35 F67 F68 F69 N71 na59 O64 F74) (wd58 V) (wd59 V) (fun s2 aa hZ => Jvm.Free.ULB.iface_rides (U := s2) hZ.alike (wd60 V)) (wd61 V) (wd62 V) (wd63 V) (wd64 V) (wd65 V) (wd36 V) (wd66 V) (by decide) F66 (argsL := [(.ref a16)]) (rest := []) (W := 0) rfl rfl (lenOf (pd_6) rfl) rfl rfl at_41 (pc' := 46) rfl (by decide) (by decide) (by decide) (by decide) all0 ?_
  intro T75 h75_ v76 s77 H75 Q78
  obtain ⟨rfl, rfl, K79, U80, F81, F82, F83, F84, F85⟩ := Q78
  show Go p e below _ (T75.setTop (mkF m 46 #[.val (.int x0), .val (.int x1), .val (.int x2), .val (.int x3), .val (.int x4), .val (.ref a5), .val (.ref a16), .val (.ref a27), .val (.ref a35), .unset, .unset, .unset, .unset, .unset, .unset, .unset] [(.int (1 : Int32))]))
  refine G.pop H75 at_46 (pc' := 47) rfl rfl ?_
  refine G.aload H75 at_47 (pc' := 49) rfl rfl rfl ?_
  refine G.aload H75 at_49 (pc' := 51) rfl rfl rfl ?_
  have K86 : Keep h23_ h41_ [] := (Keep.trans (Keep.ext (Keep.refl h23_ []) E36) K45 (allS (Or.inr (Nat.le_of_eq ga35.symm)) all0))
  have K87 : Keep h23_ h75_ [] := (Keep.trans (Keep.trans (Keep.trans (Keep.ext (Keep.refl h23_ []) E36) K45 (allS (Or.inr (Nat.le_of_eq ga35.symm)) all0)) K61 (allS (Or.inr (Nat.le_of_eq ga35.symm)) all0)) K79 (allS (Or.inr (Nat.le_of_eq ga35.symm)) (allS (Or.inr (Nat.le_trans K86.1 g62)) all0)))
  have F88 := (Exa.keep F33.1 K87)
  refine G.callF H75 (xi := (⟨"java/util/List", "add", "(Ljava/lang/Object;)Z"⟩ : MethodName)) (m13_add V a35 a27 a59 k60 a5 a16 h75_ H75.old F81 F82 na35 F83 F84 F85 N71 na59 O64 F88) (wd58 V) (wd59 V) (fun s2 aa hZ => Jvm.Free.ULB.iface_rides (U := s2) hZ.alike (wd60 V)) (wd61 V) (wd62 V) (wd63 V) (wd64 V) (wd65 V) (wd36 V) (wd66 V) (by decide) F82 (argsL := [(.ref a27)]) (rest := []) (W := 0) rfl rfl (lenOf (pd_6) rfl) rfl rfl at_51 (pc' := 56) rfl (by decide) (by decide) (by decide) (by decide) all0 ?_
  intro T89 h89_ v90 s91 H89 Q92
  obtain ⟨rfl, rfl, K93, U94, F95, F96, F97, F98, F99⟩ := Q92
  show Go p e below _ (T89.setTop (mkF m 56 #[.val (.int x0), .val (.int x1), .val (.int x2), .val (.int x3), .val (.int x4), .val (.ref a5), .val (.ref a16), .val (.ref a27), .val (.ref a35), .unset, .unset, .unset, .unset, .unset, .unset, .unset] [(.int (1 : Int32))]))
  refine G.pop H89 at_56 (pc' := 57) rfl rfl ?_
  refine G.new H89 (wd93 V) (wd94 V) (wd95 V) at_57 (pc' := 60) rfl (by decide) (by decide) ?_
  intro T100 h100_ a101 ga101 H100 E102 A103 D104
  have na101 := H89.nle ga101
  refine G.dup H100 at_60 (pc' := 61) rfl rfl ?_
  refine G.aload H100 at_61 (pc' := 63) rfl rfl rfl ?_
  refine G.iload H100 at_63 (pc' := 65) rfl rfl ?_
  refine G.bipush H100 at_65 (pc' := 67) rfl (v := (16 : Int32)) rfl ?_
  refine G.iushr H100 at_67 (pc' := 68) rfl ?_
  refine G.callS H100 (m1_two V (XT.ushr x4 (16 : Int32)) h100_ H100.old) (wd0 V) (wd1 V) (wd2 V) (wd3 V) (by decide) (argsL := [(.int (XT.ushr x4 (16 : Int32)))]) (rest := [(.ref a35), (.ref a101), (.ref a101)]) (W := 3) rfl rfl (lenOf (pd_0) rfl) rfl rfl at_68 (pc' := 71) rfl (by decide) (by decide) (by decide) (by decide) all0 ?_
  intro T105 h105_ v106 s107 H105 Q108
  obtain ⟨a109, a110, k111, rfl, rfl, K112, g113, g114, F115⟩ := Q108
  have na109 : n0 ≤ a109 := Nat.le_trans H100.le g113
  have na110 : n0 ≤ a110 := Nat.le_trans H100.le (Nat.le_of_lt (Nat.lt_of_le_of_lt g113 g114))
  show Go p e below _ (T105.setTop (mkF m 71 #[.val (.int x0), .val (.int x1), .val (.int x2), .val (.int x3), .val (.int x4), .val (.ref a5), .val (.ref a16), .val (.ref a27), .val (.ref a35), .unset, .unset, .unset, .unset, .unset, .unset, .unset] [(.ref a109), (.ref a35), (.ref a101), (.ref a101)]))
  have F116 := (Exa.keep A103 K112)
  have F117 : Fld Z h100_ a101 "com/example/formboard/formboard/cli/Arguments" "args" "Ljava/util/List;" .null := D104 (Or.inr (wd101 V)) (ty := (.object "java/util/List")) (by decide)
  have F118 := (Fld.keep F117 K112 nin0)
  have F119 : Fld Z h100_ a101 "com/example/formboard/formboard/cli/Arguments" "usage" "Ljava/lang/String;" .null := D104 (Or.inr (wd103 V)) (ty := (.object "java/lang/String")) (by decide)
  have F120 := (Fld.keep F119 K112 nin0)
  refine G.callI H105 (m14_init V a101 a35 a109 h105_ H105.old F116 F118 na101 F120) rfl (wd96 V) (wd97 V) (wd95 V) (wd98 V) (by decide) (a := a101) (argsL := [(.ref a35), (.ref a109)]) (rest := [(.ref a101)]) (W := 1) rfl rfl (lenOf (pd_7) rfl) rfl rfl at_71 (pc' := 74) rfl (by decide) (by decide) (by decide) (by decide) all0 ?_
  intro T121 h121_ v122 s123 H121 Q124
  obtain ⟨rfl, rfl, K125, U126, F127, F128, F129⟩ := Q124
  show Go p e below _ (T121.setTop (mkF m 74 #[.val (.int x0), .val (.int x1), .val (.int x2), .val (.int x3), .val (.int x4), .val (.ref a5), .val (.ref a16), .val (.ref a27), .val (.ref a35), .unset, .unset, .unset, .unset, .unset, .unset, .unset] [(.ref a101)]))
  refine G.astore H121 (L' := #[.val (.int x0), .val (.int x1), .val (.int x2), .val (.int x3), .val (.int x4), .val (.ref a5), .val (.ref a16), .val (.ref a27), .val (.ref a35), .val (.ref a101), .unset, .unset, .unset, .unset, .unset, .unset]) at_74 (pc' := 76) rfl rfl rfl ?_
  refine G.iload H121 at_76 (pc' := 78) rfl rfl ?_
  refine G.callS H121 (m1_two V x4 h121_ H121.old) (wd0 V) (wd1 V) (wd2 V) (wd3 V) (by decide) (argsL := [(.int x4)]) (rest := []) (W := 0) rfl rfl (lenOf (pd_0) rfl) rfl rfl at_78 (pc' := 81) rfl (by decide) (by decide) (by decide) (by decide) all0 ?_
  intro T130 h130_ v131 s132 H130 Q133
  obtain ⟨a134, a135, k136, rfl, rfl, K137, g138, g139, F140⟩ := Q133
  have na134 : n0 ≤ a134 := Nat.le_trans H121.le g138
  have na135 : n0 ≤ a135 := Nat.le_trans H121.le (Nat.le_of_lt (Nat.lt_of_le_of_lt g138 g139))
  show Go p e below _ (T130.setTop (mkF m 81 #[.val (.int x0), .val (.int x1), .val (.int x2), .val (.int x3), .val (.int x4), .val (.ref a5), .val (.ref a16), .val (.ref a27), .val (.ref a35), .val (.ref a101), .unset, .unset, .unset, .unset, .unset, .unset] [(.ref a134)]))
  refine G.astore H130 (L' := #[.val (.int x0), .val (.int x1), .val (.int x2), .val (.int x3), .val (.int x4), .val (.ref a5), .val (.ref a16), .val (.ref a27), .val (.ref a35), .val (.ref a101), .val (.ref a134), .unset, .unset, .unset, .unset, .unset]) at_81 (pc' := 83) rfl rfl rfl ?_
  refine G.iloadN H130 at_83 (pc' := 84) rfl rfl ?_
  refine G.ldcI H130 (wd104 V) at_84 (pc' := 86) rfl ?_
  refine G.iand H130 at_86 (pc' := 87) rfl ?_
  refine G.iconst H130 at_87 (pc' := 88) rfl (v := (3 : Int32)) rfl ?_
  refine G.irem H130 at_88 (pc' := 89) rfl (by decide) ?_
  refine G.istore H130 (L' := #[.val (.int x0), .val (.int x1), .val (.int x2), .val (.int x3), .val (.int x4), .val (.ref a5), .val (.ref a16), .val (.ref a27), .val (.ref a35), .val (.ref a101), .val (.ref a134), .val (.int ((x3 &&& (2147483647 : Int32)) % (3 : Int32))), .unset, .unset, .unset, .unset]) at_89 (pc' := 91) rfl rfl ?_
  refine G.iconst H130 at_91 (pc' := 92) rfl (v := (1 : Int32)) rfl ?_
  refine G.istore H130 (L' := #[.val (.int x0), .val (.int x1), .val (.int x2), .val (.int x3), .val (.int x4), .val (.ref a5), .val (.ref a16), .val (.ref a27), .val (.ref a35), .val (.ref a101), .val (.ref a134), .val (.int ((x3 &&& (2147483647 : Int32)) % (3 : Int32))), .val (.int (1 : Int32)), .unset, .unset, .unset]) at_92 (pc' := 94) rfl rfl ?_
  refine G.aload H130 at_94 (pc' := 96) rfl rfl rfl ?_
  refine G.aload H130 at_96 (pc' := 98) rfl rfl rfl ?_
  have F141 := (Exa.keep F127 K137)
  have F142 : Fld Z h100_ a101 "com/example/formboard/formboard/cli/Arguments" "next" "I" (.int (0 : Int32)) := D104 (Or.inl (wd111 V)) (ty := .int) (by decide)
  have F143 := (Fld.keep (U126 "com/example/formboard/formboard/cli/Arguments" "next" "I" (.int (0 : Int32)) (Fld.keep F142 K112 nin0) (slot_ne (Or.inl (wd111 V)) (Or.inr (wd101 V)) (by decide) (t := .int) (t' := (.object "java/util/List")) (by decide) (by decide)) (slot_ne (Or.inl (wd111 V)) (Or.inr (wd103 V)) (by decide) (t := .int) (t' := (.object "java/lang/String")) (by decide) (by decide))) K137 nin0)
  have F144 := (Fld.keep F128 K137 nin0)
  have K145 : Keep h89_ h130_ [] := (Keep.trans (Keep.trans (Keep.trans (Keep.ext (Keep.refl h89_ []) E102) K112 all0) K125 (allS (Or.inr (Nat.le_of_eq ga101.symm)) all0)) K137 all0)
  have F146 := (Exa.keep F96 K145)
  have F147 := (Fld.keep F98 K145 nin0)
  have F148 := (Fld.keep F97 K145 nin0)
  have F149 := (Arv.keep F99 K145 nin0)
  have N150 : a59 ≠ a101 := Ne.symm (Exa.neArv F141 F149 (wd94 V))
  have K151 : Keep h41_ h89_ [a35] := (Keep.trans (Keep.trans (Keep.trans (Keep.refl h41_ [a35]) K61 (allS (Or.inl (List.mem_of_getElem? (i := 0) rfl)) all0)) K79 (allS (Or.inl (List.mem_of_getElem? (i := 0) rfl)) (allS (Or.inr g62) all0))) K93 (allS (Or.inl (List.mem_of_getElem? (i := 0) rfl)) (allS (Or.inr g62) all0)))
  have K152 : Keep h41_ h130_ [a35] := (Keep.trans (Keep.trans (Keep.trans (Keep.ext (Keep.trans (Keep.trans (Keep.trans (Keep.refl h41_ [a35]) K61 (allS (Or.inl (List.mem_of_getElem? (i := 0) rfl)) all0)) K79 (allS (Or.inl (List.mem_of_getElem? (i := 0) rfl)) (allS (Or.inr g62) all0))) K93 (allS (Or.inl (List.mem_of_getElem? (i := 0) rfl)) (allS (Or.inr g62) all0))) E102) K112 all0) K125 (allS (Or.inr (Nat.le_trans K151.1 (Nat.le_of_eq ga101.symm))) all0)) K137 all0)
  have F153 := (Exa.keep F54 K152)
  refine G.callV H130 (m20_value V a101 a134 a35 a59 k60 a5 a16 a27 h130_ H130.old F143 F144 F146 F147 F141 na101 F148 F149 N150 F153) (wd105 V) (wd106 V) (nf_sel (wd108 V)) (wd108 V) (wd107 V) (wd95 V) (wd109 V) (by decide) F141 (argsL := [(.ref a134)]) (rest := []) (W := 0) rfl rfl (lenOf (pd_11) rfl) rfl rfl at_98 (pc' := 101) rfl (by decide) (by decide) (by decide) (by decide) all0 ?_
  intro T154 h154_ v155 s156 H154 Q157
  obtain ⟨rfl, rfl, K158, U159, F160, F161, F162⟩ := Q157
  show Go p e below _ (T154.setTop (mkF m 101 #[.val (.int x0), .val (.int x1), .val (.int x2), .val (.int x3), .val (.int x4), .val (.ref a5), .val (.ref a16), .val (.ref a27), .val (.ref a35), .val (.ref a101), .val (.ref a134), .val (.int ((x3 &&& (2147483647 : Int32)) % (3 : Int32))), .val (.int (1 : Int32)), .unset, .unset, .unset] [(.ref a5)]))
  refine G.astore H154 (L' := #[.val (.int x0), .val (.int x1), .val (.int x2), .val (.int x3), .val (.int x4), .val (.ref a5), .val (.ref a16), .val (.ref a27), .val (.ref a35), .val (.ref a101), .val (.ref a134), .val (.int ((x3 &&& (2147483647 : Int32)) % (3 : Int32))), .val (.int (1 : Int32)), .val (.ref a5), .unset, .unset]) at_101 (pc' := 103) rfl rfl rfl ?_
  refine G.iload H154 at_103 (pc' := 105) rfl rfl ?_
  refine G.ifNo H154 at_105 (pc' := 108) rfl (by decide) ?_
  refine G.aload H154 at_108 (pc' := 110) rfl rfl rfl ?_
  refine G.aload H154 at_110 (pc' := 112) rfl rfl rfl ?_
  have F163 := (Exa.keep F153 K158)
  refine G.callV H154 (m21_equals V a5 h154_ H154.old) (wd142 V) (wd143 V) (nf_sel (wd145 V)) (wd145 V) (wd144 V) (wd7 V) (wd146 V) (by decide) F163 (argsL := [(.ref a5)]) (rest := []) (W := 0) rfl rfl (lenOf (pd_6) rfl) rfl rfl at_112 (pc' := 115) rfl (by decide) (by decide) (by decide) (by decide) all0 ?_
  intro T164 h164_ v165 s166 H164 Q167
  obtain ⟨rfl, rfl, rfl⟩ := Q167
  show Go p e below _ (T164.setTop (mkF m 115 #[.val (.int x0), .val (.int x1), .val (.int x2), .val (.int x3), .val (.int x4), .val (.ref a5), .val (.ref a16), .val (.ref a27), .val (.ref a35), .val (.ref a101), .val (.ref a134), .val (.int ((x3 &&& (2147483647 : Int32)) % (3 : Int32))), .val (.int (1 : Int32)), .val (.ref a5), .unset, .unset] [(.int (1 : Int32))]))
  refine G.ifNo H164 at_115 (pc' := 118) rfl (by decide) ?_
  refine G.iconst H164 at_118 (pc' := 119) rfl (v := (1 : Int32)) rfl ?_
  refine G.goto H164 at_119 (by decide) (pc' := 123) rfl ?_
  refine G.istore H164 (L' := #[.val (.int x0), .val (.int x1), .val (.int x2), .val (.int x3), .val (.int x4), .val (.ref a5), .val (.ref a16), .val (.ref a27), .val (.ref a35), .val (.ref a101), .val (.ref a134), .val (.int ((x3 &&& (2147483647 : Int32)) % (3 : Int32))), .val (.int (1 : Int32)), .val (.ref a5), .unset, .unset]) at_123 (pc' := 125) rfl rfl ?_
  have F168 := (Exa.keep F146 K158)
  have N169 : a35 ≠ a101 := Exa.ne F168 F162 (by decide)
  have F170 := (Fld.keep F147 K158 (ninS N169 nin0))
  have K171 : Keep h89_ h154_ [] := (Keep.trans (Keep.trans (Keep.trans (Keep.trans (Keep.ext (Keep.refl h89_ []) E102) K112 all0) K125 (allS (Or.inr (Nat.le_of_eq ga101.symm)) all0)) K137 all0) K158 (allS (Or.inr (Nat.le_of_eq ga101.symm)) all0))
  have F172 := (Fld.keep F95 K171 nin0)
  have F173 := (Fld.keep F148 K158 (ninS N169 nin0))
  have F174 := (Arv.keep F149 K158 (ninS N150 nin0))
  have K175 : Keep h55_ h89_ [a35, a59] := (Keep.trans (Keep.trans (Keep.refl h55_ [a35, a59]) K79 (allS (Or.inl (List.mem_of_getElem? (i := 0) rfl)) (allS (Or.inl (List.mem_of_getElem? (i := 1) rfl)) all0))) K93 (allS (Or.inl (List.mem_of_getElem? (i := 0) rfl)) (allS (Or.inl (List.mem_of_getElem? (i := 1) rfl)) all0)))
  have K176 : Keep h55_ h154_ [a35, a59] := (Keep.trans (Keep.trans (Keep.trans (Keep.trans (Keep.ext (Keep.trans (Keep.trans (Keep.refl h55_ [a35, a59]) K79 (allS (Or.inl (List.mem_of_getElem? (i := 0) rfl)) (allS (Or.inl (List.mem_of_getElem? (i := 1) rfl)) all0))) K93 (allS (Or.inl (List.mem_of_getElem? (i := 0) rfl)) (allS (Or.inl (List.mem_of_getElem? (i := 1) rfl)) all0))) E102) K112 all0) K125 (allS (Or.inr (Nat.le_trans K175.1 (Nat.le_of_eq ga101.symm))) all0)) K137 all0) K158 (allS (Or.inr (Nat.le_trans K175.1 (Nat.le_of_eq ga101.symm))) all0))
  have F177 := (Exa.keep F74 K176)
  have K178 : Keep h75_ h89_ [a35, a59] := (Keep.trans (Keep.refl h75_ [a35, a59]) K93 (allS (Or.inl (List.mem_of_getElem? (i := 0) rfl)) (allS (Or.inl (List.mem_of_getElem? (i := 1) rfl)) all0)))
  have K179 : Keep h75_ h154_ [a35, a59] := (Keep.trans (Keep.trans (Keep.trans (Keep.trans (Keep.ext (Keep.trans (Keep.refl h75_ [a35, a59]) K93 (allS (Or.inl (List.mem_of_getElem? (i := 0) rfl)) (allS (Or.inl (List.mem_of_getElem? (i := 1) rfl)) all0))) E102) K112 all0) K125 (allS (Or.inr (Nat.le_trans K178.1 (Nat.le_of_eq ga101.symm))) all0)) K137 all0) K158 (allS (Or.inr (Nat.le_trans K178.1 (Nat.le_of_eq ga101.symm))) all0))
  have F180 := (Exa.keep F88 K179)
  have K181 : Keep h12_ h41_ [] := (Keep.trans (Keep.ext (Keep.trans (Keep.refl h12_ []) K30 all0) E36) K45 (allS (Or.inr (Nat.le_trans K72.1 (Nat.le_of_eq ga35.symm))) all0))
  have K182 : Keep h12_ h89_ [] := (Keep.trans (Keep.trans (Keep.trans (Keep.trans (Keep.ext (Keep.trans (Keep.refl h12_ []) K30 all0) E36) K45 (allS (Or.inr (Nat.le_trans K72.1 (Nat.le_of_eq ga35.symm))) all0)) K61 (allS (Or.inr (Nat.le_trans K72.1 (Nat.le_of_eq ga35.symm))) all0)) K79 (allS (Or.inr (Nat.le_trans K72.1 (Nat.le_of_eq ga35.symm))) (allS (Or.inr (Nat.le_trans K181.1 g62)) all0))) K93 (allS (Or.inr (Nat.le_trans K72.1 (Nat.le_of_eq ga35.symm))) (allS (Or.inr (Nat.le_trans K181.1 g62)) all0)))
  have K183 : Keep h12_ h154_ [] := (Keep.trans (Keep.trans (Keep.trans (Keep.trans (Keep.ext (Keep.trans (Keep.trans (Keep.trans (Keep.trans (Keep.ext (Keep.trans (Keep.refl h12_ []) K30 all0) E36) K45 (allS (Or.inr (Nat.le_trans K72.1 (Nat.le_of_eq ga35.symm))) all0)) K61 (allS (Or.inr (Nat.le_trans K72.1 (Nat.le_of_eq ga35.symm))) all0)) K79 (allS (Or.inr (Nat.le_trans K72.1 (Nat.le_of_eq ga35.symm))) (allS (Or.inr (Nat.le_trans K181.1 g62)) all0))) K93 (allS (Or.inr (Nat.le_trans K72.1 (Nat.le_of_eq ga35.symm))) (allS (Or.inr (Nat.le_trans K181.1 g62)) all0))) E102) K112 all0) K125 (allS (Or.inr (Nat.le_trans K182.1 (Nat.le_of_eq ga101.symm))) all0)) K137 all0) K158 (allS (Or.inr (Nat.le_trans K182.1 (Nat.le_of_eq ga101.symm))) all0))
  have F184 := (Fld.keep F22.2.2.1 K183 nin0)
  have A185 : Arv Z h12_ a17 k18 .byte (2 : Int32) [(.int ((x1 &&& (255 : Int32)).toInt8.toInt32)), (.int (((XT.ushr x1 (8 : Int32)) &&& (255 : Int32)).toInt8.toInt32))] (.int 0) := F22.2.2.2.1
  have F186 := (Arv.keep A185 K183 nin0)
  have F187 := (Fld.keep F22.2.1 K183 nin0)
  have K188 : Keep h23_ h89_ [] := (Keep.trans (Keep.trans (Keep.trans (Keep.trans (Keep.ext (Keep.refl h23_ []) E36) K45 (allS (Or.inr (Nat.le_of_eq ga35.symm)) all0)) K61 (allS (Or.inr (Nat.le_of_eq ga35.symm)) all0)) K79 (allS (Or.inr (Nat.le_of_eq ga35.symm)) (allS (Or.inr (Nat.le_trans K86.1 g62)) all0))) K93 (allS (Or.inr (Nat.le_of_eq ga35.symm)) (allS (Or.inr (Nat.le_trans K86.1 g62)) all0)))
  have K189 : Keep h23_ h154_ [] := (Keep.trans (Keep.trans (Keep.trans (Keep.trans (Keep.ext (Keep.trans (Keep.trans (Keep.trans (Keep.trans (Keep.ext (Keep.refl h23_ []) E36) K45 (allS (Or.inr (Nat.le_of_eq ga35.symm)) all0)) K61 (allS (Or.inr (Nat.le_of_eq ga35.symm)) all0)) K79 (allS (Or.inr (Nat.le_of_eq ga35.symm)) (allS (Or.inr (Nat.le_trans K86.1 g62)) all0))) K93 (allS (Or.inr (Nat.le_of_eq ga35.symm)) (allS (Or.inr (Nat.le_trans K86.1 g62)) all0))) E102) K112 all0) K125 (allS (Or.inr (Nat.le_trans K188.1 (Nat.le_of_eq ga101.symm))) all0)) K137 all0) K158 (allS (Or.inr (Nat.le_trans K188.1 (Nat.le_of_eq ga101.symm))) all0))
  have F190 := (Fld.keep F33.2.2.1 K189 nin0)
  have A191 : Arv Z h23_ a28 k29 .byte (2 : Int32) [(.int ((x2 &&& (255 : Int32)).toInt8.toInt32)), (.int (((XT.ushr x2 (8 : Int32)) &&& (255 : Int32)).toInt8.toInt32))] (.int 0) := F33.2.2.2.1
  have F192 := (Arv.keep A191 K189 nin0)
  have N193 : a28 ≠ a101 := Ne.symm (Exa.neArv F162 F192 (wd94 V))
  have F194 := (Fld.keep F33.2.1 K189 nin0)
  exact cut78_125 V ((x3 &&& (2147483647 : Int32)) % (3 : Int32)) x0 x1 x2 x3 x4 a5 a16 a27 a35 a101 a134 a59 k60 a17 k18 a28 k29 ((H164.less (allS (List.mem_of_getElem? (i := 8) rfl) (allS (List.mem_of_getElem? (i := 6) rfl) all0))).mono (C' := 18) (S' := 56) (by decide) (by decide)) (own_k3 _) F162 F161 F160 F168 F170 F172 F173 F174 F177 F180 F184 F186 F187 na101 F190 F192 N193 F194

set_option maxRecDepth 65536 in
set_option maxHeartbeats 40000000 in
theorem comes_1 {Post : Tables → Env → Array Value → State → Outcome → State → Prop} (hpost : ∀ tb e args s v u, (limb_1_1.after args s (.returned v) u = true ∧ limb_1_2.after args s (.returned v) u = true ∧ True) → ReturnedEndW s (.returned v) u (Jvm.fieldLocs frame_1_writes args s ++ Jvm.arrayLocs frame_1_arrays args s ++ Jvm.staticLocs frame_1_statics s) 48 1216 → Post tb e args s (.returned v) u) :
    ArmFor flags0 classFile x code maxLocals ret World_1 tables_1 room_1 Calls_1 rest_1 Pre_1 Post := by
  intro l hfl _ _ p e ha hc hk s m args below hf hA hF happ hP
  obtain ⟨hcalls, hrest, hpre⟩ := hP
  obtain ⟨-, -, -, hnamed, -, -, -, hat⟩ := (Spec.applies_iff hf).mp happ
  obtain ⟨hg, hn⟩ := and_e (Cond.before_iff.mp (show (Jvm.Cond.and given_1 narrow_1).before args s = true from hpre))
  obtain ⟨hg0, hg1⟩ := and_e hg
  obtain ⟨ha0, hg2⟩ := and_e hg1
  obtain ⟨ha1, hg3⟩ := and_e hg2
  obtain ⟨ha2, hg4⟩ := and_e hg3
  obtain ⟨ha3, hg5⟩ := and_e hg4
  have ha4 := hg5
  obtain ⟨w0, w1, w2, w3, w4, rfl⟩ : ∃ w0 w1 w2 w3 w4 : Value, args = #[w0, w1, w2, w3, w4] := by
    have hs : args.size = 5 := by simpa [Cond.value, given_1] using hg0
    obtain ⟨L⟩ := args
    match L, hs with
    | [w0, w1, w2, w3, w4], _ => exact ⟨w0, w1, w2, w3, w4, rfl⟩
  have hw := fun d (hd : d ∈ tables_1) => atoms_spec (ws := Jvm.Cond.code x code maxLocals ret :: tables_1) hat d (List.mem_cons_of_mem _ hd)
  obtain ⟨hsets, hown0⟩ := atoms_of _ (rest_1_c_eq ▸ (show rest_1_c.before _ s = true from hrest))
  have hr0 := Cond.before_iff.mp hown0
  have hfit : Fit s := fun {y c} hc i hi => by
    obtain ⟨ha, rfl⟩ := Array.getElem?_eq_some_iff.mp hc
    have q := List.all_eq_true.mp ((Array.all_eq_true_iff_forall_mem.mp hF) _ (Array.getElem_mem ha)) i (List.mem_range.mpr hi)
    simpa [Array.getElem?_eq_getElem hi] using q
  obtain ⟨i0, e0⟩ := is_v ha0
  obtain rfl : w0 = (.int i0) := Option.some.inj e0
  obtain ⟨i1, e1⟩ := is_v ha1
  obtain rfl : w1 = (.int i1) := Option.some.inj e1
  obtain ⟨i2, e2⟩ := is_v ha2
  obtain rfl : w2 = (.int i2) := Option.some.inj e2
  obtain ⟨i3, e3⟩ := is_v ha3
  obtain rfl : w3 = (.int i3) := Option.some.inj e3
  obtain ⟨i4, e4⟩ := is_v ha4
  obtain rfl : w4 = (.int i4) := Option.some.inj e4
  obtain ⟨uu0, e_EMPTY_ELEMENTDATA⟩ := exa_v (Cond.before_iff.mp (hsets _ (List.mem_of_getElem? (i := 13) rfl)))
  have hv0 := Sta.start e_EMPTY_ELEMENTDATA (Or.inl (hsets _ (List.mem_of_getElem? (i := 10) rfl)))
  have hv1 := Exa.start e_EMPTY_ELEMENTDATA (Cond.before_iff.mp (hsets _ (List.mem_of_getElem? (i := 13) rfl)))
  obtain ⟨uu1, e_DEFAULTCAPACITY_EMPTY_ELEMENTDATA⟩ := exa_v (Cond.before_iff.mp (hsets _ (List.mem_of_getElem? (i := 16) rfl)))
  have hv2 := Sta.start e_DEFAULTCAPACITY_EMPTY_ELEMENTDATA (Or.inr ⟨hw _ (List.mem_of_getElem? (i := 36) rfl), hsets _ (List.mem_of_getElem? (i := 11) rfl)⟩)
  have hv3 := Exa.start e_DEFAULTCAPACITY_EMPTY_ELEMENTDATA (Cond.before_iff.mp (hsets _ (List.mem_of_getElem? (i := 16) rfl)))
  obtain ⟨cl_EMPTY_ELEMENTDATA, Ar_EMPTY_ELEMENTDATA⟩ := Arr.start e_EMPTY_ELEMENTDATA (Cond.before_iff.mp (hsets _ (List.mem_of_getElem? (i := 12) rfl)))
  obtain ⟨sz_EMPTY_ELEMENTDATA, ln_EMPTY_ELEMENTDATA⟩ := own_len e_EMPTY_ELEMENTDATA Ar_EMPTY_ELEMENTDATA (Cond.before_iff.mp (hsets _ (List.mem_of_getElem? (i := 14) rfl)))
  have hv4 : Arv s s.heap uu0 cl_EMPTY_ELEMENTDATA.cls (.object "java/lang/Object") (0 : Int32) [] .null := Arv.start hfit Ar_EMPTY_ELEMENTDATA sz_EMPTY_ELEMENTDATA ln_EMPTY_ELEMENTDATA (by decide) rfl trivial
  obtain ⟨cl_DEFAULTCAPACITY_EMPTY_ELEMENTDATA, Ar_DEFAULTCAPACITY_EMPTY_ELEMENTDATA⟩ := Arr.start e_DEFAULTCAPACITY_EMPTY_ELEMENTDATA (Cond.before_iff.mp (hsets _ (List.mem_of_getElem? (i := 15) rfl)))
  obtain ⟨sz_DEFAULTCAPACITY_EMPTY_ELEMENTDATA, ln_DEFAULTCAPACITY_EMPTY_ELEMENTDATA⟩ := own_len e_DEFAULTCAPACITY_EMPTY_ELEMENTDATA Ar_DEFAULTCAPACITY_EMPTY_ELEMENTDATA (Cond.before_iff.mp (hsets _ (List.mem_of_getElem? (i := 17) rfl)))
  have hv5 : Arv s s.heap uu1 cl_DEFAULTCAPACITY_EMPTY_ELEMENTDATA.cls (.object "java/lang/Object") (0 : Int32) [] .null := Arv.start hfit Ar_DEFAULTCAPACITY_EMPTY_ELEMENTDATA sz_DEFAULTCAPACITY_EMPTY_ELEMENTDATA ln_DEFAULTCAPACITY_EMPTY_ELEMENTDATA (by decide) rfl trivial
  obtain ⟨uu4, ez_COMPACT_STRINGS⟩ := is_v (Cond.before_iff.mp (hsets _ (List.mem_of_getElem? (i := 1) rfl)))
  have hv6 := Sta.start ez_COMPACT_STRINGS (Or.inl (hsets _ (List.mem_of_getElem? (i := 0) rfl)))
  have hv7 : ¬ (uu4 = (0 : Int32)) := gotF (Cond.eq_ints ez_COMPACT_STRINGS (Term.int_eval (0))) (not_v (Cond.before_iff.mp (hsets _ (List.mem_of_getElem? (i := 2) rfl))))
  obtain ⟨uu5, ez_SIOOBE_FORMATTER, hv9⟩ := isR_v (Cond.before_iff.mp (hsets _ (List.mem_of_getElem? (i := 8) rfl)))
  have hv8 := Sta.start ez_SIOOBE_FORMATTER (Or.inl (hsets _ (List.mem_of_getElem? (i := 7) rfl)))
  have V : Env1 s _ s.heap.size uu0 uu1 cl_EMPTY_ELEMENTDATA.cls cl_DEFAULTCAPACITY_EMPTY_ELEMENTDATA.cls uu4 uu5 := ⟨hw, (EW.cons (hw _ (List.mem_of_getElem? (i := 214) rfl)) (by decide) EW.nil), hv0, hv1, hv2, hv3, hv4, hv5, hv6, hv7, hv8, hv9, trivial⟩
  have hCH : CHv s ELs s.vm s.heap := CHv.start (EWl V) (fun q hq => hcalls.1 q hq) (hsets _ (List.mem_of_getElem? (i := 2) rfl)) (hw _ (List.mem_of_getElem? (i := 23) rfl)) (hw _ (List.mem_of_getElem? (i := 6) rfl))
  obtain ⟨n, o, g1, g2, g3, v, L, so, rfl, rfl, -, N, -, -, hq, hq2⟩ := rmLaw (l := l) V i0 i1 i2 i3 i4 s.heap (Old.start s) tables_1 p e ha hc hk s m _ below hf ((Spec.applies_iff_loose hf).mp happ).1 ⟨rfl, State.Warmed39.refl s, rfl, hCH, fun _ q => nomatch q⟩ trivial
  refine ⟨n, _, g1, g2, g3, hpost _ _ _ _ _ _ ⟨Cond.after_iff.mpr rfl, Cond.after_iff.mpr (eq_i res_at (Term.int_eval (1)) rfl), trivial⟩ ⟨hq.1, hq.2.1, hq.2.2.1, (hq.2.2.2.sift fun y hy => Or.inr (N y hy)).mono (by decide) (by decide)⟩⟩
theorem main_1_1 : Claimed_1_1 := comes_1 fun _ _ _ _ _ _ h hF => ⟨h.1, hF⟩
theorem main_1_2 : Claimed_1_2 := comes_1 fun _ _ _ _ _ _ h hF => ⟨h.2.1, hF⟩
end Jvm.Pilot.@@N@@
namespace Jvm.Pilot.@@N@@
open Jvm Jvm.ClassFile Sem Op Lib Jvm.Free Jvm.Stand Jvm.Pilot.@@N@@.Jvm.D
/-! MADE BY PROGRAM (witnessworld.py) out of the Statement's table words and the real class files: 32 classes; the members and pool entries that the words name. The judged class is class 1, her method 3. -/
namespace start1
open Jvm.ClassFile
def u (s : String) : CpInfo := .utf8 (stringToUtf16 s)
/-- a pool by its gaps: so many unusable entries, then the entry; so many at the end -/
def gap : Nat → List CpInfo → List CpInfo
  | 0, r => r
  | n + 1, r => .unusable :: gap n r
def poolList (es : List (Nat × CpInfo)) (last : Nat) : List CpInfo := es.foldr (fun e r => gap e.1 (e.2 :: r)) (gap last [])
def pool (es : List (Nat × CpInfo)) (last : Nat) : Array CpInfo := ⟨poolList es last⟩
def fileOf (pool : Array CpInfo) (this : Nat) (attrs : Array Attribute := #[]) (ms : Array MethodInfo := #[]) (fl : Nat := 33) (sup : Nat := 0) (ifs : Array Nat := #[]) (fds : Array FieldInfo := #[]) : ClassFile where
  minorVersion := 0
  majorVersion := 65
  constantPool := pool
  accessFlags := fl
  thisClass := this
  superClass := sup
  interfaces := ifs
  fields := fds
  methods := ms
  attributes := attrs
def plain (name : String) (sup : Option ClassId) : Class where
  name := name
  kind := .ordinary
  loader := none
  accessFlags := 33
  super := sup
  interfaces := #[]
  cf := none
  fields := #[]
  methods := #[]
  instanceTypes := #[]
  staticTypes := #[]
  resolved := #[]
  callSites := []
  init := .initialized
  statics := none
  mirror := none

def pool0 : Array CpInfo := pool [(5, u "<init>"), (0, u "()V"), (1, .class_ 10), (1, u "java/lang/Object")] 113

def k0c0 : Code := { maxStack := 0, maxLocals := 1, code := object_method_1_code, exceptionTable := #[], attributes := #[] }
def k0m0 : Method := { name := "<init>", desc := "()V", sig := { parameters := [], returnType := none }, accessFlags := 1, code := some k0c0 }
/-- java/lang/Object -/
def k0 : Class := { plain "java/lang/Object" none with
  accessFlags := 33
  interfaces := #[]
  cf := some (fileOf pool0 8 #[] #[{ accessFlags := 1, nameIndex := 5, descriptorIndex := 6, attributes := #[] }] 33 0 #[] #[])
  fields := #[]
  methods := #[k0m0]
  instanceTypes := #[]
  staticTypes := #[]
  resolved := Array.replicate 124 none
  statics := none }

def pool1 : Array CpInfo := pool [(2, .class_ 4), (0, .nameAndType 5 6), (0, u "java/lang/Object"), (0, u "<init>"), (0, u "()V"), (0, .class_ 8), (0, u "java/lang/String"), (0, .methodref 7 10), (0, .nameAndType 5 11), (0, u "([C)V"), (0, .methodref 13 14), (0, .class_ 15), (0, .nameAndType 16 17), (0, u "com/example/formboard/formboard/cli/ArgumentsValuePinLaw"), (0, u "two"), (0, u "(I)Ljava/lang/String;"), (0, .class_ 19), (0, u "java/util/ArrayList"), (0, .methodref 18 3), (0, .interfaceMethodref 22 23), (0, .class_ 24), (0, .nameAndType 25 26), (0, u "java/util/List"), (0, u "add"), (0, u "(Ljava/lang/Object;)Z"), (0, .class_ 28), (0, u "com/example/formboard/formboard/cli/Arguments"), (0, .methodref 27 30), (0, .nameAndType 5 31), (0, u "(Ljava/util/List;Ljava/lang/String;)V"), (0, .integer 2147483647), (0, .methodref 27 34), (0, .nameAndType 35 36), (0, u "value"), (0, u "(Ljava/lang/String;)Ljava/lang/String;"), (0, .methodref 7 38), (0, .nameAndType 39 26), (0, u "equals"), (0, .methodref 27 41), (0, .nameAndType 42 43), (0, u "operands"), (0, u "()Ljava/util/List;"), (0, .interfaceMethodref 22 45), (0, .nameAndType 46 47), (0, u "size"), (0, u "()I"), (0, .interfaceMethodref 22 49), (0, .nameAndType 50 51), (0, u "get"), (0, u "(I)Ljava/lang/Object;"), (0, .methodref 13 53), (0, .nameAndType 54 55), (0, u "dashes"), (0, u "(I)Z"), (0, .methodref 27 57), (0, .nameAndType 58 59), (0, u "nextIsOption"), (0, u "()Z"), (3, u "law"), (0, u "(IIIII)Z")] 5

def k1m0 : Method := { name := "<init>", desc := "()V", sig := { parameters := [], returnType := none }, accessFlags := 1, code := none }
def k1c1 : Code := { maxStack := 4, maxLocals := 2, code := method_2_code, exceptionTable := #[], attributes := #[] }
def k1m1 : Method := { name := "two", desc := "(I)Ljava/lang/String;", sig := { parameters := [.int], returnType := some (.object "java/lang/String") }, accessFlags := 10, code := some k1c1 }
def k1c2 : Code := { maxStack := 2, maxLocals := 1, code := method_3_code, exceptionTable := #[], attributes := #[] }
def k1m2 : Method := { name := "dashes", desc := "(I)Z", sig := { parameters := [.int], returnType := some .boolean }, accessFlags := 10, code := some k1c2 }
def k1c3 : Code := { maxStack := 5, maxLocals := 16, code := code, exceptionTable := #[], attributes := #[] }
def k1m3 : Method := { name := "law", desc := "(IIIII)Z", sig := { parameters := [.int, .int, .int, .int, .int], returnType := some .boolean }, accessFlags := 9, code := some k1c3 }
/-- com/example/formboard/formboard/cli/ArgumentsValuePinLaw -/
def k1 : Class := { plain "com/example/formboard/formboard/cli/ArgumentsValuePinLaw" (some 0) with
  accessFlags := 49
  interfaces := #[]
  cf := some (fileOf pool1 13 #[] #[{ accessFlags := 1, nameIndex := 5, descriptorIndex := 6, attributes := #[] }, { accessFlags := 10, nameIndex := 16, descriptorIndex := 17, attributes := #[] }, { accessFlags := 10, nameIndex := 54, descriptorIndex := 55, attributes := #[] }, { accessFlags := 9, nameIndex := 63, descriptorIndex := 64, attributes := #[] }] 49 2 #[] #[])
  fields := #[]
  methods := #[k1m0, k1m1, k1m2, k1m3]
  instanceTypes := #[]
  staticTypes := #[]
  resolved := Array.replicate 70 none
  statics := none }

def pool2 : Array CpInfo := pool [(1, .class_ 2), (0, u "java/io/Serializable"), (0, .class_ 4), (0, u "java/lang/Object")] 2

/-- java/io/Serializable -/
def k2 : Class := { plain "java/io/Serializable" (some 0) with
  accessFlags := 1537
  interfaces := #[]
  cf := some (fileOf pool2 1 #[] #[] 1537 3 #[] #[])
  fields := #[]
  methods := #[]
  instanceTypes := #[]
  staticTypes := #[]
  resolved := Array.replicate 7 none
  statics := none }

def pool3 : Array CpInfo := pool [(1, .class_ 2), (0, u "java/lang/Comparable"), (0, .class_ 4), (0, u "java/lang/Object")] 7

/-- java/lang/Comparable -/
def k3 : Class := { plain "java/lang/Comparable" (some 0) with
  accessFlags := 1537
  interfaces := #[]
  cf := some (fileOf pool3 1 #[] #[] 1537 3 #[] #[])
  fields := #[]
  methods := #[]
  instanceTypes := #[]
  staticTypes := #[]
  resolved := Array.replicate 12 none
  statics := none }

def pool4 : Array CpInfo := pool [(2, .class_ 4), (1, u "java/lang/CharSequence"), (42, .class_ 48), (0, u "java/lang/CharSequence$1CodePointIterator"), (10, .class_ 60), (0, u "java/lang/CharSequence$1CharIterator"), (5, .class_ 67), (0, u "java/lang/Object")] 63

/-- java/lang/CharSequence -/
def k4 : Class := { plain "java/lang/CharSequence" (some 0) with
  accessFlags := 1537
  interfaces := #[]
  cf := some (fileOf pool4 2 #[.nestMembers #[47, 59]] #[] 1537 66 #[] #[])
  fields := #[]
  methods := #[]
  instanceTypes := #[]
  staticTypes := #[]
  resolved := Array.replicate 131 none
  statics := none }

def pool5 : Array CpInfo := pool [(1, .class_ 2), (0, u "java/lang/constant/Constable"), (0, .class_ 4), (0, u "java/lang/Object")] 6

/-- java/lang/constant/Constable -/
def k5 : Class := { plain "java/lang/constant/Constable" (some 0) with
  accessFlags := 1537
  interfaces := #[]
  cf := some (fileOf pool5 1 #[] #[] 1537 3 #[] #[])
  fields := #[]
  methods := #[]
  instanceTypes := #[]
  staticTypes := #[]
  resolved := Array.replicate 11 none
  statics := none }

def pool6 : Array CpInfo := pool [(1, .class_ 2), (0, u "java/lang/constant/ConstantDesc"), (0, .class_ 4), (0, u "java/lang/Object")] 32

/-- java/lang/constant/ConstantDesc -/
def k6 : Class := { plain "java/lang/constant/ConstantDesc" (some 0) with
  accessFlags := 1537
  interfaces := #[]
  cf := some (fileOf pool6 1 #[] #[] 1537 3 #[] #[])
  fields := #[]
  methods := #[]
  instanceTypes := #[]
  staticTypes := #[]
  resolved := Array.replicate 37 none
  statics := none }

def pool7 : Array CpInfo := pool [(1, .methodref 2 3), (0, .class_ 4), (0, .nameAndType 5 6), (0, u "java/lang/Object"), (0, u "<init>"), (0, u "()V"), (2, .fieldref 10 11), (0, .class_ 12), (0, .nameAndType 13 14), (0, u "java/lang/String"), (0, u "value"), (0, u "[B"), (0, .fieldref 10 16), (0, .nameAndType 17 18), (0, u "coder"), (0, u "B"), (2, u "hash"), (0, u "I"), (2, u "hashIsZero"), (0, u "Z"), (0, .methodref 10 28), (0, .nameAndType 5 29), (0, u "([CIILjava/lang/Void;)V"), (8, .fieldref 10 39), (0, .nameAndType 40 26), (0, u "COMPACT_STRINGS"), (1, .class_ 44), (1, u "java/lang/StringUTF16"), (0, u "compress"), (1, .methodref 42 48), (0, .nameAndType 49 50), (0, u "coderFromArrayLen"), (0, u "([BI)B"), (126, .methodref 42 178), (0, .nameAndType 45 179), (0, u "([CII)[B"), (154, u "()I"), (0, .methodref 10 336), (0, .nameAndType 17 337), (0, u "()B"), (38, u "([BI[BII)I"), (128, .methodref 10 506), (0, .nameAndType 507 334), (0, u "length"), (35, u "equals"), (15, .class_ 561), (1, u "jdk/internal/util/ArraysSupport"), (0, u "mismatch"), (10, u "(Ljava/lang/Object;)Z"), (1, .class_ 576), (0, u "java/lang/CharSequence"), (22, u "CASE_INSENSITIVE_ORDER"), (0, u "Ljava/util/Comparator;"), (6, .methodref 559 608), (0, .nameAndType 562 376), (15, .methodref 10 625), (0, .nameAndType 626 627), (0, u "startsWith"), (0, u "(Ljava/lang/String;I)Z"), (382, u "([C)V"), (90, u "serialPersistentFields"), (0, u "[Ljava/io/ObjectStreamField;"), (0, .class_ 1104), (0, u "java/lang/String$CaseInsensitiveComparator"), (1, .class_ 1107), (0, u "java/io/Serializable"), (0, .class_ 1109), (0, u "java/lang/Comparable"), (0, .class_ 1111), (0, u "java/lang/constant/Constable"), (0, .class_ 1113), (0, u "java/lang/constant/ConstantDesc"), (2, u "serialVersionUID"), (0, u "J"), (3, u "REPL"), (0, u "C"), (2, u "LATIN1"), (1, u "UTF16"), (129, u "(Ljava/lang/String;)Z")] 193

def k7m0 : Method := { name := "<init>", desc := "()V", sig := { parameters := [], returnType := none }, accessFlags := 1, code := none }
def k7c1 : Code := { maxStack := 5, maxLocals := 2, code := jdk_42_method_3_code, exceptionTable := #[], attributes := #[] }
def k7m1 : Method := { name := "<init>", desc := "([C)V", sig := { parameters := [(.array .char)], returnType := none }, accessFlags := 1, code := some k7c1 }
def k7c2 : Code := { maxStack := 2, maxLocals := 1, code := jdk_42_method_54_code, exceptionTable := #[], attributes := #[] }
def k7m2 : Method := { name := "length", desc := "()I", sig := { parameters := [], returnType := some .int }, accessFlags := 1, code := some k7c2 }
def k7c3 : Code := { maxStack := 2, maxLocals := 3, code := jdk_42_method_66_code, exceptionTable := #[], attributes := #[] }
def k7m3 : Method := { name := "equals", desc := "(Ljava/lang/Object;)Z", sig := { parameters := [(.object "java/lang/Object")], returnType := some .boolean }, accessFlags := 1, code := some k7c3 }
def k7c4 : Code := { maxStack := 5, maxLocals := 8, code := jdk_42_method_75_code, exceptionTable := #[], attributes := #[] }
def k7m4 : Method := { name := "startsWith", desc := "(Ljava/lang/String;I)Z", sig := { parameters := [(.object "java/lang/String"), .int], returnType := some .boolean }, accessFlags := 1, code := some k7c4 }
def k7c5 : Code := { maxStack := 3, maxLocals := 2, code := jdk_42_method_76_code, exceptionTable := #[], attributes := #[] }
def k7m5 : Method := { name := "startsWith", desc := "(Ljava/lang/String;)Z", sig := { parameters := [(.object "java/lang/String")], returnType := some .boolean }, accessFlags := 1, code := some k7c5 }
def k7c6 : Code := { maxStack := 4, maxLocals := 6, code := jdk_42_method_149_code, exceptionTable := #[], attributes := #[] }
def k7m6 : Method := { name := "<init>", desc := "([CIILjava/lang/Void;)V", sig := { parameters := [(.array .char), .int, .int, (.object "java/lang/Void")], returnType := none }, accessFlags := 2, code := some k7c6 }
def k7c7 : Code := { maxStack := 1, maxLocals := 1, code := jdk_42_method_152_code, exceptionTable := #[], attributes := #[] }
def k7m7 : Method := { name := "coder", desc := "()B", sig := { parameters := [], returnType := some .byte }, accessFlags := 0, code := some k7c7 }
/-- java/lang/String -/
def k7 : Class := { plain "java/lang/String" (some 0) with
  accessFlags := 49
  interfaces := #[2, 3, 4, 5, 6]
  cf := some (fileOf pool7 10 #[.nestMembers #[1103]] #[{ accessFlags := 1, nameIndex := 5, descriptorIndex := 6, attributes := #[] }, { accessFlags := 1, nameIndex := 5, descriptorIndex := 1010, attributes := #[] }, { accessFlags := 1, nameIndex := 507, descriptorIndex := 334, attributes := #[] }, { accessFlags := 1, nameIndex := 543, descriptorIndex := 573, attributes := #[] }, { accessFlags := 1, nameIndex := 626, descriptorIndex := 627, attributes := #[] }, { accessFlags := 1, nameIndex := 626, descriptorIndex := 1257, attributes := #[] }, { accessFlags := 2, nameIndex := 5, descriptorIndex := 29, attributes := #[] }, { accessFlags := 0, nameIndex := 17, descriptorIndex := 337, attributes := #[] }] 49 2 #[1106, 1108, 575, 1110, 1112] #[{ accessFlags := 18, nameIndex := 13, descriptorIndex := 14, attributes := #[] }, { accessFlags := 18, nameIndex := 17, descriptorIndex := 18, attributes := #[] }, { accessFlags := 2, nameIndex := 21, descriptorIndex := 22, attributes := #[] }, { accessFlags := 2, nameIndex := 25, descriptorIndex := 26, attributes := #[] }, { accessFlags := 26, nameIndex := 1116, descriptorIndex := 1117, attributes := #[] }, { accessFlags := 24, nameIndex := 40, descriptorIndex := 26, attributes := #[] }, { accessFlags := 26, nameIndex := 1101, descriptorIndex := 1102, attributes := #[] }, { accessFlags := 26, nameIndex := 1121, descriptorIndex := 1122, attributes := #[] }, { accessFlags := 25, nameIndex := 599, descriptorIndex := 600, attributes := #[] }, { accessFlags := 24, nameIndex := 1125, descriptorIndex := 18, attributes := #[] }, { accessFlags := 24, nameIndex := 1127, descriptorIndex := 18, attributes := #[] }])
  fields := #[{ name := "value", type := (.array .byte), accessFlags := 18, slot := 0, constantValue := 0 }, { name := "coder", type := .byte, accessFlags := 18, slot := 1, constantValue := 0 }, { name := "hash", type := .int, accessFlags := 2, slot := 2, constantValue := 0 }, { name := "hashIsZero", type := .boolean, accessFlags := 2, slot := 3, constantValue := 0 }, { name := "serialVersionUID", type := .long, accessFlags := 26, slot := 0, constantValue := 0 }, { name := "COMPACT_STRINGS", type := .boolean, accessFlags := 24, slot := 1, constantValue := 0 }, { name := "serialPersistentFields", type := (.array (.object "java/io/ObjectStreamField")), accessFlags := 26, slot := 2, constantValue := 0 }, { name := "REPL", type := .char, accessFlags := 26, slot := 3, constantValue := 0 }, { name := "CASE_INSENSITIVE_ORDER", type := (.object "java/util/Comparator"), accessFlags := 25, slot := 4, constantValue := 0 }, { name := "LATIN1", type := .byte, accessFlags := 24, slot := 5, constantValue := 0 }, { name := "UTF16", type := .byte, accessFlags := 24, slot := 6, constantValue := 0 }]
  methods := #[k7m0, k7m1, k7m2, k7m3, k7m4, k7m5, k7m6, k7m7]
  instanceTypes := #[(.array .byte), .byte, .int, .boolean]
  staticTypes := #[.long, .boolean, (.array (.object "java/io/ObjectStreamField")), .char, (.object "java/util/Comparator"), .byte, .byte]
  resolved := Array.replicate 1451 none
  statics := some 0 }

def pool8 : Array CpInfo := pool [(6, .class_ 8), (1, u "java/lang/Object"), (0, u "<init>"), (0, u "()V"), (1, .class_ 14), (1, u "java/lang/StringUTF16"), (31, u "$assertionsDisabled"), (0, u "Z"), (13, u "HI_BYTE_SHIFT"), (0, u "I"), (2, u "LO_BYTE_SHIFT"), (49, .methodref 12 116), (0, .nameAndType 117 118), (0, u "compress"), (0, u "([CI[BII)I"), (3, u "([CII)[B"), (138, u "coderFromArrayLen"), (0, u "([BI)B"), (106, .class_ 371), (1, u "java/lang/StringUTF16$LinesSpliterator"), (58, u "MAX_LENGTH"), (196, .class_ 628), (0, u "java/lang/StringUTF16$CodePointsSpliterator"), (0, .class_ 630), (0, u "java/lang/StringUTF16$CharsSpliterator")] 4

def k8m0 : Method := { name := "<init>", desc := "()V", sig := { parameters := [], returnType := none }, accessFlags := 0, code := none }
def k8c1 : Code := { maxStack := 2, maxLocals := 2, code := jdk_52_method_15_code, exceptionTable := #[], attributes := #[] }
def k8m1 : Method := { name := "coderFromArrayLen", desc := "([BI)B", sig := { parameters := [(.array .byte), .int], returnType := some .byte }, accessFlags := 8, code := some k8c1 }
def k8c2 : Code := { maxStack := 5, maxLocals := 6, code := jdk_52_method_16_code, exceptionTable := #[], attributes := #[] }
def k8m2 : Method := { name := "compress", desc := "([CII)[B", sig := { parameters := [(.array .char), .int, .int], returnType := some (.array .byte) }, accessFlags := 9, code := some k8c2 }
def k8c3 : Code := { maxStack := 3, maxLocals := 7, code := jdk_52_method_21_code, exceptionTable := #[], attributes := #[] }
def k8m3 : Method := { name := "compress", desc := "([CI[BII)I", sig := { parameters := [(.array .char), .int, (.array .byte), .int, .int], returnType := some .int }, accessFlags := 9, code := some k8c3 }
/-- java/lang/StringUTF16 -/
def k8 : Class := { plain "java/lang/StringUTF16" (some 0) with
  accessFlags := 48
  interfaces := #[]
  cf := some (fileOf pool8 12 #[.nestMembers #[627, 629, 369]] #[{ accessFlags := 0, nameIndex := 9, descriptorIndex := 10, attributes := #[] }, { accessFlags := 8, nameIndex := 261, descriptorIndex := 262, attributes := #[] }, { accessFlags := 9, nameIndex := 117, descriptorIndex := 122, attributes := #[] }, { accessFlags := 9, nameIndex := 117, descriptorIndex := 118, attributes := #[] }] 48 6 #[] #[{ accessFlags := 26, nameIndex := 61, descriptorIndex := 62, attributes := #[] }, { accessFlags := 26, nameIndex := 65, descriptorIndex := 62, attributes := #[] }, { accessFlags := 24, nameIndex := 430, descriptorIndex := 62, attributes := #[] }, { accessFlags := 4120, nameIndex := 46, descriptorIndex := 47, attributes := #[] }])
  fields := #[{ name := "HI_BYTE_SHIFT", type := .int, accessFlags := 26, slot := 0, constantValue := 0 }, { name := "LO_BYTE_SHIFT", type := .int, accessFlags := 26, slot := 1, constantValue := 0 }, { name := "MAX_LENGTH", type := .int, accessFlags := 24, slot := 2, constantValue := 0 }, { name := "$assertionsDisabled", type := .boolean, accessFlags := 4120, slot := 3, constantValue := 0 }]
  methods := #[k8m0, k8m1, k8m2, k8m3]
  instanceTypes := #[]
  staticTypes := #[.int, .int, .int, .boolean]
  resolved := Array.replicate 635 none
  statics := none }

def pool9 : Array CpInfo := pool [(8, .class_ 10), (1, u "java/lang/Iterable"), (24, .class_ 36), (0, u "java/lang/Object")] 25

/-- java/lang/Iterable -/
def k9 : Class := { plain "java/lang/Iterable" (some 0) with
  accessFlags := 1537
  interfaces := #[]
  cf := some (fileOf pool9 8 #[] #[] 1537 35 #[] #[])
  fields := #[]
  methods := #[]
  instanceTypes := #[]
  staticTypes := #[]
  resolved := Array.replicate 62 none
  statics := none }

def pool10 : Array CpInfo := pool [(10, .class_ 12), (1, u "java/util/Collection"), (47, .class_ 61), (0, u "java/lang/Object"), (0, .class_ 63), (0, u "java/lang/Iterable")] 51

/-- java/util/Collection -/
def k10 : Class := { plain "java/util/Collection" (some 0) with
  accessFlags := 1537
  interfaces := #[9]
  cf := some (fileOf pool10 10 #[] #[] 1537 60 #[62] #[])
  fields := #[]
  methods := #[]
  instanceTypes := #[]
  staticTypes := #[]
  resolved := Array.replicate 115 none
  statics := none }

def pool11 : Array CpInfo := pool [(1, .methodref 2 3), (0, .class_ 4), (0, .nameAndType 5 6), (0, u "java/lang/Object"), (0, u "<init>"), (0, u "()V"), (1, .class_ 10), (1, u "java/util/AbstractCollection"), (66, .class_ 78), (0, u "java/util/Collection")] 81

def k11c0 : Code := { maxStack := 1, maxLocals := 1, code := jdk_22_method_1_code, exceptionTable := #[], attributes := #[] }
def k11m0 : Method := { name := "<init>", desc := "()V", sig := { parameters := [], returnType := none }, accessFlags := 4, code := some k11c0 }
/-- java/util/AbstractCollection -/
def k11 : Class := { plain "java/util/AbstractCollection" (some 0) with
  accessFlags := 1057
  interfaces := #[10]
  cf := some (fileOf pool11 8 #[] #[{ accessFlags := 4, nameIndex := 5, descriptorIndex := 6, attributes := #[] }] 1057 2 #[77] #[])
  fields := #[]
  methods := #[k11m0]
  instanceTypes := #[]
  staticTypes := #[]
  resolved := Array.replicate 160 none
  statics := none }

def pool12 : Array CpInfo := pool [(8, .class_ 10), (1, u "java/util/SequencedCollection"), (15, .class_ 27), (0, u "java/lang/Object"), (0, .class_ 29), (0, u "java/util/Collection")] 27

/-- java/util/SequencedCollection -/
def k12 : Class := { plain "java/util/SequencedCollection" (some 0) with
  accessFlags := 1537
  interfaces := #[10]
  cf := some (fileOf pool12 8 #[] #[] 1537 26 #[28] #[])
  fields := #[]
  methods := #[]
  instanceTypes := #[]
  staticTypes := #[]
  resolved := Array.replicate 57 none
  statics := none }

def pool13 : Array CpInfo := pool [(8, .class_ 10), (1, u "java/util/List"), (49, u "add"), (3, u "(Ljava/lang/Object;)Z"), (10, u "get"), (0, u "(I)Ljava/lang/Object;"), (2, u "size"), (0, u "()I"), (22, .class_ 104), (0, u "java/lang/Object"), (15, .class_ 121), (0, u "java/util/SequencedCollection"), (60, u "subList"), (0, u "(II)Ljava/util/List;")] 67

def k13m0 : Method := { name := "size", desc := "()I", sig := { parameters := [], returnType := some .int }, accessFlags := 1025, code := none }
def k13m1 : Method := { name := "add", desc := "(Ljava/lang/Object;)Z", sig := { parameters := [(.object "java/lang/Object")], returnType := some .boolean }, accessFlags := 1025, code := none }
def k13m2 : Method := { name := "get", desc := "(I)Ljava/lang/Object;", sig := { parameters := [.int], returnType := some (.object "java/lang/Object") }, accessFlags := 1025, code := none }
def k13m3 : Method := { name := "subList", desc := "(II)Ljava/util/List;", sig := { parameters := [.int, .int], returnType := some (.object "java/util/List") }, accessFlags := 1025, code := none }
/-- java/util/List -/
def k13 : Class := { plain "java/util/List" (some 0) with
  accessFlags := 1537
  interfaces := #[12]
  cf := some (fileOf pool13 8 #[] #[{ accessFlags := 1025, nameIndex := 79, descriptorIndex := 80, attributes := #[] }, { accessFlags := 1025, nameIndex := 60, descriptorIndex := 64, attributes := #[] }, { accessFlags := 1025, nameIndex := 75, descriptorIndex := 76, attributes := #[] }, { accessFlags := 1025, nameIndex := 182, descriptorIndex := 183, attributes := #[] }] 1537 103 #[120] #[])
  fields := #[]
  methods := #[k13m0, k13m1, k13m2, k13m3]
  instanceTypes := #[]
  staticTypes := #[]
  resolved := Array.replicate 251 none
  statics := none }

def pool14 : Array CpInfo := pool [(1, .methodref 2 3), (0, .class_ 4), (0, .nameAndType 5 6), (0, u "java/util/AbstractCollection"), (0, u "<init>"), (0, u "()V"), (0, .fieldref 8 9), (0, .class_ 10), (0, .nameAndType 11 12), (0, u "java/util/AbstractList"), (0, u "modCount"), (0, u "I"), (64, .class_ 78), (0, u "java/util/AbstractList$Itr"), (3, .class_ 83), (0, u "java/util/AbstractList$ListItr"), (5, u "subListRangeCheck"), (0, u "(III)V"), (2, .class_ 94), (0, u "java/util/AbstractList$RandomAccessSubList"), (3, .class_ 99), (0, u "java/util/AbstractList$SubList"), (33, .class_ 134), (0, u "java/util/List"), (73, .class_ 209), (0, u "java/util/AbstractList$SubList$1"), (0, .class_ 211), (0, u "java/util/AbstractList$RandomAccessSpliterator")] 6

def k14c0 : Code := { maxStack := 2, maxLocals := 1, code := jdk_39_method_1_code, exceptionTable := #[], attributes := #[] }
def k14m0 : Method := { name := "<init>", desc := "()V", sig := { parameters := [], returnType := none }, accessFlags := 4, code := some k14c0 }
def k14c1 : Code := { maxStack := 4, maxLocals := 3, code := jdk_39_method_15_code, exceptionTable := #[], attributes := #[] }
def k14m1 : Method := { name := "subListRangeCheck", desc := "(III)V", sig := { parameters := [.int, .int, .int], returnType := none }, accessFlags := 8, code := some k14c1 }
/-- java/util/AbstractList -/
def k14 : Class := { plain "java/util/AbstractList" (some 11) with
  accessFlags := 1057
  interfaces := #[13]
  cf := some (fileOf pool14 8 #[.nestMembers #[93, 98, 208, 210, 82, 77]] #[{ accessFlags := 4, nameIndex := 5, descriptorIndex := 6, attributes := #[] }, { accessFlags := 8, nameIndex := 89, descriptorIndex := 90, attributes := #[] }] 1057 2 #[133] #[{ accessFlags := 132, nameIndex := 11, descriptorIndex := 12, attributes := #[] }])
  fields := #[{ name := "modCount", type := .int, accessFlags := 132, slot := 0, constantValue := 0 }]
  methods := #[k14m0, k14m1]
  instanceTypes := #[.int]
  staticTypes := #[]
  resolved := Array.replicate 218 none
  statics := none }

def pool15 : Array CpInfo := pool [(1, .class_ 2), (0, u "java/util/RandomAccess"), (0, .class_ 4), (0, u "java/lang/Object")] 2

/-- java/util/RandomAccess -/
def k15 : Class := { plain "java/util/RandomAccess" (some 0) with
  accessFlags := 1537
  interfaces := #[]
  cf := some (fileOf pool15 1 #[] #[] 1537 3 #[] #[])
  fields := #[]
  methods := #[]
  instanceTypes := #[]
  staticTypes := #[]
  resolved := Array.replicate 7 none
  statics := none }

def pool16 : Array CpInfo := pool [(1, .class_ 2), (0, u "java/lang/Cloneable"), (0, .class_ 4), (0, u "java/lang/Object")] 2

/-- java/lang/Cloneable -/
def k16 : Class := { plain "java/lang/Cloneable" (some 0) with
  accessFlags := 1537
  interfaces := #[]
  cf := some (fileOf pool16 1 #[] #[] 1537 3 #[] #[])
  fields := #[]
  methods := #[]
  instanceTypes := #[]
  staticTypes := #[]
  resolved := Array.replicate 7 none
  statics := none }

def pool17 : Array CpInfo := pool [(1, .methodref 2 3), (0, .class_ 4), (0, .nameAndType 5 6), (0, u "java/util/AbstractList"), (0, u "<init>"), (0, u "()V"), (0, .class_ 8), (0, u "java/lang/Object"), (0, .fieldref 10 11), (0, .class_ 12), (0, .nameAndType 13 14), (0, u "java/util/ArrayList"), (0, u "elementData"), (0, u "[Ljava/lang/Object;"), (2, u "EMPTY_ELEMENTDATA"), (21, .fieldref 10 40), (0, .nameAndType 41 14), (0, u "DEFAULTCAPACITY_EMPTY_ELEMENTDATA"), (5, u "()[Ljava/lang/Object;"), (0, .fieldref 10 49), (0, .nameAndType 50 51), (0, u "size"), (0, u "I"), (11, .fieldref 10 64), (0, .nameAndType 65 51), (0, u "modCount"), (3, .methodref 10 70), (0, .nameAndType 71 72), (0, u "grow"), (0, u "(I)[Ljava/lang/Object;"), (6, .methodref 80 81), (0, .class_ 82), (0, .nameAndType 83 84), (0, u "java/lang/Math"), (0, u "max"), (0, u "(II)I"), (11, u "(Ljava/lang/Object;)Z"), (21, .methodref 119 120), (0, .class_ 121), (0, .nameAndType 122 84), (0, u "java/util/Objects"), (0, u "checkIndex"), (0, .methodref 10 124), (0, .nameAndType 13 125), (0, u "(I)Ljava/lang/Object;"), (3, .methodref 10 130), (0, .nameAndType 71 47), (0, .methodref 10 132), (0, .nameAndType 133 134), (0, u "add"), (0, u "(Ljava/lang/Object;[Ljava/lang/Object;I)V"), (13, .class_ 149), (0, u "java/util/List"), (36, u "()I"), (75, .class_ 263), (0, u "java/util/ArrayList$ListItr"), (3, .class_ 268), (0, u "java/util/ArrayList$Itr"), (3, .methodref 10 273), (0, .nameAndType 274 275), (0, u "subListRangeCheck"), (0, u "(III)V"), (0, .class_ 277), (0, u "java/util/ArrayList$SubList"), (0, .methodref 276 279), (0, .nameAndType 5 280), (0, u "(Ljava/util/ArrayList;II)V"), (9, .class_ 291), (0, u "java/util/ArrayList$ArrayListSpliterator"), (37, .class_ 330), (0, u "java/util/RandomAccess"), (0, .class_ 332), (0, u "java/lang/Cloneable"), (0, .class_ 334), (0, u "java/io/Serializable"), (0, u "serialVersionUID"), (0, u "J"), (3, u "DEFAULT_CAPACITY"), (40, u "get"), (77, u "subList"), (0, u "(II)Ljava/util/List;"), (39, .class_ 501), (0, u "java/util/ArrayList$SubList$2"), (0, .class_ 503), (0, u "java/util/ArrayList$SubList$1")] 5

def k17c0 : Code := { maxStack := 2, maxLocals := 1, code := jdk_38_method_2_code, exceptionTable := #[], attributes := #[] }
def k17m0 : Method := { name := "<init>", desc := "()V", sig := { parameters := [], returnType := none }, accessFlags := 1, code := some k17c0 }
def k17c1 : Code := { maxStack := 4, maxLocals := 4, code := jdk_38_method_6_code, exceptionTable := #[], attributes := #[] }
def k17m1 : Method := { name := "grow", desc := "(I)[Ljava/lang/Object;", sig := { parameters := [.int], returnType := some (.array (.object "java/lang/Object")) }, accessFlags := 2, code := some k17c1 }
def k17c2 : Code := { maxStack := 3, maxLocals := 1, code := jdk_38_method_7_code, exceptionTable := #[], attributes := #[] }
def k17m2 : Method := { name := "grow", desc := "()[Ljava/lang/Object;", sig := { parameters := [], returnType := some (.array (.object "java/lang/Object")) }, accessFlags := 2, code := some k17c2 }
def k17c3 : Code := { maxStack := 1, maxLocals := 1, code := jdk_38_method_8_code, exceptionTable := #[], attributes := #[] }
def k17m3 : Method := { name := "size", desc := "()I", sig := { parameters := [], returnType := some .int }, accessFlags := 1, code := some k17c3 }
def k17c4 : Code := { maxStack := 2, maxLocals := 2, code := jdk_38_method_18_code, exceptionTable := #[], attributes := #[] }
def k17m4 : Method := { name := "elementData", desc := "(I)Ljava/lang/Object;", sig := { parameters := [.int], returnType := some (.object "java/lang/Object") }, accessFlags := 0, code := some k17c4 }
def k17c5 : Code := { maxStack := 2, maxLocals := 2, code := jdk_38_method_20_code, exceptionTable := #[], attributes := #[] }
def k17m5 : Method := { name := "get", desc := "(I)Ljava/lang/Object;", sig := { parameters := [.int], returnType := some (.object "java/lang/Object") }, accessFlags := 1, code := some k17c5 }
def k17c6 : Code := { maxStack := 3, maxLocals := 4, code := jdk_38_method_24_code, exceptionTable := #[], attributes := #[] }
def k17m6 : Method := { name := "add", desc := "(Ljava/lang/Object;[Ljava/lang/Object;I)V", sig := { parameters := [(.object "java/lang/Object"), (.array (.object "java/lang/Object")), .int], returnType := none }, accessFlags := 2, code := some k17c6 }
def k17c7 : Code := { maxStack := 4, maxLocals := 2, code := jdk_38_method_25_code, exceptionTable := #[], attributes := #[] }
def k17m7 : Method := { name := "add", desc := "(Ljava/lang/Object;)Z", sig := { parameters := [(.object "java/lang/Object")], returnType := some .boolean }, accessFlags := 1, code := some k17c7 }
def k17c8 : Code := { maxStack := 5, maxLocals := 3, code := jdk_38_method_56_code, exceptionTable := #[], attributes := #[] }
def k17m8 : Method := { name := "subList", desc := "(II)Ljava/util/List;", sig := { parameters := [.int, .int], returnType := some (.object "java/util/List") }, accessFlags := 1, code := some k17c8 }
/-- java/util/ArrayList -/
def k17 : Class := { plain "java/util/ArrayList" (some 14) with
  accessFlags := 33
  interfaces := #[13, 15, 16, 2]
  cf := some (fileOf pool17 10 #[.nestMembers #[290, 276, 500, 502, 262, 267]] #[{ accessFlags := 1, nameIndex := 5, descriptorIndex := 6, attributes := #[] }, { accessFlags := 2, nameIndex := 71, descriptorIndex := 72, attributes := #[] }, { accessFlags := 2, nameIndex := 71, descriptorIndex := 47, attributes := #[] }, { accessFlags := 1, nameIndex := 50, descriptorIndex := 186, attributes := #[] }, { accessFlags := 0, nameIndex := 13, descriptorIndex := 125, attributes := #[] }, { accessFlags := 1, nameIndex := 381, descriptorIndex := 125, attributes := #[] }, { accessFlags := 2, nameIndex := 133, descriptorIndex := 134, attributes := #[] }, { accessFlags := 1, nameIndex := 133, descriptorIndex := 96, attributes := #[] }, { accessFlags := 1, nameIndex := 459, descriptorIndex := 460, attributes := #[] }] 33 2 #[148, 329, 331, 333] #[{ accessFlags := 26, nameIndex := 335, descriptorIndex := 336, attributes := #[] }, { accessFlags := 26, nameIndex := 340, descriptorIndex := 51, attributes := #[] }, { accessFlags := 26, nameIndex := 17, descriptorIndex := 14, attributes := #[] }, { accessFlags := 26, nameIndex := 41, descriptorIndex := 14, attributes := #[] }, { accessFlags := 128, nameIndex := 13, descriptorIndex := 14, attributes := #[] }, { accessFlags := 2, nameIndex := 50, descriptorIndex := 51, attributes := #[] }])
  fields := #[{ name := "serialVersionUID", type := .long, accessFlags := 26, slot := 0, constantValue := 0 }, { name := "DEFAULT_CAPACITY", type := .int, accessFlags := 26, slot := 1, constantValue := 0 }, { name := "EMPTY_ELEMENTDATA", type := (.array (.object "java/lang/Object")), accessFlags := 26, slot := 2, constantValue := 0 }, { name := "DEFAULTCAPACITY_EMPTY_ELEMENTDATA", type := (.array (.object "java/lang/Object")), accessFlags := 26, slot := 3, constantValue := 0 }, { name := "elementData", type := (.array (.object "java/lang/Object")), accessFlags := 128, slot := 1, constantValue := 0 }, { name := "size", type := .int, accessFlags := 2, slot := 2, constantValue := 0 }]
  methods := #[k17m0, k17m1, k17m2, k17m3, k17m4, k17m5, k17m6, k17m7, k17m8]
  instanceTypes := #[.int, (.array (.object "java/lang/Object")), .int]
  staticTypes := #[.long, .int, (.array (.object "java/lang/Object")), (.array (.object "java/lang/Object"))]
  resolved := Array.replicate 509 none
  statics := some 1 }

def pool18 : Array CpInfo := pool [(1, .class_ 2), (0, u "java/lang/Math"), (1, .class_ 6), (1, u "java/lang/Object"), (0, u "<init>"), (0, u "()V"), (89, .class_ 100), (1, u "java/lang/Math$RandomNumberGeneratorHolder"), (71, u "negativeZeroFloatBits"), (0, u "J"), (2, u "negativeZeroDoubleBits"), (21, u "max"), (46, u "$assertionsDisabled"), (0, u "Z"), (88, u "(II)I"), (2, u "twoToTheDoubleScaleDown"), (0, u "D"), (4, u "twoToTheDoubleScaleUp"), (9, u "E"), (3, u "PI"), (2, u "TAU"), (2, u "DEGREES_TO_RADIANS"), (0, u "RADIANS_TO_DEGREES")] 94

def k18m0 : Method := { name := "<init>", desc := "()V", sig := { parameters := [], returnType := none }, accessFlags := 2, code := none }
def k18c1 : Code := { maxStack := 2, maxLocals := 2, code := jdk_29_method_65_code, exceptionTable := #[], attributes := #[] }
def k18m1 : Method := { name := "max", desc := "(II)I", sig := { parameters := [.int, .int], returnType := some .int }, accessFlags := 9, code := some k18c1 }
/-- java/lang/Math -/
def k18 : Class := { plain "java/lang/Math" (some 0) with
  accessFlags := 49
  interfaces := #[]
  cf := some (fileOf pool18 1 #[.nestMembers #[98]] #[{ accessFlags := 2, nameIndex := 7, descriptorIndex := 8, attributes := #[] }, { accessFlags := 9, nameIndex := 198, descriptorIndex := 335, attributes := #[] }] 49 4 #[] #[{ accessFlags := 25, nameIndex := 354, descriptorIndex := 339, attributes := #[] }, { accessFlags := 25, nameIndex := 358, descriptorIndex := 339, attributes := #[] }, { accessFlags := 25, nameIndex := 361, descriptorIndex := 339, attributes := #[] }, { accessFlags := 26, nameIndex := 364, descriptorIndex := 339, attributes := #[] }, { accessFlags := 26, nameIndex := 365, descriptorIndex := 339, attributes := #[] }, { accessFlags := 26, nameIndex := 172, descriptorIndex := 173, attributes := #[] }, { accessFlags := 26, nameIndex := 176, descriptorIndex := 173, attributes := #[] }, { accessFlags := 8, nameIndex := 344, descriptorIndex := 339, attributes := #[] }, { accessFlags := 8, nameIndex := 338, descriptorIndex := 339, attributes := #[] }, { accessFlags := 4120, nameIndex := 245, descriptorIndex := 246, attributes := #[] }])
  fields := #[{ name := "E", type := .double, accessFlags := 25, slot := 0, constantValue := 0 }, { name := "PI", type := .double, accessFlags := 25, slot := 1, constantValue := 0 }, { name := "TAU", type := .double, accessFlags := 25, slot := 2, constantValue := 0 }, { name := "DEGREES_TO_RADIANS", type := .double, accessFlags := 26, slot := 3, constantValue := 0 }, { name := "RADIANS_TO_DEGREES", type := .double, accessFlags := 26, slot := 4, constantValue := 0 }, { name := "negativeZeroFloatBits", type := .long, accessFlags := 26, slot := 5, constantValue := 0 }, { name := "negativeZeroDoubleBits", type := .long, accessFlags := 26, slot := 6, constantValue := 0 }, { name := "twoToTheDoubleScaleUp", type := .double, accessFlags := 8, slot := 7, constantValue := 0 }, { name := "twoToTheDoubleScaleDown", type := .double, accessFlags := 8, slot := 8, constantValue := 0 }, { name := "$assertionsDisabled", type := .boolean, accessFlags := 4120, slot := 9, constantValue := 0 }]
  methods := #[k18m0, k18m1]
  instanceTypes := #[]
  staticTypes := #[.double, .double, .double, .double, .double, .long, .long, .double, .double, .boolean]
  resolved := Array.replicate 460 none
  statics := none }

def pool19 : Array CpInfo := pool [(1, .methodref 2 3), (0, .class_ 4), (0, .nameAndType 5 6), (0, u "java/lang/Object"), (0, u "<init>"), (0, u "()V"), (0, .fieldref 8 9), (0, .class_ 10), (0, .nameAndType 11 12), (0, u "com/example/formboard/formboard/cli/Arguments"), (0, u "args"), (0, u "Ljava/util/List;"), (0, .fieldref 8 14), (0, .nameAndType 15 16), (0, u "usage"), (0, u "Ljava/lang/String;"), (0, .fieldref 8 18), (0, .nameAndType 19 20), (0, u "next"), (0, u "I"), (0, .interfaceMethodref 22 23), (0, .class_ 24), (0, .nameAndType 25 26), (0, u "java/util/List"), (0, u "size"), (0, u "()I"), (0, .interfaceMethodref 22 28), (0, .nameAndType 29 30), (0, u "get"), (0, u "(I)Ljava/lang/Object;"), (0, .class_ 32), (0, u "java/lang/String"), (0, .string 34), (0, u "--"), (0, .methodref 31 36), (0, .nameAndType 37 38), (0, u "startsWith"), (0, u "(Ljava/lang/String;)Z"), (9, .interfaceMethodref 22 49), (0, .nameAndType 50 51), (0, u "subList"), (0, u "(II)Ljava/util/List;"), (2, u "nextIsOption"), (0, u "()Z"), (5, .class_ 63), (1, u "com/example/formboard/formboard/cli/Arguments$Group"), (8, u "operands"), (0, u "()Ljava/util/List;"), (3, u "(Ljava/lang/String;)Ljava/lang/String;"), (2, u "(Ljava/util/List;Ljava/lang/String;)V"), (4, u "value")] 31

def k19c0 : Code := { maxStack := 2, maxLocals := 3, code := prog_1_method_1_code, exceptionTable := #[], attributes := #[] }
def k19m0 : Method := { name := "<init>", desc := "(Ljava/util/List;Ljava/lang/String;)V", sig := { parameters := [(.object "java/util/List"), (.object "java/lang/String")], returnType := none }, accessFlags := 0, code := some k19c0 }
def k19c1 : Code := { maxStack := 2, maxLocals := 1, code := prog_1_method_2_code, exceptionTable := #[], attributes := #[] }
def k19m1 : Method := { name := "nextIsOption", desc := "()Z", sig := { parameters := [], returnType := some .boolean }, accessFlags := 0, code := some k19c1 }
def k19c2 : Code := { maxStack := 5, maxLocals := 2, code := prog_1_method_4_code, exceptionTable := #[], attributes := #[] }
def k19m2 : Method := { name := "value", desc := "(Ljava/lang/String;)Ljava/lang/String;", sig := { parameters := [(.object "java/lang/String")], returnType := some (.object "java/lang/String") }, accessFlags := 0, code := some k19c2 }
def k19c3 : Code := { maxStack := 3, maxLocals := 1, code := prog_1_method_5_code, exceptionTable := #[], attributes := #[] }
def k19m3 : Method := { name := "operands", desc := "()Ljava/util/List;", sig := { parameters := [], returnType := some (.object "java/util/List") }, accessFlags := 0, code := some k19c3 }
/-- com/example/formboard/formboard/cli/Arguments -/
def k19 : Class := { plain "com/example/formboard/formboard/cli/Arguments" (some 0) with
  accessFlags := 48
  interfaces := #[]
  cf := some (fileOf pool19 8 #[.nestMembers #[61]] #[{ accessFlags := 0, nameIndex := 5, descriptorIndex := 80, attributes := #[] }, { accessFlags := 0, nameIndex := 54, descriptorIndex := 55, attributes := #[] }, { accessFlags := 0, nameIndex := 85, descriptorIndex := 77, attributes := #[] }, { accessFlags := 0, nameIndex := 72, descriptorIndex := 73, attributes := #[] }] 48 2 #[] #[{ accessFlags := 18, nameIndex := 11, descriptorIndex := 12, attributes := #[] }, { accessFlags := 18, nameIndex := 15, descriptorIndex := 16, attributes := #[] }, { accessFlags := 2, nameIndex := 19, descriptorIndex := 20, attributes := #[] }])
  fields := #[{ name := "args", type := (.object "java/util/List"), accessFlags := 18, slot := 0, constantValue := 0 }, { name := "usage", type := (.object "java/lang/String"), accessFlags := 18, slot := 1, constantValue := 0 }, { name := "next", type := .int, accessFlags := 2, slot := 2, constantValue := 0 }]
  methods := #[k19m0, k19m1, k19m2, k19m3]
  instanceTypes := #[(.object "java/util/List"), (.object "java/lang/String"), .int]
  staticTypes := #[]
  resolved := Array.replicate 117 none
  statics := none }

def pool20 : Array CpInfo := pool [(2, .class_ 4), (1, u "java/lang/Object"), (0, u "<init>"), (0, u "()V"), (35, .class_ 44), (1, u "java/util/Objects"), (60, .methodref 106 107), (0, .class_ 108), (0, .nameAndType 109 110), (0, u "jdk/internal/util/Preconditions"), (0, u "checkIndex"), (0, u "(IILjava/util/function/BiFunction;)I"), (60, u "(II)I")] 12

def k20m0 : Method := { name := "<init>", desc := "()V", sig := { parameters := [], returnType := none }, accessFlags := 2, code := none }
def k20c1 : Code := { maxStack := 3, maxLocals := 2, code := jdk_31_method_17_code, exceptionTable := #[], attributes := #[] }
def k20m1 : Method := { name := "checkIndex", desc := "(II)I", sig := { parameters := [.int, .int], returnType := some .int }, accessFlags := 9, code := some k20c1 }
/-- java/util/Objects -/
def k20 : Class := { plain "java/util/Objects" (some 0) with
  accessFlags := 49
  interfaces := #[]
  cf := some (fileOf pool20 42 #[] #[{ accessFlags := 2, nameIndex := 5, descriptorIndex := 6, attributes := #[] }, { accessFlags := 9, nameIndex := 109, descriptorIndex := 171, attributes := #[] }] 49 2 #[] #[])
  fields := #[]
  methods := #[k20m0, k20m1]
  instanceTypes := #[]
  staticTypes := #[]
  resolved := Array.replicate 184 none
  statics := none }

def pool21 : Array CpInfo := pool [(2, .class_ 4), (1, u "java/lang/Object"), (0, u "<init>"), (0, u "()V"), (17, .class_ 26), (1, u "jdk/internal/util/Preconditions"), (6, u "checkIndex"), (21, .class_ 56), (0, u "jdk/internal/util/Preconditions$4"), (57, .class_ 115), (0, u "jdk/internal/util/Preconditions$1"), (7, u "SIOOBE_FORMATTER"), (0, u "Ljava/util/function/BiFunction;"), (0, .class_ 126), (0, u "jdk/internal/util/Preconditions$2"), (3, u "AIOOBE_FORMATTER"), (0, .class_ 132), (0, u "jdk/internal/util/Preconditions$3"), (3, u "IOOBE_FORMATTER"), (41, u "(IILjava/util/function/BiFunction;)I")] 15

def k21m0 : Method := { name := "<init>", desc := "()V", sig := { parameters := [], returnType := none }, accessFlags := 1, code := none }
def k21c1 : Code := { maxStack := 3, maxLocals := 3, code := jdk_41_method_11_code, exceptionTable := #[], attributes := #[] }
def k21m1 : Method := { name := "checkIndex", desc := "(IILjava/util/function/BiFunction;)I", sig := { parameters := [.int, .int, (.object "java/util/function/BiFunction")], returnType := some .int }, accessFlags := 9, code := some k21c1 }
/-- jdk/internal/util/Preconditions -/
def k21 : Class := { plain "jdk/internal/util/Preconditions" (some 0) with
  accessFlags := 33
  interfaces := #[]
  cf := some (fileOf pool21 24 #[.nestMembers #[55, 131, 125, 114]] #[{ accessFlags := 1, nameIndex := 5, descriptorIndex := 6, attributes := #[] }, { accessFlags := 9, nameIndex := 33, descriptorIndex := 178, attributes := #[] }] 33 2 #[] #[{ accessFlags := 25, nameIndex := 123, descriptorIndex := 124, attributes := #[] }, { accessFlags := 25, nameIndex := 130, descriptorIndex := 124, attributes := #[] }, { accessFlags := 25, nameIndex := 136, descriptorIndex := 124, attributes := #[] }])
  fields := #[{ name := "SIOOBE_FORMATTER", type := (.object "java/util/function/BiFunction"), accessFlags := 25, slot := 0, constantValue := 0 }, { name := "AIOOBE_FORMATTER", type := (.object "java/util/function/BiFunction"), accessFlags := 25, slot := 1, constantValue := 0 }, { name := "IOOBE_FORMATTER", type := (.object "java/util/function/BiFunction"), accessFlags := 25, slot := 2, constantValue := 0 }]
  methods := #[k21m0, k21m1]
  instanceTypes := #[]
  staticTypes := #[(.object "java/util/function/BiFunction"), (.object "java/util/function/BiFunction"), (.object "java/util/function/BiFunction")]
  resolved := Array.replicate 194 none
  statics := some 2 }

def pool22 : Array CpInfo := pool [(1, .methodref 2 3), (0, .class_ 4), (0, .nameAndType 5 6), (0, u "java/util/AbstractList"), (0, u "<init>"), (0, u "()V"), (0, .fieldref 8 9), (0, .class_ 10), (0, .nameAndType 11 12), (0, u "java/util/ArrayList$SubList"), (0, u "root"), (0, u "Ljava/util/ArrayList;"), (0, .fieldref 8 14), (0, .nameAndType 15 16), (0, u "parent"), (0, u "Ljava/util/ArrayList$SubList;"), (0, .fieldref 8 18), (0, .nameAndType 19 20), (0, u "offset"), (0, u "I"), (0, .fieldref 8 22), (0, .nameAndType 23 20), (0, u "size"), (0, .fieldref 25 26), (0, .class_ 27), (0, .nameAndType 28 20), (0, u "java/util/ArrayList"), (0, u "modCount"), (0, .fieldref 8 26), (0, .methodref 31 32), (0, .class_ 33), (0, .nameAndType 34 35), (0, u "java/util/Objects"), (0, u "checkIndex"), (0, u "(II)I"), (0, .methodref 8 37), (0, .nameAndType 38 6), (0, u "checkForComodification"), (0, .methodref 25 40), (0, .nameAndType 41 42), (0, u "elementData"), (0, u "(I)Ljava/lang/Object;"), (29, u "()I"), (109, .class_ 183), (0, u "java/util/RandomAccess"), (3, u "(Ljava/util/ArrayList;II)V"), (17, u "get")] 64

def k22c0 : Code := { maxStack := 3, maxLocals := 4, code := jdk_130_method_1_code, exceptionTable := #[], attributes := #[] }
def k22m0 : Method := { name := "<init>", desc := "(Ljava/util/ArrayList;II)V", sig := { parameters := [(.object "java/util/ArrayList"), .int, .int], returnType := none }, accessFlags := 1, code := some k22c0 }
def k22c1 : Code := { maxStack := 3, maxLocals := 2, code := jdk_130_method_4_code, exceptionTable := #[], attributes := #[] }
def k22m1 : Method := { name := "get", desc := "(I)Ljava/lang/Object;", sig := { parameters := [.int], returnType := some (.object "java/lang/Object") }, accessFlags := 1, code := some k22c1 }
def k22c2 : Code := { maxStack := 1, maxLocals := 1, code := jdk_130_method_5_code, exceptionTable := #[], attributes := #[] }
def k22m2 : Method := { name := "size", desc := "()I", sig := { parameters := [], returnType := some .int }, accessFlags := 1, code := some k22c2 }
def k22c3 : Code := { maxStack := 2, maxLocals := 1, code := jdk_130_method_28_code, exceptionTable := #[], attributes := #[] }
def k22m3 : Method := { name := "checkForComodification", desc := "()V", sig := { parameters := [], returnType := none }, accessFlags := 2, code := some k22c3 }
/-- java/util/ArrayList$SubList -/
def k22 : Class := { plain "java/util/ArrayList$SubList" (some 14) with
  accessFlags := 32
  interfaces := #[15]
  cf := some (fileOf pool22 8 #[.nestHost 25] #[{ accessFlags := 1, nameIndex := 5, descriptorIndex := 187, attributes := #[] }, { accessFlags := 1, nameIndex := 205, descriptorIndex := 42, attributes := #[] }, { accessFlags := 1, nameIndex := 23, descriptorIndex := 72, attributes := #[] }, { accessFlags := 2, nameIndex := 38, descriptorIndex := 6, attributes := #[] }] 32 2 #[182] #[{ accessFlags := 18, nameIndex := 11, descriptorIndex := 12, attributes := #[] }, { accessFlags := 18, nameIndex := 15, descriptorIndex := 16, attributes := #[] }, { accessFlags := 18, nameIndex := 19, descriptorIndex := 20, attributes := #[] }, { accessFlags := 2, nameIndex := 23, descriptorIndex := 20, attributes := #[] }])
  fields := #[{ name := "root", type := (.object "java/util/ArrayList"), accessFlags := 18, slot := 1, constantValue := 0 }, { name := "parent", type := (.object "java/util/ArrayList$SubList"), accessFlags := 18, slot := 2, constantValue := 0 }, { name := "offset", type := .int, accessFlags := 18, slot := 3, constantValue := 0 }, { name := "size", type := .int, accessFlags := 2, slot := 4, constantValue := 0 }]
  methods := #[k22m0, k22m1, k22m2, k22m3]
  instanceTypes := #[.int, (.object "java/util/ArrayList"), (.object "java/util/ArrayList$SubList"), .int, .int]
  staticTypes := #[]
  resolved := Array.replicate 270 none
  statics := none }

def pool23 : Array CpInfo := pool [(9, u "<init>"), (6, .class_ 18), (1, u "java/lang/Object"), (0, u "()V"), (1, .class_ 23), (1, u "jdk/internal/util/ArraysSupport"), (0, u "LOG2_ARRAY_LONG_INDEX_SCALE"), (0, u "I"), (2, u "U"), (0, u "Ljdk/internal/misc/Unsafe;"), (8, u "BIG_ENDIAN"), (0, u "Z"), (8, u "LOG2_BYTE_BIT_SIZE"), (4, u "LOG2_ARRAY_INT_INDEX_SCALE"), (54, u "JLA"), (0, u "Ljdk/internal/access/JavaLangAccess;"), (11, u "LOG2_ARRAY_BOOLEAN_INDEX_SCALE"), (9, u "LOG2_ARRAY_BYTE_INDEX_SCALE"), (5, u "LOG2_ARRAY_CHAR_INDEX_SCALE"), (5, u "LOG2_ARRAY_SHORT_INDEX_SCALE"), (5, u "mismatch"), (12, u "LOG2_ARRAY_FLOAT_INDEX_SCALE"), (24, u "LOG2_ARRAY_DOUBLE_INDEX_SCALE"), (89, u "T_BOOLEAN"), (2, u "T_CHAR"), (1, u "T_FLOAT"), (1, u "T_DOUBLE"), (1, u "T_BYTE"), (1, u "T_SHORT"), (1, u "T_INT"), (1, u "T_LONG"), (1, u "SOFT_MAX_ARRAY_LENGTH"), (42, u "([BI[BII)I")] 40

def k23m0 : Method := { name := "<init>", desc := "()V", sig := { parameters := [], returnType := none }, accessFlags := 2, code := none }
def k23c1 : Code := { maxStack := 8, maxLocals := 8, code := jdk_48_method_14_code, exceptionTable := #[], attributes := #[] }
def k23m1 : Method := { name := "mismatch", desc := "([BI[BII)I", sig := { parameters := [(.array .byte), .int, (.array .byte), .int, .int], returnType := some .int }, accessFlags := 9, code := some k23c1 }
/-- jdk/internal/util/ArraysSupport -/
def k23 : Class := { plain "jdk/internal/util/ArraysSupport" (some 0) with
  accessFlags := 33
  interfaces := #[]
  cf := some (fileOf pool23 21 #[] #[{ accessFlags := 2, nameIndex := 9, descriptorIndex := 19, attributes := #[] }, { accessFlags := 9, nameIndex := 149, descriptorIndex := 337, attributes := #[] }] 33 16 #[] #[{ accessFlags := 24, nameIndex := 28, descriptorIndex := 29, attributes := #[] }, { accessFlags := 26, nameIndex := 38, descriptorIndex := 39, attributes := #[] }, { accessFlags := 25, nameIndex := 121, descriptorIndex := 25, attributes := #[] }, { accessFlags := 25, nameIndex := 131, descriptorIndex := 25, attributes := #[] }, { accessFlags := 25, nameIndex := 137, descriptorIndex := 25, attributes := #[] }, { accessFlags := 25, nameIndex := 143, descriptorIndex := 25, attributes := #[] }, { accessFlags := 25, nameIndex := 53, descriptorIndex := 25, attributes := #[] }, { accessFlags := 25, nameIndex := 24, descriptorIndex := 25, attributes := #[] }, { accessFlags := 25, nameIndex := 162, descriptorIndex := 25, attributes := #[] }, { accessFlags := 25, nameIndex := 187, descriptorIndex := 25, attributes := #[] }, { accessFlags := 26, nameIndex := 48, descriptorIndex := 25, attributes := #[] }, { accessFlags := 25, nameIndex := 277, descriptorIndex := 25, attributes := #[] }, { accessFlags := 25, nameIndex := 280, descriptorIndex := 25, attributes := #[] }, { accessFlags := 25, nameIndex := 282, descriptorIndex := 25, attributes := #[] }, { accessFlags := 25, nameIndex := 284, descriptorIndex := 25, attributes := #[] }, { accessFlags := 25, nameIndex := 286, descriptorIndex := 25, attributes := #[] }, { accessFlags := 25, nameIndex := 288, descriptorIndex := 25, attributes := #[] }, { accessFlags := 25, nameIndex := 290, descriptorIndex := 25, attributes := #[] }, { accessFlags := 25, nameIndex := 292, descriptorIndex := 25, attributes := #[] }, { accessFlags := 26, nameIndex := 108, descriptorIndex := 109, attributes := #[] }, { accessFlags := 25, nameIndex := 294, descriptorIndex := 25, attributes := #[] }])
  fields := #[{ name := "U", type := (.object "jdk/internal/misc/Unsafe"), accessFlags := 24, slot := 0, constantValue := 0 }, { name := "BIG_ENDIAN", type := .boolean, accessFlags := 26, slot := 1, constantValue := 0 }, { name := "LOG2_ARRAY_BOOLEAN_INDEX_SCALE", type := .int, accessFlags := 25, slot := 2, constantValue := 0 }, { name := "LOG2_ARRAY_BYTE_INDEX_SCALE", type := .int, accessFlags := 25, slot := 3, constantValue := 0 }, { name := "LOG2_ARRAY_CHAR_INDEX_SCALE", type := .int, accessFlags := 25, slot := 4, constantValue := 0 }, { name := "LOG2_ARRAY_SHORT_INDEX_SCALE", type := .int, accessFlags := 25, slot := 5, constantValue := 0 }, { name := "LOG2_ARRAY_INT_INDEX_SCALE", type := .int, accessFlags := 25, slot := 6, constantValue := 0 }, { name := "LOG2_ARRAY_LONG_INDEX_SCALE", type := .int, accessFlags := 25, slot := 7, constantValue := 0 }, { name := "LOG2_ARRAY_FLOAT_INDEX_SCALE", type := .int, accessFlags := 25, slot := 8, constantValue := 0 }, { name := "LOG2_ARRAY_DOUBLE_INDEX_SCALE", type := .int, accessFlags := 25, slot := 9, constantValue := 0 }, { name := "LOG2_BYTE_BIT_SIZE", type := .int, accessFlags := 26, slot := 10, constantValue := 0 }, { name := "T_BOOLEAN", type := .int, accessFlags := 25, slot := 11, constantValue := 0 }, { name := "T_CHAR", type := .int, accessFlags := 25, slot := 12, constantValue := 0 }, { name := "T_FLOAT", type := .int, accessFlags := 25, slot := 13, constantValue := 0 }, { name := "T_DOUBLE", type := .int, accessFlags := 25, slot := 14, constantValue := 0 }, { name := "T_BYTE", type := .int, accessFlags := 25, slot := 15, constantValue := 0 }, { name := "T_SHORT", type := .int, accessFlags := 25, slot := 16, constantValue := 0 }, { name := "T_INT", type := .int, accessFlags := 25, slot := 17, constantValue := 0 }, { name := "T_LONG", type := .int, accessFlags := 25, slot := 18, constantValue := 0 }, { name := "JLA", type := (.object "jdk/internal/access/JavaLangAccess"), accessFlags := 26, slot := 19, constantValue := 0 }, { name := "SOFT_MAX_ARRAY_LENGTH", type := .int, accessFlags := 25, slot := 20, constantValue := 0 }]
  methods := #[k23m0, k23m1]
  instanceTypes := #[]
  staticTypes := #[(.object "jdk/internal/misc/Unsafe"), .boolean, .int, .int, .int, .int, .int, .int, .int, .int, .int, .int, .int, .int, .int, .int, .int, .int, .int, (.object "jdk/internal/access/JavaLangAccess"), .int]
  resolved := Array.replicate 378 none
  statics := none }

def pool24 : Array CpInfo := pool [(4, .class_ 6), (1, u "java/lang/Object"), (0, u "<init>"), (0, u "()V"), (5, .class_ 16), (1, u "java/lang/StringLatin1"), (104, u "$assertionsDisabled"), (0, u "Z"), (98, .class_ 223), (1, u "java/lang/StringLatin1$LinesSpliterator"), (166, .class_ 391), (0, u "java/lang/StringLatin1$CharsSpliterator")] 3

def k24m0 : Method := { name := "<init>", desc := "()V", sig := { parameters := [], returnType := none }, accessFlags := 0, code := none }
/-- java/lang/StringLatin1 -/
def k24 : Class := { plain "java/lang/StringLatin1" (some 0) with
  accessFlags := 48
  interfaces := #[]
  cf := some (fileOf pool24 14 #[.nestMembers #[390, 221]] #[{ accessFlags := 0, nameIndex := 7, descriptorIndex := 8, attributes := #[] }] 48 4 #[] #[{ accessFlags := 4120, nameIndex := 121, descriptorIndex := 122, attributes := #[] }])
  fields := #[{ name := "$assertionsDisabled", type := .boolean, accessFlags := 4120, slot := 0, constantValue := 0 }]
  methods := #[k24m0]
  instanceTypes := #[]
  staticTypes := #[.boolean]
  resolved := Array.replicate 395 none
  statics := none }

/-- the primitive byte -/
def k25 : Class := { plain "byte" none with kind := .primitive 'B', accessFlags := 0x411 }
/-- [B -/
def k26 : Class := { plain "[B" (some 0) with kind := .array 25 .byte, interfaces := #[16, 2], accessFlags := 1041 }

/-- the primitive char -/
def k27 : Class := { plain "char" none with kind := .primitive 'C', accessFlags := 0x411 }
/-- [C -/
def k28 : Class := { plain "[C" (some 0) with kind := .array 27 .char, interfaces := #[16, 2], accessFlags := 1041 }

/-- the primitive int -/
def k29 : Class := { plain "int" none with kind := .primitive 'I', accessFlags := 0x411 }
/-- [I -/
def k30 : Class := { plain "[I" (some 0) with kind := .array 29 .int, interfaces := #[16, 2], accessFlags := 1041 }

/-- [Ljava/lang/Object; -/
def k31 : Class := { plain "[Ljava/lang/Object;" (some 0) with kind := .array 0 (.object "java/lang/Object"), interfaces := #[16, 2], accessFlags := 1041 }

def heap : Heap := #[{ cls := 7, slots := #[.long 0, .int 1, .null, .int 0, .null, .int 0, .int 0], vm := .statics 7 },
  { cls := 17, slots := #[.long 0, .int 0, .ref 3, .ref 4], vm := .statics 17 },
  { cls := 21, slots := #[.null, .null, .null], vm := .statics 21 },
  { cls := 31, slots := #[], vm := .none },
  { cls := 31, slots := #[], vm := .none }]
def classes : Array Class := #[k0, k1, k2, k3, k4, k5, k6, k7, k8, k9, k10, k11, k12, k13, k14, k15, k16, k17, k18, k19, k20, k21, k22, k23, k24, k25, k26, k27, k28, k29, k30, k31]
def interned : List (Array UInt16 × Addr) := []
def slotsUsed : Nat := 14
def theMethod : MethodId := ⟨1, 3⟩
def args0 : Array Value := #[.int 2, .int 7, .int 8, .int 1, .int 9]
def aboutOver (below : List Frame) : State where
  vm := { classes := classes, interned := interned.toArray }
  heap := heap
  slotsUsed := slotsUsed
  threads := #[{ frames := .invoking theMethod args0 :: below }]
def below0 : List Frame := [.native { method := ⟨0, 0⟩, args := #[] }]
def about1 : State := aboutOver below0
def p0 : Program := .bare "" "" ""
def e0 : Env := launch0.env 0 0 0
theorem w_frames : about1.frames = Frame.invoking theMethod args0 :: below0 := rfl
set_option maxRecDepth 65536 in
theorem w_args : argsFit about1.vm theMethod args0 = true := by decide +kernel
set_option maxRecDepth 65536 in
theorem w_heap : heapFits about1 = true := by decide +kernel
set_option maxRecDepth 65536 in
theorem w_runnable : about1.curStatus? = some .runnable := by decide +kernel
set_option maxRecDepth 65536 in
theorem w_alone : about1.alone = true := by decide +kernel
set_option maxRecDepth 65536 in
theorem w_named : about1.methodNamed? x = some theMethod := by decide +kernel
set_option maxRecDepth 65536 in
theorem w_hears : about1.hears theMethod below0 = true := by decide +kernel
set_option maxRecDepth 65536 in
theorem w_ripe : about1.ripe theMethod args0 below0 = true := by decide +kernel
theorem w_running : about1.status = .running := rfl
set_option maxRecDepth 65536 in
theorem w_room : about1.hasRoom e0.platform room_1 = true :=
  launch0.hasRoom_least _ room_1 (by decide +kernel) (by decide +kernel) (by decide +kernel) (by decide +kernel) (by decide +kernel) (by decide +kernel)
theorem allAtoms_all (ts : List Jvm.Cond) (a : Array Jvm.Value) (st : Jvm.State) : (allAtoms ts).before a st = ts.all (fun c => c.before a st) := by
  induction ts with
  | nil => rfl
  | cons c t ih =>
    show (Jvm.Cond.and c (allAtoms t)).before a st = _
    rw [Jvm.Cond.before_and, ih, List.all_cons]
def words1 : List Jvm.Cond := Jvm.Cond.code x code maxLocals ret :: tables_1
/-- a 'code' word, met by the world's own term for the bytes: nothing is compared byte by byte -/
theorem code_word {y : MethodName} {bytes : ByteArray} {mx : Nat} {rt : Option FieldType} {a : Array Value} {s : State} {m : MethodId} {meth : Method} {c : Code} (h1 : s.methodNamed? y = some m) (h2 : s.vm.method? m = some meth) (h3 : meth.code = some c) (h4 : c.code = bytes)
    (h5 : (c.maxLocals == mx && c.exceptionTable.isEmpty && decide (c.maxStack ≤ mostOperands) && decide (meth.sig.returnType = rt) && !meth.locks && decide (parseMethodDescriptor y.desc = some meth.sig)) = true) : (Jvm.Cond.code y bytes mx rt).before a s = true := by
  simp only [Bool.and_eq_true, beq_iff_eq, Bool.not_eq_true', decide_eq_true_eq] at h5
  obtain ⟨⟨⟨⟨⟨g1, g2⟩, g3⟩, g4⟩, g5⟩, g6⟩ := h5
  simp [Cond.before, Cond.holds, Cond.value, h1, h2, h3, h4, g1, g2, g3, g4, g5, g6]
def isCode : Jvm.Cond → Bool
  | .code _ _ _ _ => true
  | _ => false
theorem all_split {L : List Jvm.Cond} {P : Jvm.Cond → Bool} (h1 : L.all (fun c => isCode c || P c) = true) (h2 : ∀ c ∈ L.filter isCode, P c = true) : L.all P = true := by
  refine List.all_eq_true.mpr fun c hc => ?_
  have h := List.all_eq_true.mp h1 c hc
  rcases Bool.eq_false_or_eq_true (isCode c) with hi | hi
  · exact h2 c (List.mem_filter.mpr ⟨hc, hi⟩)
  · simpa [hi] using h
set_option maxRecDepth 65536 in
theorem w_c0 : (Jvm.Cond.code x code maxLocals ret).before args0 about1 = true := code_word (m := ⟨1, 3⟩) (meth := k1m3) (c := k1c3) (by decide +kernel) rfl rfl rfl (by decide +kernel)
set_option maxRecDepth 65536 in
theorem w_c1 : (Jvm.Cond.code ({ cls := "com/example/formboard/formboard/cli/ArgumentsValuePinLaw", name := "two", desc := "(I)Ljava/lang/String;" } : Jvm.MethodName) method_2_code (2 : Nat) (Option.some (Jvm.ClassFile.FieldType.object "java/lang/String"))).before args0 about1 = true := code_word (m := ⟨1, 1⟩) (meth := k1m1) (c := k1c1) (by decide +kernel) rfl rfl rfl (by decide +kernel)
set_option maxRecDepth 65536 in
theorem w_c2 : (Jvm.Cond.code ({ cls := "java/lang/String", name := "<init>", desc := "([C)V" } : Jvm.MethodName) jdk_42_method_3_code (2 : Nat) (Option.none : Option Jvm.ClassFile.FieldType)).before args0 about1 = true := code_word (m := ⟨7, 1⟩) (meth := k7m1) (c := k7c1) (by decide +kernel) rfl rfl rfl (by decide +kernel)
set_option maxRecDepth 65536 in
theorem w_c3 : (Jvm.Cond.code ({ cls := "java/lang/String", name := "<init>", desc := "([CIILjava/lang/Void;)V" } : Jvm.MethodName) jdk_42_method_149_code (6 : Nat) (Option.none : Option Jvm.ClassFile.FieldType)).before args0 about1 = true := code_word (m := ⟨7, 6⟩) (meth := k7m6) (c := k7c6) (by decide +kernel) rfl rfl rfl (by decide +kernel)
set_option maxRecDepth 65536 in
theorem w_c4 : (Jvm.Cond.code ({ cls := "java/lang/Object", name := "<init>", desc := "()V" } : Jvm.MethodName) object_method_1_code (1 : Nat) (Option.none : Option Jvm.ClassFile.FieldType)).before args0 about1 = true := code_word (m := ⟨0, 0⟩) (meth := k0m0) (c := k0c0) (by decide +kernel) rfl rfl rfl (by decide +kernel)
set_option maxRecDepth 65536 in
theorem w_c5 : (Jvm.Cond.code ({ cls := "java/lang/StringUTF16", name := "compress", desc := "([CII)[B" } : Jvm.MethodName) jdk_52_method_16_code (6 : Nat) (Option.some (Jvm.ClassFile.FieldType.array Jvm.ClassFile.FieldType.byte))).before args0 about1 = true := code_word (m := ⟨8, 2⟩) (meth := k8m2) (c := k8c2) (by decide +kernel) rfl rfl rfl (by decide +kernel)
set_option maxRecDepth 65536 in
theorem w_c6 : (Jvm.Cond.code ({ cls := "java/lang/StringUTF16", name := "compress", desc := "([CI[BII)I" } : Jvm.MethodName) jdk_52_method_21_code (7 : Nat) (Option.some Jvm.ClassFile.FieldType.int)).before args0 about1 = true := code_word (m := ⟨8, 3⟩) (meth := k8m3) (c := k8c3) (by decide +kernel) rfl rfl rfl (by decide +kernel)
set_option maxRecDepth 65536 in
theorem w_c7 : (Jvm.Cond.code ({ cls := "java/lang/StringUTF16", name := "coderFromArrayLen", desc := "([BI)B" } : Jvm.MethodName) jdk_52_method_15_code (2 : Nat) (Option.some Jvm.ClassFile.FieldType.byte)).before args0 about1 = true := code_word (m := ⟨8, 1⟩) (meth := k8m1) (c := k8c1) (by decide +kernel) rfl rfl rfl (by decide +kernel)
set_option maxRecDepth 65536 in
theorem w_c8 : (Jvm.Cond.code ({ cls := "java/util/ArrayList", name := "<init>", desc := "()V" } : Jvm.MethodName) jdk_38_method_2_code (1 : Nat) (Option.none : Option Jvm.ClassFile.FieldType)).before args0 about1 = true := code_word (m := ⟨17, 0⟩) (meth := k17m0) (c := k17c0) (by decide +kernel) rfl rfl rfl (by decide +kernel)
set_option maxRecDepth 65536 in
theorem w_c9 : (Jvm.Cond.code ({ cls := "java/util/AbstractList", name := "<init>", desc := "()V" } : Jvm.MethodName) jdk_39_method_1_code (1 : Nat) (Option.none : Option Jvm.ClassFile.FieldType)).before args0 about1 = true := code_word (m := ⟨14, 0⟩) (meth := k14m0) (c := k14c0) (by decide +kernel) rfl rfl rfl (by decide +kernel)
set_option maxRecDepth 65536 in
theorem w_c10 : (Jvm.Cond.code ({ cls := "java/util/AbstractCollection", name := "<init>", desc := "()V" } : Jvm.MethodName) jdk_22_method_1_code (1 : Nat) (Option.none : Option Jvm.ClassFile.FieldType)).before args0 about1 = true := code_word (m := ⟨11, 0⟩) (meth := k11m0) (c := k11c0) (by decide +kernel) rfl rfl rfl (by decide +kernel)
set_option maxRecDepth 65536 in
theorem w_c11 : (Jvm.Cond.code ({ cls := "java/util/ArrayList", name := "add", desc := "(Ljava/lang/Object;)Z" } : Jvm.MethodName) jdk_38_method_25_code (2 : Nat) (Option.some Jvm.ClassFile.FieldType.boolean)).before args0 about1 = true := code_word (m := ⟨17, 7⟩) (meth := k17m7) (c := k17c7) (by decide +kernel) rfl rfl rfl (by decide +kernel)
set_option maxRecDepth 65536 in
theorem w_c12 : (Jvm.Cond.code ({ cls := "java/util/ArrayList", name := "add", desc := "(Ljava/lang/Object;[Ljava/lang/Object;I)V" } : Jvm.MethodName) jdk_38_method_24_code (4 : Nat) (Option.none : Option Jvm.ClassFile.FieldType)).before args0 about1 = true := code_word (m := ⟨17, 6⟩) (meth := k17m6) (c := k17c6) (by decide +kernel) rfl rfl rfl (by decide +kernel)
set_option maxRecDepth 65536 in
theorem w_c13 : (Jvm.Cond.code ({ cls := "java/util/ArrayList", name := "grow", desc := "()[Ljava/lang/Object;" } : Jvm.MethodName) jdk_38_method_7_code (1 : Nat) (Option.some (Jvm.ClassFile.FieldType.array (Jvm.ClassFile.FieldType.object "java/lang/Object")))).before args0 about1 = true := code_word (m := ⟨17, 2⟩) (meth := k17m2) (c := k17c2) (by decide +kernel) rfl rfl rfl (by decide +kernel)
set_option maxRecDepth 65536 in
theorem w_c14 : (Jvm.Cond.code ({ cls := "java/util/ArrayList", name := "grow", desc := "(I)[Ljava/lang/Object;" } : Jvm.MethodName) jdk_38_method_6_code (4 : Nat) (Option.some (Jvm.ClassFile.FieldType.array (Jvm.ClassFile.FieldType.object "java/lang/Object")))).before args0 about1 = true := code_word (m := ⟨17, 1⟩) (meth := k17m1) (c := k17c1) (by decide +kernel) rfl rfl rfl (by decide +kernel)
set_option maxRecDepth 65536 in
theorem w_c15 : (Jvm.Cond.code ({ cls := "java/lang/Math", name := "max", desc := "(II)I" } : Jvm.MethodName) jdk_29_method_65_code (2 : Nat) (Option.some Jvm.ClassFile.FieldType.int)).before args0 about1 = true := code_word (m := ⟨18, 1⟩) (meth := k18m1) (c := k18c1) (by decide +kernel) rfl rfl rfl (by decide +kernel)
set_option maxRecDepth 65536 in
theorem w_c16 : (Jvm.Cond.code ({ cls := "com/example/formboard/formboard/cli/Arguments", name := "<init>", desc := "(Ljava/util/List;Ljava/lang/String;)V" } : Jvm.MethodName) prog_1_method_1_code (3 : Nat) (Option.none : Option Jvm.ClassFile.FieldType)).before args0 about1 = true := code_word (m := ⟨19, 0⟩) (meth := k19m0) (c := k19c0) (by decide +kernel) rfl rfl rfl (by decide +kernel)
set_option maxRecDepth 65536 in
theorem w_c17 : (Jvm.Cond.code ({ cls := "com/example/formboard/formboard/cli/Arguments", name := "value", desc := "(Ljava/lang/String;)Ljava/lang/String;" } : Jvm.MethodName) prog_1_method_4_code (2 : Nat) (Option.some (Jvm.ClassFile.FieldType.object "java/lang/String"))).before args0 about1 = true := code_word (m := ⟨19, 2⟩) (meth := k19m2) (c := k19c2) (by decide +kernel) rfl rfl rfl (by decide +kernel)
set_option maxRecDepth 65536 in
theorem w_c18 : (Jvm.Cond.code ({ cls := "java/util/ArrayList", name := "size", desc := "()I" } : Jvm.MethodName) jdk_38_method_8_code (1 : Nat) (Option.some Jvm.ClassFile.FieldType.int)).before args0 about1 = true := code_word (m := ⟨17, 3⟩) (meth := k17m3) (c := k17c3) (by decide +kernel) rfl rfl rfl (by decide +kernel)
set_option maxRecDepth 65536 in
theorem w_c19 : (Jvm.Cond.code ({ cls := "java/util/ArrayList", name := "get", desc := "(I)Ljava/lang/Object;" } : Jvm.MethodName) jdk_38_method_20_code (2 : Nat) (Option.some (Jvm.ClassFile.FieldType.object "java/lang/Object"))).before args0 about1 = true := code_word (m := ⟨17, 5⟩) (meth := k17m5) (c := k17c5) (by decide +kernel) rfl rfl rfl (by decide +kernel)
set_option maxRecDepth 65536 in
theorem w_c20 : (Jvm.Cond.code ({ cls := "java/util/Objects", name := "checkIndex", desc := "(II)I" } : Jvm.MethodName) jdk_31_method_17_code (2 : Nat) (Option.some Jvm.ClassFile.FieldType.int)).before args0 about1 = true := code_word (m := ⟨20, 1⟩) (meth := k20m1) (c := k20c1) (by decide +kernel) rfl rfl rfl (by decide +kernel)
set_option maxRecDepth 65536 in
theorem w_c21 : (Jvm.Cond.code ({ cls := "jdk/internal/util/Preconditions", name := "checkIndex", desc := "(IILjava/util/function/BiFunction;)I" } : Jvm.MethodName) jdk_41_method_11_code (3 : Nat) (Option.some Jvm.ClassFile.FieldType.int)).before args0 about1 = true := code_word (m := ⟨21, 1⟩) (meth := k21m1) (c := k21c1) (by decide +kernel) rfl rfl rfl (by decide +kernel)
set_option maxRecDepth 65536 in
theorem w_c22 : (Jvm.Cond.code ({ cls := "java/util/ArrayList", name := "elementData", desc := "(I)Ljava/lang/Object;" } : Jvm.MethodName) jdk_38_method_18_code (2 : Nat) (Option.some (Jvm.ClassFile.FieldType.object "java/lang/Object"))).before args0 about1 = true := code_word (m := ⟨17, 4⟩) (meth := k17m4) (c := k17c4) (by decide +kernel) rfl rfl rfl (by decide +kernel)
set_option maxRecDepth 65536 in
theorem w_c23 : (Jvm.Cond.code ({ cls := "java/lang/String", name := "equals", desc := "(Ljava/lang/Object;)Z" } : Jvm.MethodName) jdk_42_method_66_code (3 : Nat) (Option.some Jvm.ClassFile.FieldType.boolean)).before args0 about1 = true := code_word (m := ⟨7, 3⟩) (meth := k7m3) (c := k7c3) (by decide +kernel) rfl rfl rfl (by decide +kernel)
set_option maxRecDepth 65536 in
theorem w_c24 : (Jvm.Cond.code ({ cls := "com/example/formboard/formboard/cli/Arguments", name := "operands", desc := "()Ljava/util/List;" } : Jvm.MethodName) prog_1_method_5_code (1 : Nat) (Option.some (Jvm.ClassFile.FieldType.object "java/util/List"))).before args0 about1 = true := code_word (m := ⟨19, 3⟩) (meth := k19m3) (c := k19c3) (by decide +kernel) rfl rfl rfl (by decide +kernel)
set_option maxRecDepth 65536 in
theorem w_c25 : (Jvm.Cond.code ({ cls := "java/util/ArrayList", name := "subList", desc := "(II)Ljava/util/List;" } : Jvm.MethodName) jdk_38_method_56_code (3 : Nat) (Option.some (Jvm.ClassFile.FieldType.object "java/util/List"))).before args0 about1 = true := code_word (m := ⟨17, 8⟩) (meth := k17m8) (c := k17c8) (by decide +kernel) rfl rfl rfl (by decide +kernel)
set_option maxRecDepth 65536 in
theorem w_c26 : (Jvm.Cond.code ({ cls := "java/util/AbstractList", name := "subListRangeCheck", desc := "(III)V" } : Jvm.MethodName) jdk_39_method_15_code (3 : Nat) (Option.none : Option Jvm.ClassFile.FieldType)).before args0 about1 = true := code_word (m := ⟨14, 1⟩) (meth := k14m1) (c := k14c1) (by decide +kernel) rfl rfl rfl (by decide +kernel)
set_option maxRecDepth 65536 in
theorem w_c27 : (Jvm.Cond.code ({ cls := "java/util/ArrayList$SubList", name := "<init>", desc := "(Ljava/util/ArrayList;II)V" } : Jvm.MethodName) jdk_130_method_1_code (4 : Nat) (Option.none : Option Jvm.ClassFile.FieldType)).before args0 about1 = true := code_word (m := ⟨22, 0⟩) (meth := k22m0) (c := k22c0) (by decide +kernel) rfl rfl rfl (by decide +kernel)
set_option maxRecDepth 65536 in
theorem w_c28 : (Jvm.Cond.code ({ cls := "java/util/ArrayList$SubList", name := "size", desc := "()I" } : Jvm.MethodName) jdk_130_method_5_code (1 : Nat) (Option.some Jvm.ClassFile.FieldType.int)).before args0 about1 = true := code_word (m := ⟨22, 2⟩) (meth := k22m2) (c := k22c2) (by decide +kernel) rfl rfl rfl (by decide +kernel)
set_option maxRecDepth 65536 in
theorem w_c29 : (Jvm.Cond.code ({ cls := "java/util/ArrayList$SubList", name := "checkForComodification", desc := "()V" } : Jvm.MethodName) jdk_130_method_28_code (1 : Nat) (Option.none : Option Jvm.ClassFile.FieldType)).before args0 about1 = true := code_word (m := ⟨22, 3⟩) (meth := k22m3) (c := k22c3) (by decide +kernel) rfl rfl rfl (by decide +kernel)
set_option maxRecDepth 65536 in
theorem w_c30 : (Jvm.Cond.code ({ cls := "java/util/ArrayList$SubList", name := "get", desc := "(I)Ljava/lang/Object;" } : Jvm.MethodName) jdk_130_method_4_code (2 : Nat) (Option.some (Jvm.ClassFile.FieldType.object "java/lang/Object"))).before args0 about1 = true := code_word (m := ⟨22, 1⟩) (meth := k22m1) (c := k22c1) (by decide +kernel) rfl rfl rfl (by decide +kernel)
set_option maxRecDepth 65536 in
theorem w_c31 : (Jvm.Cond.code ({ cls := "com/example/formboard/formboard/cli/ArgumentsValuePinLaw", name := "dashes", desc := "(I)Z" } : Jvm.MethodName) method_3_code (1 : Nat) (Option.some Jvm.ClassFile.FieldType.boolean)).before args0 about1 = true := code_word (m := ⟨1, 2⟩) (meth := k1m2) (c := k1c2) (by decide +kernel) rfl rfl rfl (by decide +kernel)
set_option maxRecDepth 65536 in
theorem w_c32 : (Jvm.Cond.code ({ cls := "com/example/formboard/formboard/cli/Arguments", name := "nextIsOption", desc := "()Z" } : Jvm.MethodName) prog_1_method_2_code (1 : Nat) (Option.some Jvm.ClassFile.FieldType.boolean)).before args0 about1 = true := code_word (m := ⟨19, 1⟩) (meth := k19m1) (c := k19c1) (by decide +kernel) rfl rfl rfl (by decide +kernel)
set_option maxRecDepth 65536 in
theorem w_c33 : (Jvm.Cond.code ({ cls := "java/lang/String", name := "startsWith", desc := "(Ljava/lang/String;)Z" } : Jvm.MethodName) jdk_42_method_76_code (2 : Nat) (Option.some Jvm.ClassFile.FieldType.boolean)).before args0 about1 = true := code_word (m := ⟨7, 5⟩) (meth := k7m5) (c := k7c5) (by decide +kernel) rfl rfl rfl (by decide +kernel)
set_option maxRecDepth 65536 in
theorem w_c34 : (Jvm.Cond.code ({ cls := "java/lang/String", name := "startsWith", desc := "(Ljava/lang/String;I)Z" } : Jvm.MethodName) jdk_42_method_75_code (8 : Nat) (Option.some Jvm.ClassFile.FieldType.boolean)).before args0 about1 = true := code_word (m := ⟨7, 4⟩) (meth := k7m4) (c := k7c4) (by decide +kernel) rfl rfl rfl (by decide +kernel)
set_option maxRecDepth 65536 in
theorem w_c35 : (Jvm.Cond.code ({ cls := "java/lang/String", name := "length", desc := "()I" } : Jvm.MethodName) jdk_42_method_54_code (1 : Nat) (Option.some Jvm.ClassFile.FieldType.int)).before args0 about1 = true := code_word (m := ⟨7, 2⟩) (meth := k7m2) (c := k7c2) (by decide +kernel) rfl rfl rfl (by decide +kernel)
set_option maxRecDepth 65536 in
theorem w_c36 : (Jvm.Cond.code ({ cls := "java/lang/String", name := "coder", desc := "()B" } : Jvm.MethodName) jdk_42_method_152_code (1 : Nat) (Option.some Jvm.ClassFile.FieldType.byte)).before args0 about1 = true := code_word (m := ⟨7, 7⟩) (meth := k7m7) (c := k7c7) (by decide +kernel) rfl rfl rfl (by decide +kernel)
set_option maxRecDepth 65536 in
theorem w_c37 : (Jvm.Cond.code ({ cls := "jdk/internal/util/ArraysSupport", name := "mismatch", desc := "([BI[BII)I" } : Jvm.MethodName) jdk_48_method_14_code (8 : Nat) (Option.some Jvm.ClassFile.FieldType.int)).before args0 about1 = true := code_word (m := ⟨23, 1⟩) (meth := k23m1) (c := k23c1) (by decide +kernel) rfl rfl rfl (by decide +kernel)
def codes1 : List Jvm.Cond := [Jvm.Cond.code x code maxLocals ret, Jvm.Cond.code ({ cls := "com/example/formboard/formboard/cli/ArgumentsValuePinLaw", name := "two", desc := "(I)Ljava/lang/String;" } : Jvm.MethodName) method_2_code (2 : Nat) (Option.some (Jvm.ClassFile.FieldType.object "java/lang/String")), Jvm.Cond.code ({ cls := "java/lang/String", name := "<init>", desc := "([C)V" } : Jvm.MethodName) jdk_42_method_3_code (2 : Nat) (Option.none : Option Jvm.ClassFile.FieldType), Jvm.Cond.code ({ cls := "java/lang/String", name := "<init>", desc := "([CIILjava/lang/Void;)V" } : Jvm.MethodName) jdk_42_method_149_code (6 : Nat) (Option.none : Option Jvm.ClassFile.FieldType), Jvm.Cond.code ({ cls := "java/lang/Object", name := "<init>", desc := "()V" } : Jvm.MethodName) object_method_1_code (1 : Nat) (Option.none : Option Jvm.ClassFile.FieldType), Jvm.Cond.code ({ cls := "java/lang/StringUTF16", name := "compress", desc := "([CII)[B" } : Jvm.MethodName) jdk_52_method_16_code (6 : Nat) (Option.some (Jvm.ClassFile.FieldType.array Jvm.ClassFile.FieldType.byte)), Jvm.Cond.code ({ cls := "java/lang/StringUTF16", name := "compress", desc := "([CI[BII)I" } : Jvm.MethodName) jdk_52_method_21_code (7 : Nat) (Option.some Jvm.ClassFile.FieldType.int), Jvm.Cond.code ({ cls := "java/lang/StringUTF16", name := "coderFromArrayLen", desc := "([BI)B" } : Jvm.MethodName) jdk_52_method_15_code (2 : Nat) (Option.some Jvm.ClassFile.FieldType.byte), Jvm.Cond.code ({ cls := "java/util/ArrayList", name := "<init>", desc := "()V" } : Jvm.MethodName) jdk_38_method_2_code (1 : Nat) (Option.none : Option Jvm.ClassFile.FieldType), Jvm.Cond.code ({ cls := "java/util/AbstractList", name := "<init>", desc := "()V" } : Jvm.MethodName) jdk_39_method_1_code (1 : Nat) (Option.none : Option Jvm.ClassFile.FieldType), Jvm.Cond.code ({ cls := "java/util/AbstractCollection", name := "<init>", desc := "()V" } : Jvm.MethodName) jdk_22_method_1_code (1 : Nat) (Option.none : Option Jvm.ClassFile.FieldType), Jvm.Cond.code ({ cls := "java/util/ArrayList", name := "add", desc := "(Ljava/lang/Object;)Z" } : Jvm.MethodName) jdk_38_method_25_code (2 : Nat) (Option.some Jvm.ClassFile.FieldType.boolean), Jvm.Cond.code ({ cls := "java/util/ArrayList", name := "add", desc := "(Ljava/lang/Object;[Ljava/lang/Object;I)V" } : Jvm.MethodName) jdk_38_method_24_code (4 : Nat) (Option.none : Option Jvm.ClassFile.FieldType), Jvm.Cond.code ({ cls := "java/util/ArrayList", name := "grow", desc := "()[Ljava/lang/Object;" } : Jvm.MethodName) jdk_38_method_7_code (1 : Nat) (Option.some (Jvm.ClassFile.FieldType.array (Jvm.ClassFile.FieldType.object "java/lang/Object"))), Jvm.Cond.code ({ cls := "java/util/ArrayList", name := "grow", desc := "(I)[Ljava/lang/Object;" } : Jvm.MethodName) jdk_38_method_6_code (4 : Nat) (Option.some (Jvm.ClassFile.FieldType.array (Jvm.ClassFile.FieldType.object "java/lang/Object"))), Jvm.Cond.code ({ cls := "java/lang/Math", name := "max", desc := "(II)I" } : Jvm.MethodName) jdk_29_method_65_code (2 : Nat) (Option.some Jvm.ClassFile.FieldType.int), Jvm.Cond.code ({ cls := "com/example/formboard/formboard/cli/Arguments", name := "<init>", desc := "(Ljava/util/List;Ljava/lang/String;)V" } : Jvm.MethodName) prog_1_method_1_code (3 : Nat) (Option.none : Option Jvm.ClassFile.FieldType), Jvm.Cond.code ({ cls := "com/example/formboard/formboard/cli/Arguments", name := "value", desc := "(Ljava/lang/String;)Ljava/lang/String;" } : Jvm.MethodName) prog_1_method_4_code (2 : Nat) (Option.some (Jvm.ClassFile.FieldType.object "java/lang/String")), Jvm.Cond.code ({ cls := "java/util/ArrayList", name := "size", desc := "()I" } : Jvm.MethodName) jdk_38_method_8_code (1 : Nat) (Option.some Jvm.ClassFile.FieldType.int), Jvm.Cond.code ({ cls := "java/util/ArrayList", name := "get", desc := "(I)Ljava/lang/Object;" } : Jvm.MethodName) jdk_38_method_20_code (2 : Nat) (Option.some (Jvm.ClassFile.FieldType.object "java/lang/Object")), Jvm.Cond.code ({ cls := "java/util/Objects", name := "checkIndex", desc := "(II)I" } : Jvm.MethodName) jdk_31_method_17_code (2 : Nat) (Option.some Jvm.ClassFile.FieldType.int), Jvm.Cond.code ({ cls := "jdk/internal/util/Preconditions", name := "checkIndex", desc := "(IILjava/util/function/BiFunction;)I" } : Jvm.MethodName) jdk_41_method_11_code (3 : Nat) (Option.some Jvm.ClassFile.FieldType.int), Jvm.Cond.code ({ cls := "java/util/ArrayList", name := "elementData", desc := "(I)Ljava/lang/Object;" } : Jvm.MethodName) jdk_38_method_18_code (2 : Nat) (Option.some (Jvm.ClassFile.FieldType.object "java/lang/Object")), Jvm.Cond.code ({ cls := "java/lang/String", name := "equals", desc := "(Ljava/lang/Object;)Z" } : Jvm.MethodName) jdk_42_method_66_code (3 : Nat) (Option.some Jvm.ClassFile.FieldType.boolean), Jvm.Cond.code ({ cls := "com/example/formboard/formboard/cli/Arguments", name := "operands", desc := "()Ljava/util/List;" } : Jvm.MethodName) prog_1_method_5_code (1 : Nat) (Option.some (Jvm.ClassFile.FieldType.object "java/util/List")), Jvm.Cond.code ({ cls := "java/util/ArrayList", name := "subList", desc := "(II)Ljava/util/List;" } : Jvm.MethodName) jdk_38_method_56_code (3 : Nat) (Option.some (Jvm.ClassFile.FieldType.object "java/util/List")), Jvm.Cond.code ({ cls := "java/util/AbstractList", name := "subListRangeCheck", desc := "(III)V" } : Jvm.MethodName) jdk_39_method_15_code (3 : Nat) (Option.none : Option Jvm.ClassFile.FieldType), Jvm.Cond.code ({ cls := "java/util/ArrayList$SubList", name := "<init>", desc := "(Ljava/util/ArrayList;II)V" } : Jvm.MethodName) jdk_130_method_1_code (4 : Nat) (Option.none : Option Jvm.ClassFile.FieldType), Jvm.Cond.code ({ cls := "java/util/ArrayList$SubList", name := "size", desc := "()I" } : Jvm.MethodName) jdk_130_method_5_code (1 : Nat) (Option.some Jvm.ClassFile.FieldType.int), Jvm.Cond.code ({ cls := "java/util/ArrayList$SubList", name := "checkForComodification", desc := "()V" } : Jvm.MethodName) jdk_130_method_28_code (1 : Nat) (Option.none : Option Jvm.ClassFile.FieldType), Jvm.Cond.code ({ cls := "java/util/ArrayList$SubList", name := "get", desc := "(I)Ljava/lang/Object;" } : Jvm.MethodName) jdk_130_method_4_code (2 : Nat) (Option.some (Jvm.ClassFile.FieldType.object "java/lang/Object")), Jvm.Cond.code ({ cls := "com/example/formboard/formboard/cli/ArgumentsValuePinLaw", name := "dashes", desc := "(I)Z" } : Jvm.MethodName) method_3_code (1 : Nat) (Option.some Jvm.ClassFile.FieldType.boolean), Jvm.Cond.code ({ cls := "com/example/formboard/formboard/cli/Arguments", name := "nextIsOption", desc := "()Z" } : Jvm.MethodName) prog_1_method_2_code (1 : Nat) (Option.some Jvm.ClassFile.FieldType.boolean), Jvm.Cond.code ({ cls := "java/lang/String", name := "startsWith", desc := "(Ljava/lang/String;)Z" } : Jvm.MethodName) jdk_42_method_76_code (2 : Nat) (Option.some Jvm.ClassFile.FieldType.boolean), Jvm.Cond.code ({ cls := "java/lang/String", name := "startsWith", desc := "(Ljava/lang/String;I)Z" } : Jvm.MethodName) jdk_42_method_75_code (8 : Nat) (Option.some Jvm.ClassFile.FieldType.boolean), Jvm.Cond.code ({ cls := "java/lang/String", name := "length", desc := "()I" } : Jvm.MethodName) jdk_42_method_54_code (1 : Nat) (Option.some Jvm.ClassFile.FieldType.int), Jvm.Cond.code ({ cls := "java/lang/String", name := "coder", desc := "()B" } : Jvm.MethodName) jdk_42_method_152_code (1 : Nat) (Option.some Jvm.ClassFile.FieldType.byte), Jvm.Cond.code ({ cls := "jdk/internal/util/ArraysSupport", name := "mismatch", desc := "([BI[BII)I" } : Jvm.MethodName) jdk_48_method_14_code (8 : Nat) (Option.some Jvm.ClassFile.FieldType.int)]
set_option maxRecDepth 65536 in
theorem codes_eq : words1.filter isCode = codes1 := rfl
theorem w_codes : ∀ c ∈ words1.filter isCode, c.before args0 about1 = true := by
  rw [codes_eq]
  intro c hc
  simp only [codes1, List.mem_cons, List.not_mem_nil, or_false] at hc
  rcases hc with rfl | rfl | rfl | rfl | rfl | rfl | rfl | rfl | rfl | rfl | rfl | rfl | rfl | rfl | rfl | rfl | rfl | rfl | rfl | rfl | rfl | rfl | rfl | rfl | rfl | rfl | rfl | rfl | rfl | rfl | rfl | rfl | rfl | rfl | rfl | rfl | rfl | rfl
  · exact w_c0
  · exact w_c1
  · exact w_c2
  · exact w_c3
  · exact w_c4
  · exact w_c5
  · exact w_c6
  · exact w_c7
  · exact w_c8
  · exact w_c9
  · exact w_c10
  · exact w_c11
  · exact w_c12
  · exact w_c13
  · exact w_c14
  · exact w_c15
  · exact w_c16
  · exact w_c17
  · exact w_c18
  · exact w_c19
  · exact w_c20
  · exact w_c21
  · exact w_c22
  · exact w_c23
  · exact w_c24
  · exact w_c25
  · exact w_c26
  · exact w_c27
  · exact w_c28
  · exact w_c29
  · exact w_c30
  · exact w_c31
  · exact w_c32
  · exact w_c33
  · exact w_c34
  · exact w_c35
  · exact w_c36
  · exact w_c37
set_option maxRecDepth 65536 in
theorem w_t1 : (words1.take 24).all (fun c => isCode c || c.before args0 about1) = true := by decide +kernel
set_option maxRecDepth 65536 in
theorem w_t2 : ((words1.drop 24).take 24).all (fun c => isCode c || c.before args0 about1) = true := by decide +kernel
set_option maxRecDepth 65536 in
theorem w_t3 : (((words1.drop 24).drop 24).take 24).all (fun c => isCode c || c.before args0 about1) = true := by decide +kernel
set_option maxRecDepth 65536 in
theorem w_t4 : ((((words1.drop 24).drop 24).drop 24).take 24).all (fun c => isCode c || c.before args0 about1) = true := by decide +kernel
set_option maxRecDepth 65536 in
theorem w_t5 : (((((words1.drop 24).drop 24).drop 24).drop 24).take 24).all (fun c => isCode c || c.before args0 about1) = true := by decide +kernel
set_option maxRecDepth 65536 in
theorem w_t6 : ((((((words1.drop 24).drop 24).drop 24).drop 24).drop 24).take 24).all (fun c => isCode c || c.before args0 about1) = true := by decide +kernel
set_option maxRecDepth 65536 in
theorem w_t7 : (((((((words1.drop 24).drop 24).drop 24).drop 24).drop 24).drop 24).take 24).all (fun c => isCode c || c.before args0 about1) = true := by decide +kernel
set_option maxRecDepth 65536 in
theorem w_t8 : ((((((((words1.drop 24).drop 24).drop 24).drop 24).drop 24).drop 24).drop 24).take 24).all (fun c => isCode c || c.before args0 about1) = true := by decide +kernel
set_option maxRecDepth 65536 in
theorem w_t9 : (((((((((words1.drop 24).drop 24).drop 24).drop 24).drop 24).drop 24).drop 24).drop 24).take 24).all (fun c => isCode c || c.before args0 about1) = true := by decide +kernel
set_option maxRecDepth 65536 in
theorem w_t10 : ((((((((((words1.drop 24).drop 24).drop 24).drop 24).drop 24).drop 24).drop 24).drop 24).drop 24).take 24).all (fun c => isCode c || c.before args0 about1) = true := by decide +kernel
set_option maxRecDepth 65536 in
theorem w_t11 : ((((((((((words1.drop 24).drop 24).drop 24).drop 24).drop 24).drop 24).drop 24).drop 24).drop 24).drop 24).all (fun c => isCode c || c.before args0 about1) = true := by decide +kernel
theorem w_tables : (allAtoms (Jvm.Cond.code x code maxLocals ret :: tables_1)).before args0 about1 = true := by
  rw [allAtoms_all]
  show words1.all (fun c => c.before args0 about1) = true
  refine all_split ?_ w_codes
  rw [← List.take_append_drop 24 words1, List.all_append, w_t1, ← List.take_append_drop 24 (words1.drop 24), List.all_append, w_t2, ← List.take_append_drop 24 ((words1.drop 24).drop 24), List.all_append, w_t3, ← List.take_append_drop 24 (((words1.drop 24).drop 24).drop 24), List.all_append, w_t4, ← List.take_append_drop 24 ((((words1.drop 24).drop 24).drop 24).drop 24), List.all_append, w_t5, ← List.take_append_drop 24 (((((words1.drop 24).drop 24).drop 24).drop 24).drop 24), List.all_append, w_t6, ← List.take_append_drop 24 ((((((words1.drop 24).drop 24).drop 24).drop 24).drop 24).drop 24), List.all_append, w_t7, ← List.take_append_drop 24 (((((((words1.drop 24).drop 24).drop 24).drop 24).drop 24).drop 24).drop 24), List.all_append, w_t8, ← List.take_append_drop 24 ((((((((words1.drop 24).drop 24).drop 24).drop 24).drop 24).drop 24).drop 24).drop 24), List.all_append, w_t9, ← List.take_append_drop 24 (((((((((words1.drop 24).drop 24).drop 24).drop 24).drop 24).drop 24).drop 24).drop 24).drop 24), List.all_append, w_t10, w_t11]
  rfl
set_option maxRecDepth 65536 in
theorem w_rest : rest_1_c.before args0 about1 = true := by decide +kernel
set_option maxRecDepth 65536 in
theorem w_case : (Jvm.Cond.and given_1 narrow_1).before args0 about1 = true := by decide +kernel
set_option maxRecDepth 65536 in
theorem w_consts : constsHeld consts_1 about1 := Jvm.Lit.constsHeldB_iff.mp (by decide +kernel)
theorem w_applies : (headSpec (Jvm.Cond.code x code maxLocals ret :: tables_1) room_1).applies x e0.platform about1 = true :=
  (Spec.applies_iff w_frames).mpr ⟨w_running, w_runnable, w_alone, w_named, w_hears, w_ripe, w_room, w_tables⟩
theorem atStart : AtStart classFile x code maxLocals ret World_1 tables_1 room_1 Calls_1 rest_1 Pre_1 launch0 p0 e0 about1 theMethod args0 below0 :=
  ⟨lists_1, trivial, launch0.admits_env _ _ _, launch0.least_env, fairChoices_fair.cas, fairChoices_fair.clock, w_frames, w_args, w_heap, w_applies, ⟨w_consts, trivial⟩, w_rest, w_case⟩
end start1
theorem witness_1 : WitnessClaimed_1 := ⟨start1.p0, start1.e0, start1.about1, start1.theMethod, start1.args0, start1.below0, start1.atStart⟩
end Jvm.Pilot.@@N@@
